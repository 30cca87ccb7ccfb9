import JvmDerived
import JvmDerived.Pilot.@@N@@Statement
import JvmDerived.Pilot.@@N@@Code
set_option linter.unusedVariables false
set_option linter.unusedSimpArgs false
@@BLOCK:NumsL.lean.txt@@
@@BLOCK:Masks.lean.txt@@
/- laws to paste: Road.backV, Road.eqW, Road.lenW, Road.chN, Road.codOf (cut by pick.py; bodies as the Statement names them) -/
namespace Jvm.Pilot.@@N@@
namespace StrChars
open Jvm Sem ClassFile Op Lib Jvm.Stand Jvm.Free.XT Jvm.Free.ALB Jvm.Free.JM Jvm.Free
open Jvm.Lib.Cold (StaticIs)
/-- a char array whose places are chars -/
def Ch (a : Addr) (A : Cell) (U : State) : Prop := Arr .char a A U ∧ Typed .char A
theorem Ch.mv {a : Addr} {A : Cell} {U U' : State} (h : Ch a A U) (hal : U.vm.Alike U'.vm) (hh : U'.heap = U.heap) : Ch a A U' := ⟨h.1.mv hal hh, h.2⟩
theorem Ch.keep {a : Addr} {A : Cell} {U U' : State} (h : Ch a A U) (hal : U.vm.Alike U'.vm) (hk : U'.heap[a]? = some A) : Ch a A U' := ⟨h.1.keep hal hk, h.2⟩
/-- what place i of a char[]'s cell holds -/
def cv (A : Cell) (i : Nat) : Int32 := match A.slots[i]? with | some (.int x) => x | _ => 0
theorem Ch.get {a : Addr} {A : Cell} {U : State} (h : Ch a A U) {i : Nat} (hi : i < A.slots.size) : A.slots[i]? = some (.int (cv A i)) := by
  have e := Array.getElem?_eq_getElem hi
  have f := h.2 i _ e
  unfold cv; rw [e]
  generalize A.slots[i] = v at f
  cases v <;> simp [fits] at f ⊢
/-- the byte that i2b leaves of a char -/
def lo8 (x : Int32) : Int32 := x.toInt8.toInt32
theorem fits_lo8 (y : Int32) : fits .byte (.int (lo8 y)) = true := by
  have h1 := y.toInt8.le_toInt
  have h2 := y.toInt8.toInt_lt
  simp only [lo8, fits, Bool.and_eq_true, decide_eq_true_eq, Int32.le_iff_toInt_le, Int8.toInt_toInt32, show (-128 : Int32).toInt = -128 from by decide, show (127 : Int32).toInt = 127 from by decide]
  omega
/-- A' is A but that each place j of lo .. hi - 1 holds f j -/
def Laid (A A' : Cell) (lo hi : Nat) (f : Nat → Value) : Prop := A'.cls = A.cls ∧ A'.vm = A.vm ∧ A'.slots.size = A.slots.size ∧ ∀ i, A'.slots[i]? = if lo ≤ i ∧ i < hi then some (f i) else A.slots[i]?
theorem Laid.zero (A : Cell) (lo : Nat) (f : Nat → Value) : Laid A A lo (lo + 0) f := ⟨rfl, rfl, rfl, fun i => by rw [if_neg (by omega)]⟩
theorem Laid.step {A Ak : Cell} {lo k : Nat} {f : Nat → Value} {v : Value} (h : Laid A Ak lo k f) (hlo : lo ≤ k) (hk : k < Ak.slots.size) (hv : v = f k) : Laid A (Ak.setSlot k v) lo (k + 1) f := by
  refine ⟨h.1, h.2.1, by simpa [Cell.setSlot] using h.2.2.1, fun i => ?_⟩
  by_cases e : k = i
  · subst e; rw [Cell.slots_setSlot_self v hk, if_pos (by omega), hv]
  · rw [Cell.slots_setSlot_ne v e, h.2.2.2 i]
    by_cases q : lo ≤ i ∧ i < k
    · rw [if_pos q, if_pos (by omega)]
    · rw [if_neg q, if_neg (by omega)]
def U16 : String := "java/lang/StringUTF16"
namespace Cmp5
def yN : MethodName := ⟨"java/lang/StringUTF16", "compress", "([CI[BII)I"⟩
abbrev yB : ByteArray := jdk_52_method_21_code
theorem d0 : decode yB 0 = .ok (.iconst 0, 1) := by decide +kernel
theorem d1 : decode yB 1 = .ok (.istore 5, 2) := by decide +kernel
theorem d3 : decode yB 3 = .ok (.iload 5, 2) := by decide +kernel
theorem d5 : decode yB 5 = .ok (.iload 4, 2) := by decide +kernel
theorem d7 : decode yB 7 = .ok (.if_icmp (.ge) 37, 3) := by decide +kernel
theorem d10 : decode yB 10 = .ok (.aload_n 0, 1) := by decide +kernel
theorem d11 : decode yB 11 = .ok (.iload_n 1, 1) := by decide +kernel
theorem d12 : decode yB 12 = .ok (.caload, 1) := by decide +kernel
theorem d13 : decode yB 13 = .ok (.istore 6, 2) := by decide +kernel
theorem d15 : decode yB 15 = .ok (.iload 6, 2) := by decide +kernel
theorem d17 : decode yB 17 = .ok (.sipush 255, 3) := by decide +kernel
theorem d20 : decode yB 20 = .ok (.if_icmp (.le) 6, 3) := by decide +kernel
theorem d26 : decode yB 26 = .ok (.aload_n 2, 1) := by decide +kernel
theorem d27 : decode yB 27 = .ok (.iload_n 3, 1) := by decide +kernel
theorem d28 : decode yB 28 = .ok (.iload 6, 2) := by decide +kernel
theorem d30 : decode yB 30 = .ok (.i2b, 1) := by decide +kernel
theorem d31 : decode yB 31 = .ok (.bastore, 1) := by decide +kernel
theorem d32 : decode yB 32 = .ok (.iinc 1 1, 3) := by decide +kernel
theorem d35 : decode yB 35 = .ok (.iinc 3 1, 3) := by decide +kernel
theorem d38 : decode yB 38 = .ok (.iinc 5 1, 3) := by decide +kernel
theorem d41 : decode yB 41 = .ok (.goto (-38), 3) := by decide +kernel
theorem d44 : decode yB 44 = .ok (.iload 4, 2) := by decide +kernel
theorem d46 : decode yB 46 = .ok (.ireturn, 1) := by decide +kernel
def site : List Cond := []
def tab : Cond := tabOf yN yB 7 (some .int) site
def P (b : Addr) (A : Cell) (d : Addr) (B : Cell) (o q len : Nat) (args : Array Value) (s : State) : Prop := args = #[.ref b, .int (Int32.ofNat o), .ref d, .int (Int32.ofNat q), .int (Int32.ofNat len)] ∧ Ch b A s ∧ Arr .byte d B s ∧ b ≠ d ∧ o + len ≤ A.slots.size ∧ q + len ≤ B.slots.size ∧ ∀ i, i < len → ¬ 255 < cv A (o + i)
def E (b : Addr) (A : Cell) (d : Addr) (B : Cell) (o q len : Nat) (r : Option Value) (s u : State) : Prop := r = some (.int (Int32.ofNat len)) ∧ ∃ B', Put d B' s u ∧ Laid B B' q (q + len) (fun j => Value.int (lo8 (cv A (o + (j - q)))))
/-- no char of the range above 255: len; the places written hold each char's low byte -/
theorem law (l : Launch) (b : Addr) (A : Cell) (d : Addr) (B : Cell) (o q len : Nat) : Law l yN 5 5 0 0 yB 7 (some .int) site (P b A d B o q len) (E b A d B o q len) (copyLocs d q len) 0 0 := by
  refine Law.of_walk (plainFor_of_name (by decide +kernel)) (by decide +kernel) (by decide +kernel) (by decide) (fun _ _ h => by rw [h.1]; rfl) (fun _ U U' hal hh h => ⟨h.1, h.2.1.mv hal hh, h.2.2.1.mv hal hh, h.2.2.2⟩) (fun r U U' V V' h1 hal h2 h => ⟨h.1, h.2.elim fun B' q => ⟨B', q.1.mv h1 h2, q.2⟩⟩) ?_
  intro p e s m args below meth c s₁ X0 hexec hbytes hml hret hlk hnm hown hh0 W hP
  obtain ⟨rfl, hA, hB, hne, l1, l2, hp⟩ := hP
  have c1 : Steps p.tables e below (s₁.setTop (entryFrame m #[.ref b, .int (Int32.ofNat o), .ref d, .int (Int32.ofNat q), .int (Int32.ofNat len)] 7)) (s₁.setTop (mkF m 0 #[.val (.ref b), .val (.int (Int32.ofNat o)), .val (.ref d), .val (.int (Int32.ofNat q)), .val (.int (Int32.ofNat len)), .unset, .unset] [])) := entry rfl
  have hA0 := hA.1.mv X0.warmed.alike hh0
  have hB0 := hB.mv X0.warmed.alike hh0
  have a31 := hA.1.2.2.2
  have c2 : Steps p.tables e below (s₁.setTop (entryFrame m #[.ref b, .int (Int32.ofNat o), .ref d, .int (Int32.ofNat q), .int (Int32.ofNat len)] 7)) (s₁.setTop (mkF m 3 #[.val (.ref b), .val (.int (Int32.ofNat o)), .val (.ref d), .val (.int (Int32.ofNat q)), .val (.int (Int32.ofNat len)), .val (.int 0), .unset] [])) := c1.trans (by
    refine iconstV X0.here hexec rfl 0 (hb hbytes d0) (by decide) ?_
    refine XS.istore X0.here hexec rfl (hb hbytes d1) rfl rfl ?_
    exact Steps.refl _)
  have loop : ∀ (r i : Nat), i + r = len → ∀ (z : Slot), (z = .unset ∨ ∃ w, z = .val w ∧ w.category = 1) → ∀ (Tl : State) (Bk : Cell), Stand p l e { frames := 0, locals := 0, cells := 0, slots := 0 } s m #[.ref b, .int (Int32.ofNat o), .ref d, .int (Int32.ofNat q), .int (Int32.ofNat len)] below meth c Tl ([] ++ copyLocs d q i) 0 0 → Put d Bk s₁ Tl → Laid B Bk q (q + i) (fun j => Value.int (lo8 (cv A (o + (j - q))))) →
      Steps p.tables e below (s₁.setTop (entryFrame m #[.ref b, .int (Int32.ofNat o), .ref d, .int (Int32.ofNat q), .int (Int32.ofNat len)] 7)) (Tl.setTop (mkF m 3 #[.val (.ref b), .val (.int (Int32.ofNat (o + i))), .val (.ref d), .val (.int (Int32.ofNat (q + i))), .val (.int (Int32.ofNat len)), .val (.int (Int32.ofNat i)), z] [])) → ∃ (T' : State) (B' : Cell) (z' : Slot), Stand p l e { frames := 0, locals := 0, cells := 0, slots := 0 } s m #[.ref b, .int (Int32.ofNat o), .ref d, .int (Int32.ofNat q), .int (Int32.ofNat len)] below meth c T' ([] ++ copyLocs d q len) 0 0 ∧ Put d B' s₁ T' ∧ Laid B B' q (q + len) (fun j => Value.int (lo8 (cv A (o + (j - q))))) ∧
      Steps p.tables e below (s₁.setTop (entryFrame m #[.ref b, .int (Int32.ofNat o), .ref d, .int (Int32.ofNat q), .int (Int32.ofNat len)] 7)) (T'.setTop (mkF m 3 #[.val (.ref b), .val (.int (Int32.ofNat (o + len))), .val (.ref d), .val (.int (Int32.ofNat (q + len))), .val (.int (Int32.ofNat len)), .val (.int (Int32.ofNat len)), z'] [])) := by
    intro r
    induction r with
    | zero =>
      intro i hi z hz Tl Bk Xl pl fl cl
      have hil : i = len := by omega
      rw [hil] at Xl fl cl
      exact ⟨Tl, Bk, z, Xl, pl, fl, cl⟩
    | succ r ih =>
      intro i hi z hz Tl Bk Xl pl fl cl
      have all := X0.warmed.alike.symm.trans Xl.warmed.alike
      have hAl := hA0.keep all (pl.other hne hA0.1)
      have hBk := hB0.like all pl.1 fl.1 fl.2.1 fl.2.2.1
      have hlt : q + i < Bk.slots.size := by rw [fl.2.2.1]; omega
      have c3 : Steps p.tables e below (s₁.setTop (entryFrame m #[.ref b, .int (Int32.ofNat o), .ref d, .int (Int32.ofNat q), .int (Int32.ofNat len)] 7)) (Tl.setTop (mkF m 12 #[.val (.ref b), .val (.int (Int32.ofNat (o + i))), .val (.ref d), .val (.int (Int32.ofNat (q + i))), .val (.int (Int32.ofNat len)), .val (.int (Int32.ofNat i)), z] [.int (Int32.ofNat (o + i)), .ref b])) := cl.trans (by
        refine XS.iload Xl.here hexec rfl (hb hbytes d3) rfl ?_
        refine XS.iload Xl.here hexec rfl (hb hbytes d5) rfl ?_
        refine XS.icmpNo Xl.here hexec rfl (hb hbytes d7) rfl (ii_ge_f (lt32 (by omega) (by omega))) ?_
        refine XS.aloadN Xl.here hexec rfl (hb hbytes d10) rfl rfl ?_
        refine XS.iloadN Xl.here hexec rfl (hb hbytes d11) rfl ?_
        exact Steps.refl _)
      have c4 : Steps p.tables e below (s₁.setTop (entryFrame m #[.ref b, .int (Int32.ofNat o), .ref d, .int (Int32.ofNat q), .int (Int32.ofNat len)] 7)) (Tl.setTop (mkF m 13 #[.val (.ref b), .val (.int (Int32.ofNat (o + i))), .val (.ref d), .val (.int (Int32.ofNat (q + i))), .val (.int (Int32.ofNat len)), .val (.int (Int32.ofNat i)), z] [.int (cv A (o + i))])) := c3.trans (by
        refine Xl.aget hexec hAl rfl (hA.get (i := o + i) (by omega)) rfl rfl (hb hbytes d12) ?_
        exact Steps.refl _)
      have c5 : Steps p.tables e below (s₁.setTop (entryFrame m #[.ref b, .int (Int32.ofNat o), .ref d, .int (Int32.ofNat q), .int (Int32.ofNat len)] 7)) (Tl.setTop (mkF m 15 #[.val (.ref b), .val (.int (Int32.ofNat (o + i))), .val (.ref d), .val (.int (Int32.ofNat (q + i))), .val (.int (Int32.ofNat len)), .val (.int (Int32.ofNat i)), .val (.int (cv A (o + i)))] [])) := c4.trans (by
        refine XS.istoreS Xl.here hexec rfl (hb hbytes d13) rfl rfl hz ?_
        exact Steps.refl _)
      have c6 : Steps p.tables e below (s₁.setTop (entryFrame m #[.ref b, .int (Int32.ofNat o), .ref d, .int (Int32.ofNat q), .int (Int32.ofNat len)] 7)) (Tl.setTop (mkF m 31 #[.val (.ref b), .val (.int (Int32.ofNat (o + i))), .val (.ref d), .val (.int (Int32.ofNat (q + i))), .val (.int (Int32.ofNat len)), .val (.int (Int32.ofNat i)), .val (.int (cv A (o + i)))] [.int (lo8 (cv A (o + i))), .int (Int32.ofNat (q + i)), .ref d])) := c5.trans (by
        refine XS.iload Xl.here hexec rfl (hb hbytes d15) rfl ?_
        refine sipushV Xl.here hexec rfl 255 (hb hbytes d17) (by decide) ?_
        refine XS.icmpYes Xl.here hexec rfl (pc0 := 20) rfl (hb hbytes d20) rfl (ii_le_t (hp i (by omega))) (by decide) rfl ?_
        refine XS.aloadN Xl.here hexec rfl (hb hbytes d26) rfl rfl ?_
        refine XS.iloadN Xl.here hexec rfl (hb hbytes d27) rfl ?_
        refine XS.iload Xl.here hexec rfl (hb hbytes d28) rfl ?_
        refine i2b Xl.here hexec rfl (hb hbytes d30) rfl ?_
        exact Steps.refl _)
      obtain ⟨T7, X7, p7, st7⟩ := Xl.aput hexec hBk rfl hlt rfl (fits_lo8 (cv A (o + i))) (g := (mkF m 31 #[.val (.ref b), .val (.int (Int32.ofNat (o + i))), .val (.ref d), .val (.int (Int32.ofNat (q + i))), .val (.int (Int32.ofNat len)), .val (.int (Int32.ofNat i)), .val (.int (cv A (o + i)))] [.int (lo8 (cv A (o + i))), .int (Int32.ofNat (q + i)), .ref d])) rfl (rest := []) rfl (hb hbytes d31)
      have c8 : Steps p.tables e below (s₁.setTop (entryFrame m #[.ref b, .int (Int32.ofNat o), .ref d, .int (Int32.ofNat q), .int (Int32.ofNat len)] 7)) (T7.setTop (mkF m 32 #[.val (.ref b), .val (.int (Int32.ofNat (o + i))), .val (.ref d), .val (.int (Int32.ofNat (q + i))), .val (.int (Int32.ofNat len)), .val (.int (Int32.ofNat i)), .val (.int (cv A (o + i)))] [])) := c6.trans (st7 _ (Steps.refl _))
      have c9 : Steps p.tables e below (s₁.setTop (entryFrame m #[.ref b, .int (Int32.ofNat o), .ref d, .int (Int32.ofNat q), .int (Int32.ofNat len)] 7)) (T7.setTop (mkF m 3 #[.val (.ref b), .val (.int (Int32.ofNat (o + i) + 1)), .val (.ref d), .val (.int (Int32.ofNat (q + i) + 1)), .val (.int (Int32.ofNat len)), .val (.int (Int32.ofNat i + 1)), .val (.int (cv A (o + i)))] [])) := c8.trans (by
        refine iincV X7.here hexec rfl 1 (hb hbytes d32) (by decide) rfl rfl ?_
        refine iincV X7.here hexec rfl 1 (hb hbytes d35) (by decide) rfl rfl ?_
        refine iincV X7.here hexec rfl 1 (hb hbytes d38) (by decide) rfl rfl ?_
        refine XS.goto X7.here hexec rfl (pc0 := 41) rfl (hb hbytes d41) (by decide) rfl ?_
        exact Steps.refl _)
      have c10 : Steps p.tables e below (s₁.setTop (entryFrame m #[.ref b, .int (Int32.ofNat o), .ref d, .int (Int32.ofNat q), .int (Int32.ofNat len)] 7)) (T7.setTop (mkF m 3 #[.val (.ref b), .val (.int (Int32.ofNat (o + (i + 1)))), .val (.ref d), .val (.int (Int32.ofNat (q + (i + 1)))), .val (.int (Int32.ofNat len)), .val (.int (Int32.ofNat (i + 1))), .val (.int (cv A (o + i)))] [])) := by
        have := c9
        rw [succ32, succ32, succ32] at this
        exact this
      exact ih (i + 1) (by omega) _ (Or.inr ⟨_, rfl, rfl⟩) T7 _ (by rw [copyLocs_step, ← List.append_assoc]; exact X7) (pl.trans p7) (fl.step (by omega) hlt (by simp)) c10
  obtain ⟨T9, B9, z9, X9, p9, f9, g9⟩ := loop len 0 (by omega) .unset (Or.inl rfl) s₁ B (by simpa [copyLocs] using X0) ⟨hB0.1, fun _ _ => rfl, rfl⟩ (Laid.zero _ _ _) c2
  have c11 : Steps p.tables e below (s₁.setTop (entryFrame m #[.ref b, .int (Int32.ofNat o), .ref d, .int (Int32.ofNat q), .int (Int32.ofNat len)] 7)) (T9.setTop (mkF m 46 #[.val (.ref b), .val (.int (Int32.ofNat (o + len))), .val (.ref d), .val (.int (Int32.ofNat (q + len))), .val (.int (Int32.ofNat len)), .val (.int (Int32.ofNat len)), z9] [.int (Int32.ofNat len)])) := g9.trans (by
    refine XS.iload X9.here hexec rfl (hb hbytes d3) rfl ?_
    refine XS.iload X9.here hexec rfl (hb hbytes d5) rfl ?_
    refine XS.icmpYes X9.here hexec rfl (pc0 := 7) rfl (hb hbytes d7) rfl (ii_ge_t (nlt32 (by omega) (Nat.le_refl _))) (by decide) rfl ?_
    refine XS.iload X9.here hexec rfl (hb hbytes d44) rfl ?_
    exact Steps.refl _)
  exact ⟨T9, some (.int (Int32.ofNat len)), _, _, _, X9, by simp, rfl, rfl, (fun h => by cases h), ⟨rfl, B9, p9.from hh0, f9⟩, fun fs hl => c11.trans (X9.ireturnOut hexec hret rfl (Or.inl rfl) (hb hbytes d46) hl)⟩
end Cmp5
namespace Cmp3
def yN : MethodName := ⟨"java/lang/StringUTF16", "compress", "([CII)[B"⟩
abbrev yB : ByteArray := jdk_52_method_16_code
theorem d0 : decode yB 0 = .ok (.iload_n 2, 1) := by decide +kernel
theorem d1 : decode yB 1 = .ok (.newarray .byte, 2) := by decide +kernel
theorem d3 : decode yB 3 = .ok (.astore_n 3, 1) := by decide +kernel
theorem d4 : decode yB 4 = .ok (.aload_n 0, 1) := by decide +kernel
theorem d5 : decode yB 5 = .ok (.iload_n 1, 1) := by decide +kernel
theorem d6 : decode yB 6 = .ok (.aload_n 3, 1) := by decide +kernel
theorem d7 : decode yB 7 = .ok (.iconst 0, 1) := by decide +kernel
theorem d8 : decode yB 8 = .ok (.iload_n 2, 1) := by decide +kernel
theorem d9 : decode yB 9 = .ok (.invokestatic 115, 3) := by decide +kernel
theorem d12 : decode yB 12 = .ok (.istore 4, 2) := by decide +kernel
theorem d14 : decode yB 14 = .ok (.iload 4, 2) := by decide +kernel
theorem d16 : decode yB 16 = .ok (.iload_n 2, 1) := by decide +kernel
theorem d17 : decode yB 17 = .ok (.if_icmp (.eq) 40, 3) := by decide +kernel
theorem d57 : decode yB 57 = .ok (.aload_n 3, 1) := by decide +kernel
theorem d58 : decode yB 58 = .ok (.areturn, 1) := by decide +kernel
def site : List Cond := [.arrayClass .byte, Cmp5.tab] ++ staticW U16 115 Cmp5.yN
def tab : Cond := tabOf yN yB 6 (some (.array .byte)) site
def P (b : Addr) (A : Cell) (o len : Nat) (args : Array Value) (s : State) : Prop := args = #[.ref b, .int (Int32.ofNat o), .int (Int32.ofNat len)] ∧ Ch b A s ∧ o + len ≤ A.slots.size ∧ len ≤ 536870912 ∧ ∀ i, i < len → ¬ 255 < cv A (o + i)
def E (b : Addr) (A : Cell) (o len : Nat) (r : Option Value) (s u : State) : Prop := NewArr .byte "[B" len (fun j => .int (lo8 (cv A (o + j)))) r s u ∧ u.heap.size = s.heap.size + 1
/-- no char of the range above 255: a new byte[] of their low bytes -/
theorem law (l : Launch) (b : Addr) (A : Cell) (o len : Nat) : Law l yN 3 3 1 18 yB 6 (some (.array .byte)) site (P b A o len) (E b A o len) [] 1 len := by
  refine Law.of_walk (plainFor_of_name (by decide +kernel)) (by decide +kernel) (by decide +kernel) (by decide) (fun _ _ h => by rw [h.1]; rfl) (fun _ U U' hal hh h => ⟨h.1, h.2.1.mv hal hh, h.2.2⟩) (fun r U U' V V' h1 hal h2 h => ⟨NewArr.mv r U U' V V' h1 hal h2 h.1, by rw [h1, h2]; exact h.2⟩) ?_
  intro p e s m args below meth c s₁ X0 hexec hbytes hml hret hlk hnm hown hh0 W hP
  obtain ⟨rfl, hA, l1, l2, hp⟩ := hP
  have a31 := hA.1.2.2.2
  have c1 : Steps p.tables e below (s₁.setTop (entryFrame m #[.ref b, .int (Int32.ofNat o), .int (Int32.ofNat len)] 6)) (s₁.setTop (mkF m 0 #[.val (.ref b), .val (.int (Int32.ofNat o)), .val (.int (Int32.ofNat len)), .unset, .unset, .unset] [])) := entry rfl
  have c2 : Steps p.tables e below (s₁.setTop (entryFrame m #[.ref b, .int (Int32.ofNat o), .int (Int32.ofNat len)] 6)) (s₁.setTop (mkF m 1 #[.val (.ref b), .val (.int (Int32.ofNat o)), .val (.int (Int32.ofNat len)), .unset, .unset, .unset] [.int (Int32.ofNat len)])) := c1.trans (by
    refine XS.iloadN X0.here hexec rfl (hb hbytes d0) rfl ?_
    exact Steps.refl _)
  obtain ⟨T3, B3, X3, ba3, bs3, bv3, bh3, bf3, st3⟩ := X0.anew hexec (atype := .byte) (wk W (.arrayClass .byte)) rfl (by show len * 1 ≤ _; omega) (by omega) (g := (mkF m 1 #[.val (.ref b), .val (.int (Int32.ofNat o)), .val (.int (Int32.ofNat len)), .unset, .unset, .unset] [.int (Int32.ofNat len)])) rfl (hb hbytes d1) (rest := []) rfl (Nat.le_refl _) (by show 0 + len ≤ len; omega)
  rw [hh0] at ba3 st3
  have kp3 : XT.Kept s T3 := (XT.Kept.of_eq hh0).push bh3
  have hA3 := hA.keep X3.warmed.alike (kp3 _ _ hA.1.1)
  have hne : b ≠ s.heap.size := hA.1.ne
  have c4 : Steps p.tables e below (s₁.setTop (entryFrame m #[.ref b, .int (Int32.ofNat o), .int (Int32.ofNat len)] 6)) (T3.setTop (mkF m 3 #[.val (.ref b), .val (.int (Int32.ofNat o)), .val (.int (Int32.ofNat len)), .unset, .unset, .unset] [.ref s.heap.size])) := c2.trans (st3 _ (Steps.refl _))
  have c5 : Steps p.tables e below (s₁.setTop (entryFrame m #[.ref b, .int (Int32.ofNat o), .int (Int32.ofNat len)] 6)) (T3.setTop (mkF m 9 #[.val (.ref b), .val (.int (Int32.ofNat o)), .val (.int (Int32.ofNat len)), .val (.ref s.heap.size), .unset, .unset] [.int (Int32.ofNat len), .int 0, .ref s.heap.size, .int (Int32.ofNat o), .ref b])) := c4.trans (by
    refine XS.astoreN X3.here hexec rfl (hb hbytes d3) rfl rfl rfl ?_
    refine XS.aloadN X3.here hexec rfl (hb hbytes d4) rfl rfl ?_
    refine XS.iloadN X3.here hexec rfl (hb hbytes d5) rfl ?_
    refine XS.aloadN X3.here hexec rfl (hb hbytes d6) rfl rfl ?_
    refine iconstV X3.here hexec rfl 0 (hb hbytes d7) (by decide) ?_
    refine XS.iloadN X3.here hexec rfl (hb hbytes d8) rfl ?_
    exact Steps.refl _)
  obtain ⟨v6, T6, X6, E6, g6⟩ := X3.callS hexec (Cmp5.law l b A s.heap.size B3 o 0 len) hown (wks W (staticW U16 115 Cmp5.yN)) (wk W Cmp5.tab) (W := 0) (Nat.le_of_ble_eq_true rfl) (Nat.le_of_ble_eq_true rfl) (Nat.le_refl _) (by show 0 + len + 0 ≤ len; omega) (g := (mkF m 9 #[.val (.ref b), .val (.int (Int32.ofNat o)), .val (.int (Int32.ofNat len)), .val (.ref s.heap.size), .unset, .unset] [.int (Int32.ofNat len), .int (Int32.ofNat 0), .ref s.heap.size, .int (Int32.ofNat o), .ref b])) rfl (by rw [hml]; rfl) c5 (argsL := [.ref b, .int (Int32.ofNat o), .ref s.heap.size, .int (Int32.ofNat 0), .int (Int32.ofNat len)]) (rest := []) rfl rfl (by show 2 * 0 + 0 ≤ _; decide) (hb hbytes d9) (⟨rfl, hA3, ba3, hne, l1, by rw [bs3]; simp, hp⟩)
  obtain ⟨rfl, B6, p6, f6⟩ := E6
  have c7 : Steps p.tables e below (s₁.setTop (entryFrame m #[.ref b, .int (Int32.ofNat o), .int (Int32.ofNat len)] 6)) (T6.setTop (mkF m 12 #[.val (.ref b), .val (.int (Int32.ofNat o)), .val (.int (Int32.ofNat len)), .val (.ref s.heap.size), .unset, .unset] [.int (Int32.ofNat len)])) := g6
  have c8 : Steps p.tables e below (s₁.setTop (entryFrame m #[.ref b, .int (Int32.ofNat o), .int (Int32.ofNat len)] 6)) (T6.setTop (mkF m 58 #[.val (.ref b), .val (.int (Int32.ofNat o)), .val (.int (Int32.ofNat len)), .val (.ref s.heap.size), .val (.int (Int32.ofNat len)), .unset] [.ref s.heap.size])) := c7.trans (by
    refine XS.istore X6.here hexec rfl (hb hbytes d12) rfl rfl ?_
    refine XS.iload X6.here hexec rfl (hb hbytes d14) rfl ?_
    refine XS.iloadN X6.here hexec rfl (hb hbytes d16) rfl ?_
    refine XS.icmpYes X6.here hexec rfl (pc0 := 17) rfl (hb hbytes d17) rfl (ii_eq_t rfl) (by decide) rfl ?_
    refine XS.aloadN X6.here hexec rfl (hb hbytes d57) rfl rfl ?_
    exact Steps.refl _)
  have X8 := X6.wide (L' := []) (cells' := 1) (slots' := len) (fun x hx hlt => by
    simp only [List.nil_append, copyLocs, List.mem_map, List.mem_range] at hx
    obtain ⟨i, -, rfl⟩ := hx
    exact absurd hlt (Nat.lt_irrefl _)) (Nat.le_refl _) (by omega)
  exact ⟨T6, some (.ref s.heap.size), _, _, _, X8, rfl, rfl, rfl, (fun h => by cases h), ⟨⟨rfl, B6, ba3.like (X3.warmed.alike.symm.trans X6.warmed.alike) p6.1 f6.1 f6.2.1 f6.2.2.1, f6.2.1.trans bv3, by rw [X6.warmed.alike.findClass, f6.1]; exact bf3, by rw [f6.2.2.1, bs3]; simp, fun j hj => by rw [f6.2.2.2 j, if_pos (by omega)]; rfl, kp3.put p6 (Nat.le_refl _)⟩, by rw [p6.2.2, bh3, hh0]; simp⟩, fun fs hl => c8.trans (X8.areturnOut hexec rfl hret rfl (hb hbytes d58) hl)⟩
end Cmp3
namespace CodL
def yN : MethodName := ⟨"java/lang/StringUTF16", "coderFromArrayLen", "([BI)B"⟩
abbrev yB : ByteArray := jdk_52_method_15_code
theorem d0 : decode yB 0 = .ok (.iload_n 1, 1) := by decide +kernel
theorem d1 : decode yB 1 = .ok (.aload_n 0, 1) := by decide +kernel
theorem d2 : decode yB 2 = .ok (.arraylength, 1) := by decide +kernel
theorem d3 : decode yB 3 = .ok (.isub, 1) := by decide +kernel
theorem d4 : decode yB 4 = .ok (.bipush 31, 2) := by decide +kernel
theorem d6 : decode yB 6 = .ok (.iushr, 1) := by decide +kernel
theorem d7 : decode yB 7 = .ok (.i2b, 1) := by decide +kernel
theorem d8 : decode yB 8 = .ok (.ireturn, 1) := by decide +kernel
def site : List Cond := []
def tab : Cond := tabOf yN yB 2 (some .byte) site
def P (d : Addr) (B : Cell) (args : Array Value) (s : State) : Prop := args = #[.ref d, .int (Int32.ofNat B.slots.size)] ∧ Arr .byte d B s
def E (r : Option Value) (s u : State) : Prop := XT.PureE (some (.int 0)) r s u
/-- an array as long as the number of chars: LATIN1 -/
theorem law (l : Launch) (d : Addr) (B : Cell) : Law l yN 2 2 0 0 yB 2 (some .byte) site (P d B) E [] 0 0 := by
  refine Law.of_walk (plainFor_of_name (by decide +kernel)) (by decide +kernel) (by decide +kernel) (by decide) (fun _ _ h => by rw [h.1]; rfl) (fun _ U U' hal hh h => ⟨h.1, h.2.mv hal hh⟩) (fun r U U' V V' h1 hal h2 h => XT.PureE.mv r U U' V V' h1 hal h2 h) ?_
  intro p e s m args below meth c s₁ X0 hexec hbytes hml hret hlk hnm hown hh0 W hP
  obtain ⟨rfl, hB⟩ := hP
  have hB0 := hB.mv X0.warmed.alike hh0
  have c1 : Steps p.tables e below (s₁.setTop (entryFrame m #[.ref d, .int (Int32.ofNat B.slots.size)] 2)) (s₁.setTop (mkF m 0 #[.val (.ref d), .val (.int (Int32.ofNat B.slots.size))] [])) := entry rfl
  have c2 : Steps p.tables e below (s₁.setTop (entryFrame m #[.ref d, .int (Int32.ofNat B.slots.size)] 2)) (s₁.setTop (mkF m 2 #[.val (.ref d), .val (.int (Int32.ofNat B.slots.size))] [.ref d, .int (Int32.ofNat B.slots.size)])) := c1.trans (by
    refine XS.iloadN X0.here hexec rfl (hb hbytes d0) rfl ?_
    refine XS.aloadN X0.here hexec rfl (hb hbytes d1) rfl rfl ?_
    exact Steps.refl _)
  have c3 : Steps p.tables e below (s₁.setTop (entryFrame m #[.ref d, .int (Int32.ofNat B.slots.size)] 2)) (s₁.setTop (mkF m 8 #[.val (.ref d), .val (.int (Int32.ofNat B.slots.size))] [.int (lo8 (ushr (Int32.ofNat B.slots.size - Int32.ofNat B.slots.size) 31))])) := c2.trans (by
    refine X0.alen hexec hB0 rfl rfl (hb hbytes d2) ?_
    refine XS.isub X0.here hexec rfl (hb hbytes d3) rfl ?_
    refine bipushV X0.here hexec rfl 31 (hb hbytes d4) (by decide) ?_
    refine iushr X0.here hexec rfl (hb hbytes d6) rfl ?_
    refine i2b X0.here hexec rfl (hb hbytes d7) rfl ?_
    exact Steps.refl _)
  have e0 : lo8 (ushr (Int32.ofNat B.slots.size - Int32.ofNat B.slots.size) 31) = 0 := by rw [Int32.sub_self]; decide
  rw [e0] at c3
  exact ⟨s₁, some (.int 0), _, _, _, X0, rfl, rfl, rfl, (fun h => by cases h), ⟨rfl, hh0⟩, fun fs hl => c3.trans (X0.ireturnOut hexec hret rfl (Or.inr (Or.inr (Or.inl rfl))) (hb hbytes d8) hl)⟩
end CodL
/-- the String at a is Latin-1 over a new byte[] (the heap's one new cell): the low bytes of the len chars of A from o on; every cell but a is kept -/
def Got (a : Addr) (D : Cell) (fV fC : Field) (A : Cell) (o len : Nat) (r : Option Value) (s u : State) : Prop := r = none ∧ ∃ D' V : Cell, Blank "java/lang/String" a D' u ∧ Same D D' [fV.slot, fC.slot] ∧ D'.slots[fV.slot]? = some (.ref s.heap.size) ∧ D'.slots[fC.slot]? = some (.int 0) ∧ Arr .byte s.heap.size V u ∧ V.vm = .none ∧ u.vm.findClass "[B" = some V.cls ∧ V.slots.size = len ∧ (∀ j, j < len → V.slots[j]? = some (.int (lo8 (cv A (o + j))))) ∧ (∀ (y : Addr) (c : Cell), y ≠ a → s.heap[y]? = some c → u.heap[y]? = some c) ∧ u.heap.size = s.heap.size + 1
theorem Got.mv {a : Addr} {D A : Cell} {fV fC : Field} {o len : Nat} : ∀ r (U U' V V' : State), U'.heap = U.heap → V.vm.Alike V'.vm → V'.heap = V.heap → Got a D fV fC A o len r U V → Got a D fV fC A o len r U' V' :=
  fun r U U' V V' h1 hal h2 ⟨e0, D', X, a1, a2, a3, a4, a5, a6, a7, a8, a9, a10, a11⟩ => ⟨e0, D', X, a1.mv hal h2, a2, by rw [h1]; exact a3, a4, by rw [h1]; exact a5.mv hal h2, a6, by rw [hal.findClass]; exact a7, a8, a9, by rw [h1, h2]; exact a10, by rw [h1, h2]; exact a11⟩
namespace New4
def yN : MethodName := ⟨"java/lang/String", "<init>", "([CIILjava/lang/Void;)V"⟩
abbrev yB : ByteArray := jdk_42_method_149_code
theorem d0 : decode yB 0 = .ok (.aload_n 0, 1) := by decide +kernel
theorem d1 : decode yB 1 = .ok (.invokespecial 1, 3) := by decide +kernel
theorem d4 : decode yB 4 = .ok (.iload_n 3, 1) := by decide +kernel
theorem d5 : decode yB 5 = .ok (.ifCond (.ne) 22, 3) := by decide +kernel
theorem d27 : decode yB 27 = .ok (.getstatic 38, 3) := by decide +kernel
theorem d30 : decode yB 30 = .ok (.ifCond (.eq) 28, 3) := by decide +kernel
theorem d33 : decode yB 33 = .ok (.aload_n 1, 1) := by decide +kernel
theorem d34 : decode yB 34 = .ok (.iload_n 2, 1) := by decide +kernel
theorem d35 : decode yB 35 = .ok (.iload_n 3, 1) := by decide +kernel
theorem d36 : decode yB 36 = .ok (.invokestatic 177, 3) := by decide +kernel
theorem d39 : decode yB 39 = .ok (.astore 5, 2) := by decide +kernel
theorem d41 : decode yB 41 = .ok (.aload_n 0, 1) := by decide +kernel
theorem d42 : decode yB 42 = .ok (.aload 5, 2) := by decide +kernel
theorem d44 : decode yB 44 = .ok (.iload_n 3, 1) := by decide +kernel
theorem d45 : decode yB 45 = .ok (.invokestatic 47, 3) := by decide +kernel
theorem d48 : decode yB 48 = .ok (.putfield 15, 3) := by decide +kernel
theorem d51 : decode yB 51 = .ok (.aload_n 0, 1) := by decide +kernel
theorem d52 : decode yB 52 = .ok (.aload 5, 2) := by decide +kernel
theorem d54 : decode yB 54 = .ok (.putfield 9, 3) := by decide +kernel
theorem d57 : decode yB 57 = .ok (.return_, 1) := by decide +kernel
def site : List Cond := [.fieldLink "java/lang/String" 38 "java/lang/String" "COMPACT_STRINGS" "Z", Cmp3.tab, CodL.tab, .laysFinal "java/lang/String" "java/lang/String" "value" "[B", .fieldLink "java/lang/String" 9 "java/lang/String" "value" "[B", .laysFinal "java/lang/String" "java/lang/String" "coder" "B", .fieldLink "java/lang/String" 15 "java/lang/String" "coder" "B"] ++ objW "java/lang/String" 1 ++ staticW "java/lang/String" 177 Cmp3.yN ++ staticW "java/lang/String" 47 CodL.yN
def tab : Cond := tabOf yN yB 6 none site
def P (a : Addr) (D : Cell) (fV fC : Field) (b : Addr) (A : Cell) (z : Int32) (o len : Nat) (args : Array Value) (s : State) : Prop := args = #[.ref a, .ref b, .int (Int32.ofNat o), .int (Int32.ofNat len), .null] ∧ Blank "java/lang/String" a D s ∧ Found "java/lang/String" "value" "[B" fV s ∧ Found "java/lang/String" "coder" "B" fC s ∧ Ch b A s ∧ StaticIs s "java/lang/String" "COMPACT_STRINGS" "Z" (.int z) ∧ ¬ z = 0 ∧ 0 < len ∧ o + len ≤ A.slots.size ∧ len ≤ 536870912 ∧ ∀ i, i < len → ¬ 255 < cv A (o + i)
def E (a : Addr) (D : Cell) (fV fC : Field) (A : Cell) (o len : Nat) (r : Option Value) (s u : State) : Prop := Got a D fV fC A o len r s u
/-- len > 0, no char of the range above 255: a Latin-1 String of their low bytes -/
theorem law (l : Launch) (a : Addr) (D : Cell) (fV fC : Field) (b : Addr) (A : Cell) (z : Int32) (o len : Nat) : Law l yN 5 4 2 35 yB 6 none site (P a D fV fC b A z o len) (E a D fV fC A o len) [⟨a, fC.slot⟩, ⟨a, fV.slot⟩] 1 len := by
  refine Law.of_walk (plainFor_of_name (by decide +kernel)) (by decide +kernel) (by decide +kernel) (by decide) (fun _ _ h => by rw [h.1]; rfl) (fun _ U U' hal hh h => ⟨h.1, h.2.1.mv hal hh, h.2.2.1.al hal, h.2.2.2.1.al hal, h.2.2.2.2.1.mv hal hh, h.2.2.2.2.2.1.there hal hh, h.2.2.2.2.2.2⟩) (fun r U U' V V' h1 hal h2 h => Got.mv r U U' V V' h1 hal h2 h) ?_
  intro p e s m args below meth c s₁ X0 hexec hbytes hml hret hlk hnm hown hh0 W hP
  obtain ⟨rfl, hB, f1, f2, hA, s1, hz, l0, l1, l2, hp⟩ := hP
  have a31 := hA.1.2.2.2
  have c1 : Steps p.tables e below (s₁.setTop (entryFrame m #[.ref a, .ref b, .int (Int32.ofNat o), .int (Int32.ofNat len), .null] 6)) (s₁.setTop (mkF m 0 #[.val (.ref a), .val (.ref b), .val (.int (Int32.ofNat o)), .val (.int (Int32.ofNat len)), .val .null, .unset] [])) := entry rfl
  have c2 : Steps p.tables e below (s₁.setTop (entryFrame m #[.ref a, .ref b, .int (Int32.ofNat o), .int (Int32.ofNat len), .null] 6)) (s₁.setTop (mkF m 1 #[.val (.ref a), .val (.ref b), .val (.int (Int32.ofNat o)), .val (.int (Int32.ofNat len)), .val .null, .unset] [.ref a])) := c1.trans (by
    refine XS.aloadN X0.here hexec rfl (hb hbytes d0) rfl rfl ?_
    exact Steps.refl _)
  obtain ⟨T3, X3, q3, st3⟩ := X0.oinit hexec hown (wks W (objW "java/lang/String" 1)) (g := (mkF m 1 #[.val (.ref a), .val (.ref b), .val (.int (Int32.ofNat o)), .val (.int (Int32.ofNat len)), .val .null, .unset] [.ref a])) rfl (by rw [hml]; rfl) (rest := []) rfl (hb hbytes d1) (W := 0) (by show 2 * 0 + 0 ≤ _; decide) (Nat.le_of_ble_eq_true rfl) (Nat.le_of_ble_eq_true rfl)
  have hh3 := q3.trans hh0
  have c4 : Steps p.tables e below (s₁.setTop (entryFrame m #[.ref a, .ref b, .int (Int32.ofNat o), .int (Int32.ofNat len), .null] 6)) (T3.setTop (mkF m 27 #[.val (.ref a), .val (.ref b), .val (.int (Int32.ofNat o)), .val (.int (Int32.ofNat len)), .val .null, .unset] [])) := (c2.trans (st3 _ (Steps.refl _))).trans (by
    refine XS.iloadN X3.here hexec rfl (hb hbytes d4) rfl ?_
    refine XS.ifYes X3.here hexec rfl (pc0 := 5) rfl (hb hbytes d5) rfl (i0_ne_t (nz32 (by omega) l0)) (by decide) rfl ?_
    exact Steps.refl _)
  obtain ⟨T5, X5, q5, st5⟩ := X3.sget hexec hown (wk W (.fieldLink "java/lang/String" 38 "java/lang/String" "COMPACT_STRINGS" "Z")) s1 (fun _ _ h => by rw [hh3]; exact h) (g := (mkF m 27 #[.val (.ref a), .val (.ref b), .val (.int (Int32.ofNat o)), .val (.int (Int32.ofNat len)), .val .null, .unset] [])) rfl (hb hbytes d27)
  have hh5 := q5.trans hh3
  have c6 : Steps p.tables e below (s₁.setTop (entryFrame m #[.ref a, .ref b, .int (Int32.ofNat o), .int (Int32.ofNat len), .null] 6)) (T5.setTop (mkF m 30 #[.val (.ref a), .val (.ref b), .val (.int (Int32.ofNat o)), .val (.int (Int32.ofNat len)), .val .null, .unset] [.int z])) := c4.trans (st5 _ (Steps.refl _))
  have c7 : Steps p.tables e below (s₁.setTop (entryFrame m #[.ref a, .ref b, .int (Int32.ofNat o), .int (Int32.ofNat len), .null] 6)) (T5.setTop (mkF m 36 #[.val (.ref a), .val (.ref b), .val (.int (Int32.ofNat o)), .val (.int (Int32.ofNat len)), .val .null, .unset] [.int (Int32.ofNat len), .int (Int32.ofNat o), .ref b])) := c6.trans (by
    refine XS.ifNo X5.here hexec rfl (hb hbytes d30) rfl (i0_eq_f hz) ?_
    refine XS.aloadN X5.here hexec rfl (hb hbytes d33) rfl rfl ?_
    refine XS.iloadN X5.here hexec rfl (hb hbytes d34) rfl ?_
    refine XS.iloadN X5.here hexec rfl (hb hbytes d35) rfl ?_
    exact Steps.refl _)
  obtain ⟨v8, T8, X8, E8, g8⟩ := X5.callS hexec (Cmp3.law l b A o len) hown (wks W (staticW "java/lang/String" 177 Cmp3.yN)) (wk W Cmp3.tab) (W := 0) (Nat.le_of_ble_eq_true rfl) (Nat.le_of_ble_eq_true rfl) (Nat.le_refl _) (by show 0 + len ≤ len; omega) (g := (mkF m 36 #[.val (.ref a), .val (.ref b), .val (.int (Int32.ofNat o)), .val (.int (Int32.ofNat len)), .val .null, .unset] [.int (Int32.ofNat len), .int (Int32.ofNat o), .ref b])) rfl (by rw [hml]; rfl) c7 (argsL := [.ref b, .int (Int32.ofNat o), .int (Int32.ofNat len)]) (rest := []) rfl rfl (by show 2 * 0 + 0 ≤ _; decide) (hb hbytes d36) (⟨rfl, hA.mv X5.warmed.alike hh5, l1, l2, hp⟩)
  obtain ⟨e8, z8⟩ := E8
  obtain ⟨rfl, N, n1, n2, n3, n4, n5, n6⟩ := NewArr.mv _ T5 s _ _ hh5.symm (Vm.Alike.refl _) rfl e8
  rw [hh5] at z8
  have hB1 := hB.keep X8.warmed.alike (n6 _ _ hB.1)
  have hne : s.heap.size ≠ a := (Nat.ne_of_lt (Array.getElem?_eq_some_iff.mp hB.1).1).symm
  have c9 : Steps p.tables e below (s₁.setTop (entryFrame m #[.ref a, .ref b, .int (Int32.ofNat o), .int (Int32.ofNat len), .null] 6)) (T8.setTop (mkF m 39 #[.val (.ref a), .val (.ref b), .val (.int (Int32.ofNat o)), .val (.int (Int32.ofNat len)), .val .null, .unset] [.ref s.heap.size])) := g8
  have c10 : Steps p.tables e below (s₁.setTop (entryFrame m #[.ref a, .ref b, .int (Int32.ofNat o), .int (Int32.ofNat len), .null] 6)) (T8.setTop (mkF m 45 #[.val (.ref a), .val (.ref b), .val (.int (Int32.ofNat o)), .val (.int (Int32.ofNat len)), .val .null, .val (.ref s.heap.size)] [.int (Int32.ofNat N.slots.size), .ref s.heap.size, .ref a])) := by
    have hc : Steps p.tables e below (s₁.setTop (entryFrame m #[.ref a, .ref b, .int (Int32.ofNat o), .int (Int32.ofNat len), .null] 6)) (T8.setTop (mkF m 45 #[.val (.ref a), .val (.ref b), .val (.int (Int32.ofNat o)), .val (.int (Int32.ofNat len)), .val .null, .val (.ref s.heap.size)] [.int (Int32.ofNat len), .ref s.heap.size, .ref a])) := c9.trans (by
      refine XS.astore X8.here hexec rfl (hb hbytes d39) rfl rfl rfl ?_
      refine XS.aloadN X8.here hexec rfl (hb hbytes d41) rfl rfl ?_
      refine XS.aload X8.here hexec rfl (hb hbytes d42) rfl rfl ?_
      refine XS.iloadN X8.here hexec rfl (hb hbytes d44) rfl ?_
      exact Steps.refl _)
    rw [n4]; exact hc
  obtain ⟨v11, T11, X11, E11, g11⟩ := X8.callS hexec (CodL.law l s.heap.size N) hown (wks W (staticW "java/lang/String" 47 CodL.yN)) (wk W CodL.tab) (W := 1) (Nat.le_of_ble_eq_true rfl) (Nat.le_of_ble_eq_true rfl) (Nat.le_refl _) (by show 0 + len + 0 ≤ len; omega) (g := (mkF m 45 #[.val (.ref a), .val (.ref b), .val (.int (Int32.ofNat o)), .val (.int (Int32.ofNat len)), .val .null, .val (.ref s.heap.size)] [.int (Int32.ofNat N.slots.size), .ref s.heap.size, .ref a])) rfl (by rw [hml]; rfl) c10 (argsL := [.ref s.heap.size, .int (Int32.ofNat N.slots.size)]) (rest := [.ref a]) rfl rfl (by show 2 * 0 + (1 + 0) ≤ _; decide) (hb hbytes d45) (⟨rfl, n1⟩)
  obtain ⟨rfl, q11⟩ := E11
  have hB11 := hB1.mv (X8.warmed.alike.symm.trans X11.warmed.alike) q11
  have c12 : Steps p.tables e below (s₁.setTop (entryFrame m #[.ref a, .ref b, .int (Int32.ofNat o), .int (Int32.ofNat len), .null] 6)) (T11.setTop (mkF m 48 #[.val (.ref a), .val (.ref b), .val (.int (Int32.ofNat o)), .val (.int (Int32.ofNat len)), .val .null, .val (.ref s.heap.size)] [.int 0, .ref a])) := g11
  obtain ⟨T13, X13, p13, bl13, sl13, st13⟩ := X11.finit hexec hown (wk W (.fieldLink "java/lang/String" 15 "java/lang/String" "coder" "B")) (Or.inr ⟨_, (wk W (.laysFinal "java/lang/String" "java/lang/String" "coder" "B"))⟩) (Or.inl ⟨rfl, hnm⟩) f2 (Or.inl rfl) hB11 (t := .byte) (by decide +kernel) rfl (g := (mkF m 48 #[.val (.ref a), .val (.ref b), .val (.int (Int32.ofNat o)), .val (.int (Int32.ofNat len)), .val .null, .val (.ref s.heap.size)] [.int 0, .ref a])) rfl (rest := []) rfl (hb hbytes d48)
  have c14 : Steps p.tables e below (s₁.setTop (entryFrame m #[.ref a, .ref b, .int (Int32.ofNat o), .int (Int32.ofNat len), .null] 6)) (T13.setTop (mkF m 54 #[.val (.ref a), .val (.ref b), .val (.int (Int32.ofNat o)), .val (.int (Int32.ofNat len)), .val .null, .val (.ref s.heap.size)] [.ref s.heap.size, .ref a])) := (c12.trans (st13 _ (Steps.refl _))).trans (by
    refine XS.aloadN X13.here hexec rfl (hb hbytes d51) rfl rfl ?_
    refine XS.aload X13.here hexec rfl (hb hbytes d52) rfl rfl ?_
    exact Steps.refl _)
  obtain ⟨T15, X15, p15, bl15, sl15, st15⟩ := X13.finit hexec hown (wk W (.fieldLink "java/lang/String" 9 "java/lang/String" "value" "[B")) (Or.inr ⟨_, (wk W (.laysFinal "java/lang/String" "java/lang/String" "value" "[B"))⟩) (Or.inl ⟨rfl, hnm⟩) f1 (Or.inl rfl) bl13 (t := (.array .byte)) (by decide +kernel) rfl (g := (mkF m 54 #[.val (.ref a), .val (.ref b), .val (.int (Int32.ofNat o)), .val (.int (Int32.ofNat len)), .val .null, .val (.ref s.heap.size)] [.ref s.heap.size, .ref a])) rfl (rest := []) rfl (hb hbytes d54)
  have c16 : Steps p.tables e below (s₁.setTop (entryFrame m #[.ref a, .ref b, .int (Int32.ofNat o), .int (Int32.ofNat len), .null] 6)) (T15.setTop (mkF m 57 #[.val (.ref a), .val (.ref b), .val (.int (Int32.ofNat o)), .val (.int (Int32.ofNat len)), .val .null, .val (.ref s.heap.size)] [])) := c14.trans (st15 _ (Steps.refl _))
  have ap := apart (Or.inr ⟨_, (wk W (.laysFinal "java/lang/String" "java/lang/String" "value" "[B"))⟩) (Or.inr ⟨_, (wk W (.laysFinal "java/lang/String" "java/lang/String" "coder" "B"))⟩) f1 f2 (t₁ := .array .byte) (t₂ := .byte) (by decide +kernel) (by decide +kernel) (by decide)
  have al := X8.warmed.alike.symm.trans X15.warmed.alike
  have n7 : T11.heap[s.heap.size]? = some N := by rw [q11]; exact n1.1
  exact ⟨T15, none, _, _, _, X15, by simp, rfl, by omega, (fun _ => rfl), ⟨rfl, _, N, bl15, ((Same.refl D _).set _ (by simp)).set _ (by simp), sl15, (Cell.slots_setSlot_ne _ ap).trans sl13, n1.keep al (p15.other hne (p13.other hne n7)), n2, by rw [al.findClass]; exact n3, n4, n5, fun y c h1 h2 => p15.other h1 (p13.other h1 (by rw [q11]; exact n6 y c h2)), by rw [p15.2.2, p13.2.2, q11]; exact z8⟩, fun fs hl => c16.trans (X15.returnOut hexec hret (hb hbytes d57) hl)⟩
end New4
namespace New1
def yN : MethodName := ⟨"java/lang/String", "<init>", "([C)V"⟩
abbrev yB : ByteArray := jdk_42_method_3_code
theorem d0 : decode yB 0 = .ok (.aload_n 0, 1) := by decide +kernel
theorem d1 : decode yB 1 = .ok (.aload_n 1, 1) := by decide +kernel
theorem d2 : decode yB 2 = .ok (.iconst 0, 1) := by decide +kernel
theorem d3 : decode yB 3 = .ok (.aload_n 1, 1) := by decide +kernel
theorem d4 : decode yB 4 = .ok (.arraylength, 1) := by decide +kernel
theorem d5 : decode yB 5 = .ok (.aconst_null, 1) := by decide +kernel
theorem d6 : decode yB 6 = .ok (.invokespecial 27, 3) := by decide +kernel
theorem d9 : decode yB 9 = .ok (.return_, 1) := by decide +kernel
def site : List Cond := [New4.tab] ++ initW "java/lang/String" 27 New4.yN
def tab : Cond := tabOf yN yB 2 none site
def P (a : Addr) (D : Cell) (fV fC : Field) (b : Addr) (A : Cell) (z : Int32) (args : Array Value) (s : State) : Prop := args = #[.ref a, .ref b] ∧ Blank "java/lang/String" a D s ∧ Found "java/lang/String" "value" "[B" fV s ∧ Found "java/lang/String" "coder" "B" fC s ∧ Ch b A s ∧ StaticIs s "java/lang/String" "COMPACT_STRINGS" "Z" (.int z) ∧ ¬ z = 0 ∧ 0 < A.slots.size ∧ A.slots.size ≤ 536870912 ∧ ∀ i, i < A.slots.size → ¬ 255 < cv A i
def E (a : Addr) (D : Cell) (fV fC : Field) (A : Cell) (r : Option Value) (s u : State) : Prop := Got a D fV fC A 0 A.slots.size r s u
/-- new String(chars), not empty, no char above 255: a Latin-1 String of their low bytes -/
theorem law (l : Launch) (a : Addr) (D : Cell) (fV fC : Field) (b : Addr) (A : Cell) (z : Int32) : Law l yN 2 1 3 52 yB 2 none site (P a D fV fC b A z) (E a D fV fC A) [⟨a, fC.slot⟩, ⟨a, fV.slot⟩] 1 A.slots.size := by
  refine Law.of_walk (plainFor_of_name (by decide +kernel)) (by decide +kernel) (by decide +kernel) (by decide) (fun _ _ h => by rw [h.1]; rfl) (fun _ U U' hal hh h => ⟨h.1, h.2.1.mv hal hh, h.2.2.1.al hal, h.2.2.2.1.al hal, h.2.2.2.2.1.mv hal hh, h.2.2.2.2.2.1.there hal hh, h.2.2.2.2.2.2⟩) (fun r U U' V V' h1 hal h2 h => Got.mv r U U' V V' h1 hal h2 h) ?_
  intro p e s m args below meth c s₁ X0 hexec hbytes hml hret hlk hnm hown hh0 W hP
  obtain ⟨rfl, hB, f1, f2, hA, s1, hz, l0, l2, hp⟩ := hP
  have c1 : Steps p.tables e below (s₁.setTop (entryFrame m #[.ref a, .ref b] 2)) (s₁.setTop (mkF m 0 #[.val (.ref a), .val (.ref b)] [])) := entry rfl
  have c2 : Steps p.tables e below (s₁.setTop (entryFrame m #[.ref a, .ref b] 2)) (s₁.setTop (mkF m 6 #[.val (.ref a), .val (.ref b)] [.null, .int (Int32.ofNat A.slots.size), .int 0, .ref b, .ref a])) := c1.trans (by
    refine XS.aloadN X0.here hexec rfl (hb hbytes d0) rfl rfl ?_
    refine XS.aloadN X0.here hexec rfl (hb hbytes d1) rfl rfl ?_
    refine iconstV X0.here hexec rfl 0 (hb hbytes d2) (by decide) ?_
    refine XS.aloadN X0.here hexec rfl (hb hbytes d3) rfl rfl ?_
    refine X0.alen hexec (hA.1.mv X0.warmed.alike hh0) rfl rfl (hb hbytes d4) ?_
    refine XS.aconstNull X0.here hexec rfl (hb hbytes d5) ?_
    exact Steps.refl _)
  obtain ⟨v3, T3, X3, E3, g3⟩ := X0.callN hexec (New4.law l a D fV fC b A z 0 A.slots.size) rfl hown (wks W (initW "java/lang/String" 27 New4.yN)) (W New4.tab (by simp only [site, List.mem_cons, List.mem_append, true_or, or_true])) (W := 0) (Nat.le_of_ble_eq_true rfl) (Nat.le_of_ble_eq_true rfl) (Nat.le_refl _) (by show 0 + A.slots.size ≤ A.slots.size; omega) (g := (mkF m 6 #[.val (.ref a), .val (.ref b)] [.null, .int (Int32.ofNat A.slots.size), .int (Int32.ofNat 0), .ref b, .ref a])) rfl (by rw [hml]; rfl) c2 (argsL := [.ref b, .int (Int32.ofNat 0), .int (Int32.ofNat A.slots.size), .null]) (rest := []) rfl rfl (by show 2 * 0 + 0 ≤ _; decide) (hb hbytes d6) (⟨rfl, hB.mv X0.warmed.alike hh0, f1.al X0.warmed.alike, f2.al X0.warmed.alike, hA.mv X0.warmed.alike hh0, s1.there X0.warmed.alike hh0, hz, l0, by omega, l2, fun i hi => by rw [Nat.zero_add]; exact hp i hi⟩)
  have e0 := Got.mv _ s₁ s _ _ hh0.symm (Vm.Alike.refl _) rfl E3
  obtain rfl := e0.1
  have c4 : Steps p.tables e below (s₁.setTop (entryFrame m #[.ref a, .ref b] 2)) (T3.setTop (mkF m 9 #[.val (.ref a), .val (.ref b)] [])) := g3
  exact ⟨T3, none, _, _, _, X3, by simp, rfl, by omega, (fun _ => rfl), e0, fun fs hl => c4.trans (X3.returnOut hexec hret (hb hbytes d9) hl)⟩
theorem pays {l : Launch} {R : Room} {p : Program} {e : Env} {below : List Frame} {s : State} {sargs : Array Value} {len W : Nat} (a : Addr) (D : Cell) (fV fC : Field) (b : Addr) (A : Cell) (z : Int32) (htab : tab.before sargs s = true) (hfr : 4 ≤ R.frames) (hlo : W + 65 ≤ R.locals) :
    Back l R p e below s sargs yN len W (fun A₁ a₁ => A₁.cells + 1 ≤ R.cells ∧ A₁.slots + A.slots.size ≤ R.slots ∧ P a D fV fC b A z a₁ A₁.U) (fun A₁ _ v₁ B₁ => E a D fV fC A v₁ A₁.U B₁.U ∧ B₁.locs = A₁.locs ++ [⟨a, fC.slot⟩, ⟨a, fV.slot⟩] ∧ B₁.cells = A₁.cells + 1 ∧ B₁.slots = A₁.slots + A.slots.size) :=
  (law l a D fV fC b A z).pays htab hfr (by omega)
end New1
/-- the byte, read back as charAt reads it, is the char -/
theorem lo8_mask {x : Int32} (h0 : ¬ x < 0) (h1 : ¬ 255 < x) : lo8 x &&& 255 = x := by
  have t : ∀ k : Fin 256, lo8 (Int32.ofNat k.val) &&& 255 = Int32.ofNat k.val := by decide +kernel
  rw [Int32.lt_iff_toInt_lt] at h0 h1
  have e0 : (0 : Int32).toInt = 0 := rfl
  have e1 : (255 : Int32).toInt = 255 := rfl
  obtain ⟨k, hk⟩ : ∃ k : Nat, x.toInt = k := ⟨x.toInt.toNat, by omega⟩
  have hx : x = Int32.ofNat k := Int32.toInt_inj.mp (by rw [hk, Int32.toInt_ofNat_small (by omega)])
  rw [hx]
  exact t ⟨k, by omega⟩
end StrChars
namespace StrChars.Road
open Jvm Sem ClassFile Op Lib Jvm.Stand Jvm.Free Jvm.Free.XT
open Jvm.Lib.Cold (StaticIs)
abbrev ST : String := "java/lang/String"
/-- every table word that New1's law asks, flat -/
abbrev words : List Jvm.Cond := [.code New1.yN New1.yB 2 none, .initialized ST, .methodLink ST 27 New4.yN, .instanceMethod New4.yN,
  .code New4.yN New4.yB 6 none, .fieldLink ST 38 ST "COMPACT_STRINGS" "Z", .laysFinal ST ST "value" "[B", .fieldLink ST 9 ST "value" "[B", .laysFinal ST ST "coder" "B", .fieldLink ST 15 ST "coder" "B",
  .methodLink ST 1 Lib.objectInit, .instanceMethod Lib.objectInit, .code Lib.objectInit ⟨#[0xb1]⟩ 1 none, .methodLink ST 177 Cmp3.yN, .static Cmp3.yN, .methodLink ST 47 CodL.yN, .static CodL.yN,
  .code Cmp3.yN Cmp3.yB 6 (some (.array .byte)), .initialized U16, .arrayClass .byte, .methodLink U16 115 Cmp5.yN, .static Cmp5.yN, .code Cmp5.yN Cmp5.yB 7 (some .int), .code CodL.yN CodL.yB 2 (some .byte)]
theorem tab_of {a : Array Value} {s : State} (h : ∀ w ∈ words, w.before a s = true) : New1.tab.before a s = true := by
  have h5 : Cmp5.tab.before a s = true := unparts (wk h (.code Cmp5.yN Cmp5.yB 7 (some .int))) (wks h (.initialized Cmp5.yN.cls :: Cmp5.site))
  have hc : CodL.tab.before a s = true := unparts (wk h (.code CodL.yN CodL.yB 2 (some .byte))) (wks h (.initialized CodL.yN.cls :: CodL.site))
  have q5 : ∀ w ∈ Cmp5.tab :: words, w.before a s = true := fun w hw => (List.mem_cons.mp hw).elim (fun e => e ▸ h5) (h w)
  have h3 : Cmp3.tab.before a s = true := unparts (wk q5 (.code Cmp3.yN Cmp3.yB 6 (some (.array .byte)))) (wks q5 (.initialized Cmp3.yN.cls :: Cmp3.site))
  have q3 : ∀ w ∈ Cmp3.tab :: CodL.tab :: words, w.before a s = true := fun w hw => (List.mem_cons.mp hw).elim (fun e => e ▸ h3) fun hw => (List.mem_cons.mp hw).elim (fun e => e ▸ hc) (h w)
  have h4 : New4.tab.before a s = true := unparts (wk q3 (.code New4.yN New4.yB 6 none)) (wks q3 (.initialized New4.yN.cls :: New4.site))
  have q4 : ∀ w ∈ New4.tab :: words, w.before a s = true := fun w hw => (List.mem_cons.mp hw).elim (fun e => e ▸ h4) (h w)
  exact unparts (wk q4 (.code New1.yN New1.yB 2 none)) (wks q4 (.initialized New1.yN.cls :: New1.site))
/-- the words ride from the start Z to the walk's own state -/
theorem moved {Z s : State} {a0 args : Array Value} (hZ : Z.Warmed39 s.vm) (hw : ∀ d ∈ words, d.before a0 Z = true) : ∀ d ∈ words, d.before args s = true := fun d hd => by
  have q := hw d hd
  have t : ∀ d ∈ words, d = .arrayClass .byte ∨ (d.onTables && d.keepsFace) = true := by decide +kernel
  rcases t d hd with rfl | t
  · exact RoadKit.mvA hZ q
  · exact RoadKit.mv hZ q t
/-- WHAT COMES BACK, over the tables of the start Z: h the heap at the call, h' behind it -/
def Q (Z : State) (x : Addr) (A : Cell) (h : Heap) (v : Option Value) (h' : Heap) (L : List Loc) : Prop := v = none ∧ (∀ y ∈ L, y.base = x) ∧ RoadKit.Keep h h' [x] ∧ h'.size = h.size + 1 ∧ RoadKit.Exa Z h' x ST ∧ RoadKit.Fld Z h' x ST "value" "[B" (.ref h.size) ∧ RoadKit.Fld Z h' x ST "coder" "B" (.int 0) ∧
  (∃ V : Cell, RoadKit.Arr Z h' h.size V .byte ∧ V.vm = .none ∧ Z.vm.findClass "[B" = some V.cls ∧ V.slots.size = A.slots.size ∧ ∀ j, j < A.slots.size → V.slots[j]? = some (.int (lo8 (cv A j)))) ∧
  ∀ (O n d : String) (w : Value), RoadKit.Fld Z h x O n d w → RoadKit.slotOf Z O n d ≠ RoadKit.slotOf Z ST "value" "[B" → RoadKit.slotOf Z O n d ≠ RoadKit.slotOf Z ST "coder" "B" → RoadKit.Fld Z h' x O n d w
/-- **new String(chars) AT A CALL, IN THE ROAD'S FORM**: for specialBack behind newO: x the fresh String, b the char[] with the cell A -/
theorem back {p : Program} {l : Launch} {e : Env} {R : Room} {s : State} {args : Array Value} {below : List Frame} {len W : Nat} {Z : State} {a0 : Array Value} {h : Heap} (hZ : Z.Warmed39 s.vm) (hw : ∀ d ∈ words, d.before a0 Z = true) {kI : Nat} (wi : (Jvm.Cond.instantiable ST kI).before a0 Z = true)
    {x b : Addr} {A : Cell} {z : Int32} {v0 c0 : Value} (E : RoadKit.Exa Z h x ST) (V : RoadKit.Fld Z h x ST "value" "[B" v0) (C : RoadKit.Fld Z h x ST "coder" "B" c0) (K : RoadKit.Arr Z h b A .char) (hty : Typed .char A) (S : RoadKit.Sta Z h ST "COMPACT_STRINGS" "Z" (.int z)) (hz : ¬ z = 0)
    (l0 : 0 < A.slots.size) (l2 : A.slots.size ≤ 536870912) (hp : ∀ i, i < A.slots.size → ¬ 255 < cv A i) (hfr : 4 ≤ R.frames) (hlo : W + 65 ≤ R.locals) :
    Back l R p e below s args New1.yN len W (fun P a => a = #[.ref x, .ref b] ∧ P.U.heap = h ∧ P.cells + 1 ≤ R.cells ∧ P.slots + A.slots.size ≤ R.slots)
      (fun P _ v B => ∃ L, Q Z x A h v B.U.heap L ∧ B.locs = P.locs ++ L ∧ B.cells = P.cells + 1 ∧ B.slots = P.slots + A.slots.size) := by
  intro m meth c P g ig mk a X hg hsize hdg hW hn hp'
  obtain ⟨rfl, rfl, r1, r2⟩ := hp'
  have al : Z.vm.Alike P.U.vm := hZ.alike.trans X.warmed.alike
  obtain ⟨D, cfV, kV, iV, fV, hD, gV, stV, knV, obV, asV, slV⟩ := id V
  obtain ⟨D', cfC, kC, iC, fC, hD', gC, stC, -, -, asC, slC⟩ := id C
  cases hD.symm.trans hD'
  obtain ⟨D2, kD, e1, e2, e3, e4, e5⟩ := id E
  cases hD.symm.trans e1
  obtain ⟨c2, k2, i1, i2, i3, -⟩ := Cond.instantiable_spec wi
  cases e2.symm.trans i1
  cases e3.symm.trans i2
  obtain ⟨kU, u1, u2⟩ := al.2.2 _ _ e3
  have hB : Blank ST x D P.U := ⟨hD, ⟨knV, fun q hq => by rw [hq] at obV; cases obV⟩, by rw [al.findClass]; exact e2, kU, u1, by rw [u2]; exact i3, by rw [u2]; exact e5 i3⟩
  have F1 : Found ST "value" "[B" fV P.U := ⟨SBG.found_only al ⟨cfV, kV, iV, gV⟩, stV⟩
  have F2 : Found ST "coder" "B" fC P.U := ⟨SBG.found_only al ⟨cfC, kC, iC, gC⟩, stC⟩
  have hA : Ch b A P.U := ⟨⟨K.1, State.isArrayOf_alike al K.2.1, K.2.2, by omega⟩, hty⟩
  have hS : StaticIs P.U ST "COMPACT_STRINGS" "Z" (.int z) := by
    obtain ⟨cfS, iS, kS, fS, st, cS, t1, t2, t3, t4, t5, t6, t7⟩ := S
    exact StaticIs.there (s := { Z with heap := P.U.heap }) ⟨cfS, iS, kS, fS, st, cS, t1, t2, t3, t4, t5, (fun q => by rw [q] at t6; cases t6), t7⟩ al rfl
  obtain ⟨v, B, X', ⟨⟨hv, E', V', q1, q2, q3, q4, q5, q6, q7, q8, q9, q10, q11⟩, hl, hc, hs⟩, st⟩ := New1.pays x D fV fC b A z (tab_of (moved hZ hw)) hfr hlo m meth c P g ig mk _ X hg hsize hdg hW hn ⟨r1, r2, rfl, hB, F1, F2, hA, hS, hz, l0, l2, hp⟩
  have al' : Z.vm.Alike B.U.vm := hZ.alike.trans X'.warmed.alike
  have hsz : E'.slots.size = D.slots.size := by
    obtain ⟨-, -, -, kB, w1, w2, w3⟩ := q1
    obtain ⟨kB', y1, y2⟩ := al'.2.2 _ _ e3
    rw [q2.2.1] at w1
    cases w1.symm.trans y1
    rw [w3, e5 i3, y2]
  refine ⟨v, B, X', ⟨_, ⟨hv, ?_, ⟨by omega, fun y cy hy hn' => q10 y cy (by simpa using hn') hy, fun y cy hy => ?_⟩, q11, ⟨E', _, q1.1, by rw [q2.2.1]; exact e2, by rw [q2.2.1]; exact e3, by rw [q2.1]; exact obV, fun _ => by rw [hsz]; exact e5 i3⟩,
    ⟨E', cfV, kV, iV, fV, q1.1, gV, stV, by rw [q2.1]; exact knV, by rw [q2.1]; exact obV, by rw [q2.2.1]; exact asV, q3⟩, ⟨E', cfC, kC, iC, fC, q1.1, gC, stC, by rw [q2.1]; exact knV, by rw [q2.1]; exact obV, by rw [q2.2.1]; exact asC, q4⟩,
    ⟨V', ⟨q5.1, State.isArrayOf_alike al'.symm q5.2.1, q5.2.2.1⟩, q6, by rw [← al'.findClass]; exact q7, q8, fun j hj => by have := q9 j hj; rwa [Nat.zero_add] at this⟩, fun O n d w F n1 n2 => ?_⟩, hl, hc, hs⟩, st⟩
  · intro y hy
    simp only [List.mem_cons, List.not_mem_nil, or_false] at hy
    rcases hy with rfl | rfl <;> rfl
  · by_cases q : y = x
    · subst q
      cases hD.symm.trans hy
      exact ⟨E', q1.1, q2.2.1, q2.1, hsz⟩
    · exact ⟨cy, q10 y cy q hy, rfl, rfl, rfl⟩
  · obtain ⟨D3, cf, k, i, f, g1, g2, g3, g4, g5, g6, g7⟩ := F
    cases hD.symm.trans g1
    simp only [RoadKit.slotOf, g2, gV, gC, Option.map_some, Option.getD_some] at n1 n2
    exact ⟨E', cf, k, i, f, q1.1, g2, g3, by rw [q2.1]; exact g4, by rw [q2.1]; exact g5, by rw [q2.2.1]; exact g6, by rw [q2.2.2 f.slot (by simp [n1, n2])]; exact g7⟩
end StrChars.Road
namespace StrChars.Road
open Jvm Sem ClassFile Op Lib Jvm.Stand Jvm.Free Jvm.Free.XT
/-- WHAT COMES BACK, the byte[] as a list of values -/
def QA (Z : State) (x : Addr) (zn : Int32) (cs : List Int32) (h : Heap) (v : Option Value) (h' : Heap) (L : List Loc) : Prop := v = none ∧ (∀ y ∈ L, y.base = x) ∧ RoadKit.Keep h h' [x] ∧ h'.size = h.size + 1 ∧ RoadKit.Exa Z h' x ST ∧ RoadKit.Fld Z h' x ST "value" "[B" (.ref h.size) ∧ RoadKit.Fld Z h' x ST "coder" "B" (.int 0) ∧
  (∃ kb, Z.vm.findClass "[B" = some kb ∧ RoadKit.Arv Z h' h.size kb .byte zn (cs.map fun c => .int (lo8 c)) (.int 0)) ∧
  ∀ (O n d : String) (w : Value), RoadKit.Fld Z h x O n d w → RoadKit.slotOf Z O n d ≠ RoadKit.slotOf Z ST "value" "[B" → RoadKit.slotOf Z O n d ≠ RoadKit.slotOf Z ST "coder" "B" → RoadKit.Fld Z h' x O n d w
/-- **new String(chars) AT A CALL, THE ARRAYS AS LISTS**: the char[] at b holds cs, not empty, no char above 255 -/
theorem backArv {p : Program} {l : Launch} {e : Env} {R : Room} {s : State} {args : Array Value} {below : List Frame} {len W : Nat} {Z : State} {a0 : Array Value} {h : Heap} (hZ : Z.Warmed39 s.vm) (hw : ∀ d ∈ words, d.before a0 Z = true) {kI : Nat} (wi : (Jvm.Cond.instantiable ST kI).before a0 Z = true)
    {x b : Addr} {k : ClassId} {zn z : Int32} {cs : List Int32} {dv v0 c0 : Value} (E : RoadKit.Exa Z h x ST) (V : RoadKit.Fld Z h x ST "value" "[B" v0) (C : RoadKit.Fld Z h x ST "coder" "B" c0) (K : RoadKit.Arv Z h b k .char zn (cs.map Value.int) dv) (S : RoadKit.Sta Z h ST "COMPACT_STRINGS" "Z" (.int z)) (hz : ¬ z = 0)
    (hlen : zn.toNatClampNeg = cs.length) (h0 : 0 < cs.length) (hbig : cs.length ≤ 536870912) (hall : ∀ c ∈ cs, ¬ 255 < c) (hfr : 4 ≤ R.frames) (hlo : W + 65 ≤ R.locals) :
    Back l R p e below s args New1.yN len W (fun P a => a = #[.ref x, .ref b] ∧ P.U.heap = h ∧ P.cells + 1 ≤ R.cells ∧ P.slots + cs.length ≤ R.slots)
      (fun P _ v B => ∃ L, QA Z x zn cs h v B.U.heap L ∧ B.locs = P.locs ++ L ∧ B.cells = P.cells + 1 ∧ B.slots = P.slots + cs.length) := by
  obtain ⟨A, K1, K2, K3, K4, K5, K6⟩ := K
  have e : A.slots.size = cs.length := K3.trans hlen
  have hat : ∀ (i : Nat) (hi : i < cs.length), A.slots[i]? = some (.int cs[i]) := fun i hi => by rw [K5 i (by omega)]; simp [List.getD_eq_getElem?_getD, hi]
  have hcv : ∀ (i : Nat) (hi : i < cs.length), cv A i = cs[i] := fun i hi => by unfold cv; rw [hat i hi]
  have hty : Typed .char A := fun i v hv => by
    have hi : i < A.slots.size := (Array.getElem?_eq_some_iff.mp hv).1
    have q := K5 i hi
    rw [hv] at q
    rw [Option.some.inj q]
    exact K6 i hi
  refine Back.mono (back hZ hw wi E V C K1 hty S hz (by omega) (by omega) (fun i hi => by rw [hcv i (by omega)]; exact hall _ (List.getElem_mem _)) hfr hlo) (fun P a hp => ⟨hp.1, hp.2.1, hp.2.2.1, by rw [e]; exact hp.2.2.2⟩) (fun P a v B hp hq => ?_)
  obtain ⟨L, ⟨q1, q2, q3, q4, q5, q6, q7, ⟨V', v1, v2, v3, v4, v5⟩, q9⟩, hl, hc, hs⟩ := hq
  refine ⟨L, ⟨q1, q2, q3, q4, q5, q6, q7, ⟨V'.cls, v3, V', v1, rfl, by rw [v4, e, hlen], K4, fun i hi => ?_, fun i hi => ?_⟩, q9⟩, hl, hc, by rw [hs, e]⟩
  · have hi' : i < cs.length := by omega
    rw [v5 i (by omega), hcv i hi']; simp [List.getD_eq_getElem?_getD, hi']
  · have hi' : i < cs.length := by omega
    simp only [List.getD_eq_getElem?_getD, List.getElem?_map, List.getElem?_eq_getElem hi', Option.map_some, Option.getD_some]
    exact fits_lo8 _
end StrChars.Road
namespace StrChars.Road
open Jvm Sem ClassFile Op Lib Jvm.Stand Jvm.Free Jvm.Free.XT
/-- WHAT COMES BACK, in the writer's own shape -/
def QV (Z : State) (x : Addr) (N : Int32) (bs : List Int32) (h : Heap) (n0 : Nat) (v : Option Value) (h' : Heap) (L : List Loc) : Prop := v = none ∧ RoadKit.Fr n0 L ∧ RoadKit.Keep h h' [x] ∧ RoadKit.Exa Z h' x ST ∧ RoadKit.Fld Z h' x ST "coder" "B" (.int 0) ∧
  ∃ (t : Addr) (kb : ClassId), n0 ≤ t ∧ h.size ≤ t ∧ ¬ t = x ∧ RoadKit.Fld Z h' x ST "value" "[B" (.ref t) ∧ RoadKit.Arv Z h' t kb .byte N (bs.map Value.int) (.int 0)
/-- **new String(chars) AT A CALL, FOR THE WRITER**: a char[] of n known ints, each 0 to 255 -/
theorem backV {p : Program} {l : Launch} {e : Env} {R : Room} {s : State} {args : Array Value} {below : List Frame} {len W : Nat} {Z : State} {a0 : Array Value} {h : Heap} (hZ : Z.Warmed39 s.vm) (hw : ∀ d ∈ words, d.before a0 Z = true) {kI : Nat} (wi : (Jvm.Cond.instantiable ST kI).before a0 Z = true)
    {x b : Addr} {kC : ClassId} {cs bs : List Int32} {d v0 c0 : Value} {z N : Int32} {n n0 : Nat} (hx0 : n0 ≤ x) (hh0 : n0 ≤ h.size) (E : RoadKit.Exa Z h x ST) (V : RoadKit.Fld Z h x ST "value" "[B" v0) (C : RoadKit.Fld Z h x ST "coder" "B" c0) (K : RoadKit.Arv Z h b kC .char N (cs.map Value.int) d) (S : RoadKit.Sta Z h ST "COMPACT_STRINGS" "Z" (.int z)) (hz : ¬ z = 0)
    (hn : cs.length = n) (hN : N = Int32.ofNat n) (l0 : 0 < n) (l2 : n ≤ 4000) (hp : ∀ c ∈ cs, ¬ c < 0 ∧ ¬ (255 : Int32) < c) (hb : bs = cs.map (fun c => c.toInt8.toInt32)) (hfr : 4 ≤ R.frames) (hlo : W + 65 ≤ R.locals) :
    Back l R p e below s args (⟨"java/lang/String", "<init>", "([C)V"⟩ : MethodName) len W (fun P a => a = #[.ref x, .ref b] ∧ P.U.heap = h ∧ P.cells + 1 ≤ R.cells ∧ P.slots + n ≤ R.slots)
      (fun P _ v B => ∃ L, QV Z x N bs h n0 v B.U.heap L ∧ B.locs = P.locs ++ L ∧ B.cells = P.cells + 1 ∧ B.slots = P.slots + n) := by
  subst hn hN hb
  refine Back.mono (backArv hZ hw wi E V C K S hz (n32 (by omega)) l0 (by omega) (fun c hc => (hp c hc).2) hfr hlo) (fun P a hp => hp) (fun P a v B hp hq => ?_)
  obtain ⟨L, ⟨q1, q2, q3, q4, q5, q6, q7, ⟨kb, v1, v2⟩, q9⟩, hl, hc, hs⟩ := hq
  exact ⟨L, ⟨q1, fun y hy => by rw [q2 y hy]; exact hx0, q3, q5, q7, h.size, kb, hh0, Nat.le_refl _, Nat.ne_of_gt E.lt, q6, by rw [List.map_map]; exact v2⟩, hl, hc, hs⟩
end StrChars.Road
namespace StrChars
open Jvm Sem ClassFile Op Lib Jvm.Stand Jvm.Free.XT Jvm.Free.ALB Jvm.Free.JM Jvm.Free
open Jvm.Lib.Cold (StaticIs)
def hi8 (x : Int32) : Int32 := lo8 (x >>> ((8 : Int32) &&& 31))
/-- what StringUTF16.getChar makes of two bytes -/
def pairCh (u v : Int32) : Int32 := (((u &&& 255) <<< ((0 : Int32) &&& 31)) ||| ((v &&& 255) <<< ((8 : Int32) &&& 31))).toUInt32.toUInt16.toUInt32.toInt32
theorem shr0 (c : Int32) : c >>> ((0 : Int32) &&& 31) = c := by
  have e : ((0 : Int32) &&& 31) = 0 := by decide
  rw [e]
  apply Int32.toBitVec_inj.mp
  rw [Int32.toBitVec_shiftRight]
  have e1 : ((0 : Int32).toBitVec.smod 32) = 0#32 := by decide
  rw [e1, BitVec.sshiftRight_eq']
  exact BitVec.sshiftRight_zero
theorem lo8_and (x : Int32) : (lo8 x &&& 255).toBitVec.toNat = x.toBitVec.toNat % 256 := by
  have h : (lo8 x).toBitVec = (x.toBitVec.signExtend 8).signExtend 32 := by rw [lo8, Int8.toBitVec_toInt32, Int32.toBitVec_toInt8]
  rw [Int32.toBitVec_and, BitVec.toNat_and, h]
  have e : ((x.toBitVec.signExtend 8).signExtend 32).toNat % 256 = x.toBitVec.toNat % 256 := by
    rw [BitVec.toNat_signExtend]
    have hlt := x.toBitVec.isLt
    simp only [BitVec.toNat_setWidth, BitVec.toNat_signExtend]
    split <;> split <;> omega
  rw [← e]
  exact Nat.and_two_pow_sub_one_eq_mod _ 8
theorem pair_says {c : Int32} (h0 : ¬ c < 0) (h1 : ¬ 65535 < c) : pairCh (lo8 c) (hi8 c) = c := by
  rw [Int32.lt_iff_toInt_lt] at h0 h1
  have e0 : (0 : Int32).toInt = 0 := rfl
  have e1 : (65535 : Int32).toInt = 65535 := rfl
  have hc : c.toInt = c.toBitVec.toNat := by
    have := c.toBitVec.isLt
    have e : c.toInt = c.toBitVec.toInt := rfl
    rw [e] at h0 h1
    rw [e]
    rw [BitVec.toInt_eq_toNat_cond] at h0 h1 ⊢
    split at h0 <;> split <;> omega
  have hn : c.toBitVec.toNat < 65536 := by omega
  have a1 := lo8_and c
  have a2 : (hi8 c &&& 255).toBitVec.toNat = c.toBitVec.toNat / 256 := by
    rw [hi8, lo8_and]
    have e : ((8 : Int32) &&& 31) = 8 := by decide
    rw [e, Int32.toBitVec_shiftRight]
    have e2 : ((8 : Int32).toBitVec.smod 32) = 8#32 := by decide
    rw [e2, BitVec.sshiftRight_eq', BitVec.toNat_sshiftRight_of_msb_false (by rw [BitVec.msb_eq_false_iff_two_mul_lt]; omega)]
    show c.toBitVec.toNat >>> 8 % 256 = _
    rw [Nat.shiftRight_eq_div_pow]
    omega
  unfold pairCh
  apply Int32.toBitVec_inj.mp
  apply BitVec.eq_of_toNat_eq
  have f0 : ((0 : Int32) &&& 31) = 0 := by decide
  have f8 : ((8 : Int32) &&& 31) = 8 := by decide
  rw [f0, f8]
  have g : (((lo8 c &&& 255) <<< (0 : Int32)) ||| ((hi8 c &&& 255) <<< (8 : Int32))).toBitVec.toNat = c.toBitVec.toNat := by
    rw [Int32.toBitVec_or, Int32.toBitVec_shiftLeft, Int32.toBitVec_shiftLeft]
    have s0 : ((0 : Int32).toBitVec.smod 32) = 0#32 := by decide
    have s8 : ((8 : Int32).toBitVec.smod 32) = 8#32 := by decide
    rw [s0, s8, BitVec.toNat_or]
    simp only [BitVec.shiftLeft_eq', BitVec.toNat_shiftLeft, a1, a2]
    show (c.toBitVec.toNat % 256) <<< 0 % 2 ^ 32 ||| (c.toBitVec.toNat / 256) <<< 8 % 2 ^ 32 = _
    rw [Nat.shiftLeft_zero, Nat.mod_eq_of_lt (show c.toBitVec.toNat % 256 < 2 ^ 32 by omega), Nat.mod_eq_of_lt (show (c.toBitVec.toNat / 256) <<< 8 < 2 ^ 32 by rw [Nat.shiftLeft_eq]; omega), Nat.or_comm, ← Nat.shiftLeft_add_eq_or_of_lt (by omega), Nat.shiftLeft_eq]
    omega
  show BitVec.toNat (((((lo8 c &&& 255) <<< (0 : Int32)) ||| ((hi8 c &&& 255) <<< (8 : Int32))).toBitVec.setWidth 16).setWidth 32) = _
  rw [BitVec.toNat_setWidth, BitVec.toNat_setWidth, g]
  omega
end StrChars
namespace StrChars
open Jvm Sem ClassFile Op Lib Jvm.Stand Jvm.Free.XT Jvm.Free.ALB Jvm.Free.JM Jvm.Free
open Jvm.Lib.Cold (StaticIs)
theorem shr1 {n : Nat} (h : 2 * n < 2 ^ 31) : Int32.ofNat (2 * n) >>> ((1 : Int32) &&& 31) = Int32.ofNat n := by
  have e : ((1 : Int32) &&& 31) = 1 := by decide
  rw [e]
  apply Int32.toBitVec_inj.mp
  rw [Int32.toBitVec_shiftRight]
  have e1 : ((1 : Int32).toBitVec.smod 32) = 1#32 := by decide
  have hm : (BitVec.ofNat 32 (2 * n)).toNat = 2 * n := by rw [BitVec.toNat_ofNat, Nat.mod_eq_of_lt (by omega)]
  rw [e1, BitVec.sshiftRight_eq']
  apply BitVec.eq_of_toNat_eq
  show ((BitVec.ofNat 32 (2 * n)).sshiftRight 1).toNat = (BitVec.ofNat 32 n).toNat
  rw [BitVec.toNat_sshiftRight_of_msb_false (by rw [BitVec.msb_eq_false_iff_two_mul_lt, hm]; omega), hm, BitVec.toNat_ofNat, Nat.shiftRight_eq_div_pow]
  omega
/-- charAt's cast of a byte read back -/
def chr8 (u : Int32) : Int32 := (u &&& 255).toUInt32.toUInt16.toUInt32.toInt32
theorem chr8_lo8 {c : Int32} (h0 : ¬ c < 0) (h1 : ¬ 255 < c) : chr8 (lo8 c) = c := by
  have t : ∀ k : Fin 256, (Int32.ofNat k.val).toUInt32.toUInt16.toUInt32.toInt32 = Int32.ofNat k.val := by decide +kernel
  unfold chr8
  rw [lo8_mask h0 h1]
  rw [Int32.lt_iff_toInt_lt] at h0 h1
  have e0 : (0 : Int32).toInt = 0 := rfl
  have e1 : (255 : Int32).toInt = 255 := rfl
  obtain ⟨k, hk⟩ : ∃ k : Nat, c.toInt = k := ⟨c.toInt.toNat, by omega⟩
  have hx : c = Int32.ofNat k := Int32.toInt_inj.mp (by rw [hk, Int32.toInt_ofNat_small (by omega)])
  rw [hx]
  exact t ⟨k, by omega⟩
theorem narrow_ch {c : Int32} (h0 : ¬ c < 0) (h1 : ¬ 65535 < c) : narrow .char (.int c) = .int c := by
  have q : narrow .char (.int (pairCh (lo8 c) (hi8 c))) = .int (pairCh (lo8 c) (hi8 c)) := narrow_c _
  rwa [pair_says h0 h1] at q
/-- the array's cell V codes the n chars f 0 .. f (n - 1) by the coder cd, as the JDK does: coder 1 just where some char is above 255 -/
def Cod (cd : Int32) (n : Nat) (f : Nat → Int32) (V : Cell) : Prop := (cd = 0 ∧ V.slots.size = n ∧ ∀ j, j < n → V.slots[j]? = some (.int (lo8 (f j))) ∧ ¬ 255 < f j) ∨ (cd = 1 ∧ V.slots.size = 2 * n ∧ (∀ j, j < n → V.slots[2 * j]? = some (.int (lo8 (f j))) ∧ V.slots[2 * j + 1]? = some (.int (hi8 (f j)))) ∧ ∃ j, j < n ∧ 255 < f j)
theorem Cod.cd {cd : Int32} {n : Nat} {f : Nat → Int32} {V : Cell} (h : Cod cd n f V) : cd = 0 ∨ cd = 1 := h.imp (fun q => q.1) fun q => q.1
theorem Cod.len {cd : Int32} {n : Nat} {f : Nat → Int32} {V : Cell} (h : Cod cd n f V) (hs : V.slots.size < 2 ^ 31) : Int32.ofNat V.slots.size >>> (cd &&& 31) = Int32.ofNat n := by
  rcases h with ⟨rfl, h, -⟩ | ⟨rfl, h, -⟩
  · rw [shr0, h]
  · rw [h, shr1 (by omega)]
/-- **x is a String of the n chars f 0 .. f (n - 1)**, Latin-1 or UTF-16; its array at t has the cell V -/
def Txt (x t : Addr) (V : Cell) (cd : Int32) (n : Nat) (f : Nat → Int32) (U : State) : Prop := Exact "java/lang/String" x U ∧ Has x "java/lang/String" "value" "[B" (.ref t) U ∧ Has x "java/lang/String" "coder" "B" (.int cd) U ∧ XT.Arr .byte t V U ∧ Cod cd n f V ∧ ∀ j, j < n → ¬ f j < 0 ∧ ¬ 65535 < f j
theorem Txt.mv {x t : Addr} {V : Cell} {cd : Int32} {n : Nat} {f : Nat → Int32} {U U' : State} (h : Txt x t V cd n f U) (hal : U.vm.Alike U'.vm) (hh : U'.heap = U.heap) : Txt x t V cd n f U' := ⟨h.1.mv hal hh, h.2.1.mv hal hh, h.2.2.1.mv hal hh, h.2.2.2.1.mv hal hh, h.2.2.2.2⟩
namespace Cdr
def yN : MethodName := ⟨"java/lang/String", "coder", "()B"⟩
abbrev yB : ByteArray := jdk_42_method_152_code
theorem d0 : decode yB 0 = .ok (.getstatic 38, 3) := by decide +kernel
theorem d3 : decode yB 3 = .ok (.ifCond (.eq) 10, 3) := by decide +kernel
theorem d6 : decode yB 6 = .ok (.aload_n 0, 1) := by decide +kernel
theorem d7 : decode yB 7 = .ok (.getfield 15, 3) := by decide +kernel
theorem d10 : decode yB 10 = .ok (.goto 4, 3) := by decide +kernel
theorem d14 : decode yB 14 = .ok (.ireturn, 1) := by decide +kernel
def site : List Cond := [.fieldLink "java/lang/String" 38 "java/lang/String" "COMPACT_STRINGS" "Z", .fieldLink "java/lang/String" 15 "java/lang/String" "coder" "B"]
def tab : Cond := tabOf yN yB 1 (some .byte) site
def P (x : Addr) (cd z : Int32) (args : Array Value) (s : State) : Prop := args = #[.ref x] ∧ Has x "java/lang/String" "coder" "B" (.int cd) s ∧ (cd = 0 ∨ cd = 1) ∧ StaticIs s "java/lang/String" "COMPACT_STRINGS" "Z" (.int z) ∧ ¬ z = 0
def E (cd : Int32) (r : Option Value) (s u : State) : Prop := XT.PureE (some (.int cd)) r s u
theorem law (l : Launch) (x : Addr) (cd z : Int32) : Law l yN 1 0 0 0 yB 1 (some .byte) site (P x cd z) (E cd) [] 0 0 := by
  refine Law.of_walk (plainFor_of_name (by decide +kernel)) (by decide +kernel) (by decide +kernel) (by decide) (fun _ _ h => by rw [h.1]; rfl) (fun _ U U' hal hh h => ⟨h.1, h.2.1.mv hal hh, h.2.2.1, h.2.2.2.1.there hal hh, h.2.2.2.2⟩) (fun r U U' V V' h1 hal h2 h => XT.PureE.mv r U U' V V' h1 hal h2 h) ?_
  intro p e s m args below meth c s₁ X0 hexec hbytes hml hret hlk hnm hown hh0 W hP
  obtain ⟨rfl, hx, hc, s1, hz⟩ := hP
  have c1 : Steps p.tables e below (s₁.setTop (entryFrame m #[.ref x] 1)) (s₁.setTop (mkF m 0 #[.val (.ref x)] [])) := entry rfl
  obtain ⟨T2, X2, q2, st2⟩ := X0.sget hexec hown (wk W (.fieldLink "java/lang/String" 38 "java/lang/String" "COMPACT_STRINGS" "Z")) s1 (fun _ _ h => by rw [hh0]; exact h) (g := (mkF m 0 #[.val (.ref x)] [])) rfl (hb hbytes d0)
  have hh2 := q2.trans hh0
  have c3 : Steps p.tables e below (s₁.setTop (entryFrame m #[.ref x] 1)) (T2.setTop (mkF m 7 #[.val (.ref x)] [.ref x])) := (c1.trans (st2 _ (Steps.refl _))).trans (by
    refine XS.ifNo X2.here hexec rfl (hb hbytes d3) rfl (i0_eq_f hz) ?_
    refine XS.aloadN X2.here hexec rfl (hb hbytes d6) rfl rfl ?_
    exact Steps.refl _)
  obtain ⟨T4, X4, q4, st4⟩ := X2.hget hexec hown (wk W (.fieldLink "java/lang/String" 15 "java/lang/String" "coder" "B")) (hx.mv X2.warmed.alike hh2) (g := (mkF m 7 #[.val (.ref x)] [.ref x])) rfl (rest := []) rfl (hb hbytes d7)
  have c5 : Steps p.tables e below (s₁.setTop (entryFrame m #[.ref x] 1)) (T4.setTop (mkF m 14 #[.val (.ref x)] [.int cd])) := (c3.trans (st4 _ (Steps.refl _))).trans (by
    refine XS.goto X4.here hexec rfl (pc0 := 10) rfl (hb hbytes d10) (by decide) rfl ?_
    exact Steps.refl _)
  exact ⟨T4, some (.int cd), _, _, _, X4, rfl, rfl, rfl, (fun h => by cases h), ⟨rfl, q4.trans hh2⟩, fun fs hl => c5.trans (X4.ireturnOut hexec hret (by rcases hc with rfl | rfl <;> rfl) (Or.inr (Or.inr (Or.inl rfl))) (hb hbytes d14) hl)⟩
end Cdr
namespace Len
def yN : MethodName := ⟨"java/lang/String", "length", "()I"⟩
abbrev yB : ByteArray := jdk_42_method_54_code
theorem d0 : decode yB 0 = .ok (.aload_n 0, 1) := by decide +kernel
theorem d1 : decode yB 1 = .ok (.getfield 9, 3) := by decide +kernel
theorem d4 : decode yB 4 = .ok (.arraylength, 1) := by decide +kernel
theorem d5 : decode yB 5 = .ok (.aload_n 0, 1) := by decide +kernel
theorem d6 : decode yB 6 = .ok (.invokevirtual 335, 3) := by decide +kernel
theorem d9 : decode yB 9 = .ok (.ishr, 1) := by decide +kernel
theorem d10 : decode yB 10 = .ok (.ireturn, 1) := by decide +kernel
def site : List Cond := [.fieldLink "java/lang/String" 9 "java/lang/String" "value" "[B", Cdr.tab] ++ virtW "java/lang/String" 335 "java/lang/String" Cdr.yN Cdr.yN
def tab : Cond := tabOf yN yB 1 (some .int) site
def P (x t : Addr) (V : Cell) (cd : Int32) (n : Nat) (f : Nat → Int32) (z : Int32) (args : Array Value) (s : State) : Prop := args = #[.ref x] ∧ Txt x t V cd n f s ∧ StaticIs s "java/lang/String" "COMPACT_STRINGS" "Z" (.int z) ∧ ¬ z = 0
def E (n : Nat) (r : Option Value) (s u : State) : Prop := XT.PureE (some (.int (Int32.ofNat n))) r s u
/-- length() of a String of n chars, in either coding -/
theorem law (l : Launch) (x t : Addr) (V : Cell) (cd : Int32) (n : Nat) (f : Nat → Int32) (z : Int32) : Law l yN 1 0 1 13 yB 1 (some .int) site (P x t V cd n f z) (E n) [] 0 0 := by
  refine Law.of_walk (plainFor_of_name (by decide +kernel)) (by decide +kernel) (by decide +kernel) (by decide) (fun _ _ h => by rw [h.1]; rfl) (fun _ U U' hal hh h => ⟨h.1, h.2.1.mv hal hh, h.2.2.1.there hal hh, h.2.2.2⟩) (fun r U U' V V' h1 hal h2 h => XT.PureE.mv r U U' V V' h1 hal h2 h) ?_
  intro p e s m args below meth c s₁ X0 hexec hbytes hml hret hlk hnm hown hh0 W hP
  obtain ⟨rfl, hx, s1, hz⟩ := hP
  have v31 := hx.2.2.2.1.2.2.2
  have c1 : Steps p.tables e below (s₁.setTop (entryFrame m #[.ref x] 1)) (s₁.setTop (mkF m 1 #[.val (.ref x)] [.ref x])) := Steps.trans (entry rfl) (by
    show Steps p.tables e below (s₁.setTop (mkF m 0 #[.val (.ref x)] [])) _
    refine XS.aloadN X0.here hexec rfl (hb hbytes d0) rfl rfl ?_
    exact Steps.refl _)
  obtain ⟨T2, X2, q2, st2⟩ := X0.hget hexec hown (wk W (.fieldLink "java/lang/String" 9 "java/lang/String" "value" "[B")) (hx.mv X0.warmed.alike hh0).2.1 (g := (mkF m 1 #[.val (.ref x)] [.ref x])) rfl (rest := []) rfl (hb hbytes d1)
  have hh2 := q2.trans hh0
  have hx2 := hx.mv X2.warmed.alike hh2
  have c3 : Steps p.tables e below (s₁.setTop (entryFrame m #[.ref x] 1)) (T2.setTop (mkF m 6 #[.val (.ref x)] [.ref x, .int (Int32.ofNat V.slots.size)])) := (c1.trans (st2 _ (Steps.refl _))).trans (by
    refine X2.alen hexec hx2.2.2.2.1 rfl rfl (hb hbytes d4) ?_
    refine XS.aloadN X2.here hexec rfl (hb hbytes d5) rfl rfl ?_
    exact Steps.refl _)
  obtain ⟨v4, T4, X4, E4, g4⟩ := X2.callV hexec (Cdr.law l x cd z) hown (wks W (virtW "java/lang/String" 335 "java/lang/String" Cdr.yN Cdr.yN)) rfl (by decide) (wk W Cdr.tab) (W := 1) (Nat.le_of_ble_eq_true rfl) (Nat.le_of_ble_eq_true rfl) (Nat.le_refl _) (Nat.le_refl _) (hx2.1.fc X2.warmed.alike) hx2.1.is (g := (mkF m 6 #[.val (.ref x)] [.ref x, .int (Int32.ofNat V.slots.size)])) rfl (by rw [hml]; rfl) c3 (argsL := []) (rest := [.int (Int32.ofNat V.slots.size)]) rfl rfl (by show 2 * 0 + (1 + 0) ≤ _; decide) (hb hbytes d6) (⟨rfl, hx2.2.2.1, hx.2.2.2.2.1.cd, s1.there X2.warmed.alike hh2, hz⟩)
  obtain ⟨rfl, q4⟩ := E4
  have c5 : Steps p.tables e below (s₁.setTop (entryFrame m #[.ref x] 1)) (T4.setTop (mkF m 10 #[.val (.ref x)] [.int (Int32.ofNat V.slots.size >>> (cd &&& 31))])) := Steps.trans g4 (by
    refine ishr X4.here hexec rfl (hb hbytes d9) rfl ?_
    exact Steps.refl _)
  rw [hx.2.2.2.2.1.len v31] at c5
  exact ⟨T4, some (.int (Int32.ofNat n)), _, _, _, X4, rfl, rfl, rfl, (fun h => by cases h), ⟨rfl, q4.trans hh2⟩, fun fs hl => c5.trans (X4.ireturnOut hexec hret rfl (Or.inl rfl) (hb hbytes d10) hl)⟩
theorem pays {l : Launch} {R : Room} {p : Program} {e : Env} {below : List Frame} {s : State} {sargs : Array Value} {len W : Nat} (x t : Addr) (V : Cell) (cd : Int32) (n : Nat) (f : Nat → Int32) (z : Int32) (htab : tab.before sargs s = true) (hfr : 2 ≤ R.frames) (hlo : W + 25 ≤ R.locals) :
    Back l R p e below s sargs yN len W (fun A₁ a₁ => A₁.cells + 0 ≤ R.cells ∧ A₁.slots + 0 ≤ R.slots ∧ P x t V cd n f z a₁ A₁.U) (fun A₁ _ v₁ B₁ => E n v₁ A₁.U B₁.U ∧ B₁.locs = A₁.locs ++ [] ∧ B₁.cells = A₁.cells + 0 ∧ B₁.slots = A₁.slots + 0) :=
  (law l x t V cd n f z).pays htab hfr (by omega)
end Len
namespace IsL
def yN : MethodName := ⟨"java/lang/String", "isLatin1", "()Z"⟩
abbrev yB : ByteArray := jdk_42_method_154_code
theorem d0 : decode yB 0 = .ok (.getstatic 38, 3) := by decide +kernel
theorem d3 : decode yB 3 = .ok (.ifCond (.eq) 14, 3) := by decide +kernel
theorem d6 : decode yB 6 = .ok (.aload_n 0, 1) := by decide +kernel
theorem d7 : decode yB 7 = .ok (.getfield 15, 3) := by decide +kernel
theorem d10 : decode yB 10 = .ok (.ifCond (.ne) 7, 3) := by decide +kernel
theorem d13 : decode yB 13 = .ok (.iconst 1, 1) := by decide +kernel
theorem d14 : decode yB 14 = .ok (.goto 4, 3) := by decide +kernel
theorem d17 : decode yB 17 = .ok (.iconst 0, 1) := by decide +kernel
theorem d18 : decode yB 18 = .ok (.ireturn, 1) := by decide +kernel
def site : List Cond := [.fieldLink "java/lang/String" 38 "java/lang/String" "COMPACT_STRINGS" "Z", .fieldLink "java/lang/String" 15 "java/lang/String" "coder" "B"]
def tab : Cond := tabOf yN yB 1 (some .boolean) site
def P (x : Addr) (cd z : Int32) (args : Array Value) (s : State) : Prop := args = #[.ref x] ∧ Has x "java/lang/String" "coder" "B" (.int cd) s ∧ (cd = 0 ∨ cd = 1) ∧ StaticIs s "java/lang/String" "COMPACT_STRINGS" "Z" (.int z) ∧ ¬ z = 0
def E (cd : Int32) (r : Option Value) (s u : State) : Prop := XT.PureE (some (.int (1 - cd))) r s u
theorem law (l : Launch) (x : Addr) (cd z : Int32) : Law l yN 1 0 0 0 yB 1 (some .boolean) site (P x cd z) (E cd) [] 0 0 := by
  refine Law.of_walk (plainFor_of_name (by decide +kernel)) (by decide +kernel) (by decide +kernel) (by decide) (fun _ _ h => by rw [h.1]; rfl) (fun _ U U' hal hh h => ⟨h.1, h.2.1.mv hal hh, h.2.2.1, h.2.2.2.1.there hal hh, h.2.2.2.2⟩) (fun r U U' V V' h1 hal h2 h => XT.PureE.mv r U U' V V' h1 hal h2 h) ?_
  intro p e s m args below meth c s₁ X0 hexec hbytes hml hret hlk hnm hown hh0 W hP
  obtain ⟨rfl, hx, hc, s1, hz⟩ := hP
  have c1 : Steps p.tables e below (s₁.setTop (entryFrame m #[.ref x] 1)) (s₁.setTop (mkF m 0 #[.val (.ref x)] [])) := entry rfl
  obtain ⟨T2, X2, q2, st2⟩ := X0.sget hexec hown (wk W (.fieldLink "java/lang/String" 38 "java/lang/String" "COMPACT_STRINGS" "Z")) s1 (fun _ _ h => by rw [hh0]; exact h) (g := (mkF m 0 #[.val (.ref x)] [])) rfl (hb hbytes d0)
  have hh2 := q2.trans hh0
  have c3 : Steps p.tables e below (s₁.setTop (entryFrame m #[.ref x] 1)) (T2.setTop (mkF m 7 #[.val (.ref x)] [.ref x])) := (c1.trans (st2 _ (Steps.refl _))).trans (by
    refine XS.ifNo X2.here hexec rfl (hb hbytes d3) rfl (i0_eq_f hz) ?_
    refine XS.aloadN X2.here hexec rfl (hb hbytes d6) rfl rfl ?_
    exact Steps.refl _)
  obtain ⟨T4, X4, q4, st4⟩ := X2.hget hexec hown (wk W (.fieldLink "java/lang/String" 15 "java/lang/String" "coder" "B")) (hx.mv X2.warmed.alike hh2) (g := (mkF m 7 #[.val (.ref x)] [.ref x])) rfl (rest := []) rfl (hb hbytes d7)
  have c5 : Steps p.tables e below (s₁.setTop (entryFrame m #[.ref x] 1)) (T4.setTop (mkF m 10 #[.val (.ref x)] [.int cd])) := c3.trans (st4 _ (Steps.refl _))
  have c6 : Steps p.tables e below (s₁.setTop (entryFrame m #[.ref x] 1)) (T4.setTop (mkF m 18 #[.val (.ref x)] [.int (1 - cd)])) := by
    rcases hc with rfl | rfl
    · exact c5.trans (by
        refine XS.ifNo X4.here hexec rfl (hb hbytes d10) rfl (i0_ne_f rfl) ?_
        refine iconstV X4.here hexec rfl 1 (hb hbytes d13) (by decide) ?_
        refine XS.goto X4.here hexec rfl (pc0 := 14) rfl (hb hbytes d14) (by decide) rfl ?_
        exact Steps.refl _)
    · exact c5.trans (by
        refine XS.ifYes X4.here hexec rfl (pc0 := 10) rfl (hb hbytes d10) rfl (i0_ne_t (by decide)) (by decide) rfl ?_
        refine iconstV X4.here hexec rfl 0 (hb hbytes d17) (by decide) ?_
        exact Steps.refl _)
  exact ⟨T4, some (.int (1 - cd)), _, _, _, X4, rfl, rfl, rfl, (fun h => by cases h), ⟨rfl, q4.trans hh2⟩, fun fs hl => c6.trans (X4.ireturnOut hexec hret (by rcases hc with rfl | rfl <;> rfl) (Or.inr (Or.inl rfl)) (hb hbytes d18) hl)⟩
end IsL
namespace LChA
def yN : MethodName := ⟨"java/lang/StringLatin1", "charAt", "([BI)C"⟩
abbrev yB : ByteArray := jdk_43_method_2_code
theorem d0 : decode yB 0 = .ok (.iload_n 1, 1) := by decide +kernel
theorem d1 : decode yB 1 = .ok (.aload_n 0, 1) := by decide +kernel
theorem d2 : decode yB 2 = .ok (.arraylength, 1) := by decide +kernel
theorem d3 : decode yB 3 = .ok (.invokestatic 9, 3) := by decide +kernel
theorem d6 : decode yB 6 = .ok (.aload_n 0, 1) := by decide +kernel
theorem d7 : decode yB 7 = .ok (.iload_n 1, 1) := by decide +kernel
theorem d8 : decode yB 8 = .ok (.baload, 1) := by decide +kernel
theorem d9 : decode yB 9 = .ok (.sipush 255, 3) := by decide +kernel
theorem d12 : decode yB 12 = .ok (.iand, 1) := by decide +kernel
theorem d13 : decode yB 13 = .ok (.i2c, 1) := by decide +kernel
theorem d14 : decode yB 14 = .ok (.ireturn, 1) := by decide +kernel
def site : List Cond := [JO.Str_checkIndex.tab] ++ staticW "java/lang/StringLatin1" 9 JO.Str_checkIndex.yN
def tab : Cond := tabOf yN yB 2 (some .char) site
def P (t : Addr) (V : Cell) (i : Nat) (u : Int32) (fm : Value) (args : Array Value) (s : State) : Prop := args = #[.ref t, .int (Int32.ofNat i)] ∧ XT.Arr .byte t V s ∧ V.slots[i]? = some (.int u) ∧ (StaticIs s "jdk/internal/util/Preconditions" "SIOOBE_FORMATTER" "Ljava/util/function/BiFunction;" fm ∧ fm.isRef = true)
def E (u : Int32) (r : Option Value) (s w : State) : Prop := XT.PureE (some (.int (chr8 u))) r s w
theorem law (l : Launch) (t : Addr) (V : Cell) (i : Nat) (u : Int32) (fm : Value) : Law l yN 2 2 2 27 yB 2 (some .char) site (P t V i u fm) (E u) [] 0 0 := by
  refine Law.of_walk (plainFor_of_name (by decide +kernel)) (by decide +kernel) (by decide +kernel) (by decide) (fun _ _ h => by rw [h.1]; rfl) (fun _ U U' hal hh h => ⟨h.1, h.2.1.mv hal hh, h.2.2.1, h.2.2.2.1.there hal hh, h.2.2.2.2⟩) (fun r U U' V V' h1 hal h2 h => XT.PureE.mv r U U' V V' h1 hal h2 h) ?_
  intro p e s m args below meth c s₁ X0 hexec hbytes hml hret hlk hnm hown hh0 W hP
  obtain ⟨rfl, hV, hu, s1, rf⟩ := hP
  have v31 := hV.2.2.2
  have hi : i < V.slots.size := (Array.getElem?_eq_some_iff.mp hu).1
  have c1 : Steps p.tables e below (s₁.setTop (entryFrame m #[.ref t, .int (Int32.ofNat i)] 2)) (s₁.setTop (mkF m 0 #[.val (.ref t), .val (.int (Int32.ofNat i))] [])) := entry rfl
  have c2 : Steps p.tables e below (s₁.setTop (entryFrame m #[.ref t, .int (Int32.ofNat i)] 2)) (s₁.setTop (mkF m 3 #[.val (.ref t), .val (.int (Int32.ofNat i))] [.int (Int32.ofNat V.slots.size), .int (Int32.ofNat i)])) := c1.trans (by
    refine XS.iloadN X0.here hexec rfl (hb hbytes d0) rfl ?_
    refine XS.aloadN X0.here hexec rfl (hb hbytes d1) rfl rfl ?_
    refine X0.alen hexec (hV.mv X0.warmed.alike hh0) rfl rfl (hb hbytes d2) ?_
    exact Steps.refl _)
  obtain ⟨v3, T3, X3, E3, g3⟩ := X0.callS hexec (JO.Str_checkIndex.law l (Int32.ofNat i) (Int32.ofNat V.slots.size) fm) hown (wks W (staticW "java/lang/StringLatin1" 9 JO.Str_checkIndex.yN)) (wk W JO.Str_checkIndex.tab) (W := 0) (Nat.le_of_ble_eq_true rfl) (Nat.le_of_ble_eq_true rfl) (Nat.le_refl _) (Nat.le_refl _) (g := (mkF m 3 #[.val (.ref t), .val (.int (Int32.ofNat i))] [.int (Int32.ofNat V.slots.size), .int (Int32.ofNat i)])) rfl (by rw [hml]; rfl) c2 (argsL := [.int (Int32.ofNat i), .int (Int32.ofNat V.slots.size)]) (rest := []) rfl rfl (by show 2 * 0 + 0 ≤ _; decide) (hb hbytes d3) (⟨rfl, rf, s1.there X0.warmed.alike hh0, Int32.ofNat_not_neg (by omega), lt32 v31 hi⟩)
  obtain ⟨rfl, q3⟩ := E3
  have hh3 := q3.trans hh0
  have c4 : Steps p.tables e below (s₁.setTop (entryFrame m #[.ref t, .int (Int32.ofNat i)] 2)) (T3.setTop (mkF m 14 #[.val (.ref t), .val (.int (Int32.ofNat i))] [.int (chr8 u)])) := Steps.trans g3 (by
    refine XS.aloadN X3.here hexec rfl (hb hbytes d6) rfl rfl ?_
    refine XS.iloadN X3.here hexec rfl (hb hbytes d7) rfl ?_
    refine X3.aget hexec (hV.mv X3.warmed.alike hh3) rfl hu rfl rfl (hb hbytes d8) ?_
    refine sipushV X3.here hexec rfl 255 (hb hbytes d9) (by decide) ?_
    refine XS.iand X3.here hexec rfl (hb hbytes d12) rfl ?_
    refine i2c X3.here hexec rfl (hb hbytes d13) rfl ?_
    exact Steps.refl _)
  exact ⟨T3, some (.int (chr8 u)), _, _, _, X3, rfl, rfl, rfl, (fun h => by cases h), ⟨rfl, hh3⟩, fun fs hl => c4.trans (X3.ireturnOut hexec hret (narrow_c _) (Or.inr (Or.inr (Or.inr (Or.inl rfl)))) (hb hbytes d14) hl)⟩
end LChA
end StrChars
namespace StrChars.Road
open Jvm Sem ClassFile Op Lib Jvm.Stand Jvm.Free Jvm.Free.XT
open Jvm.Lib.Cold (StaticIs)
theorem consq {a : Array Value} {s : State} {c : Jvm.Cond} {L : List Jvm.Cond} (h0 : c.before a s = true) (h : ∀ w ∈ L, w.before a s = true) : ∀ w ∈ c :: L, w.before a s = true := fun w hw => (List.mem_cons.mp hw).elim (fun e => e ▸ h0) (h w)
/-- the words of String.length(), either coding -/
abbrev wordsLen : List Jvm.Cond := [.code Len.yN Len.yB 1 (some .int), .initialized ST, .fieldLink ST 9 ST "value" "[B", .fieldLink ST 38 ST "COMPACT_STRINGS" "Z", .fieldLink ST 15 ST "coder" "B", .code Cdr.yN Cdr.yB 1 (some .byte), .methodLink ST 335 Cdr.yN, .declares Cdr.yN, .selects ST Cdr.yN Cdr.yN, .instanceMethod Cdr.yN]
theorem tabLen_of {a : Array Value} {s : State} (h : ∀ w ∈ wordsLen, w.before a s = true) : Len.tab.before a s = true := by
  have hc : Cdr.tab.before a s = true := unparts (wk h (.code Cdr.yN Cdr.yB 1 (some .byte))) (wks h (.initialized Cdr.yN.cls :: Cdr.site))
  have q := consq hc h
  exact unparts (wk q (.code Len.yN Len.yB 1 (some .int))) (wks q (.initialized Len.yN.cls :: Len.site))
theorem movedLen {Z s : State} {a0 args : Array Value} (hZ : Z.Warmed39 s.vm) (hw : ∀ d ∈ wordsLen, d.before a0 Z = true) : ∀ d ∈ wordsLen, d.before args s = true := fun d hd => by
  have q := hw d hd
  have t : ∀ d ∈ wordsLen, d = .arrayClass .byte ∨ (d.onTables && d.keepsFace) = true := by decide +kernel
  rcases t d hd with rfl | t
  · exact RoadKit.mvA hZ q
  · exact RoadKit.mv hZ q t
/-- the bytes of the chars cs, low before high -/
def wideBytes : List Int32 → List Value
  | [] => []
  | c :: cs => .int (lo8 c) :: .int (hi8 c) :: wideBytes cs
theorem wide_lo (d : Value) : ∀ (cs : List Int32) (j : Nat), j < cs.length → (wideBytes cs).getD (2 * j) d = .int (lo8 (cs.getD j 0))
  | [], j, h => absurd h (Nat.not_lt_zero j)
  | c :: cs, 0, _ => rfl
  | c :: cs, j + 1, h => by
    have q := wide_lo d cs j (by simpa using h)
    rw [show 2 * (j + 1) = 2 * j + 1 + 1 from by omega]
    simpa [wideBytes] using q
theorem wide_hi (d : Value) : ∀ (cs : List Int32) (j : Nat), j < cs.length → (wideBytes cs).getD (2 * j + 1) d = .int (hi8 (cs.getD j 0))
  | [], j, h => absurd h (Nat.not_lt_zero j)
  | c :: cs, 0, _ => rfl
  | c :: cs, j + 1, h => by
    have q := wide_hi d cs j (by simpa using h)
    rw [show 2 * (j + 1) + 1 = 2 * j + 1 + 1 + 1 from by omega]
    simpa [wideBytes] using q
theorem low_at (d : Value) (cs : List Int32) (j : Nat) (h : j < cs.length) : (cs.map fun c => Value.int (lo8 c)).getD j d = .int (lo8 (cs.getD j 0)) := by
  simp [List.getD_eq_getElem?_getD, h]
/-- an array of N2 bytes vs codes the chars cs by the coder cd -/
def CodA (cs : List Int32) (cd N2 : Int32) (vs : List Value) : Prop := (cd = 0 ∧ N2 = Int32.ofNat cs.length ∧ vs = (cs.map fun c => Value.int (lo8 c)) ∧ ∀ c ∈ cs, ¬ 255 < c) ∨ (cd = 1 ∧ N2 = Int32.ofNat (2 * cs.length) ∧ vs = wideBytes cs ∧ ∃ c ∈ cs, 255 < c)
theorem CodA.cod {cs : List Int32} {cd N2 : Int32} {vs : List Value} {V : Cell} (h : CodA cs cd N2 vs) (hn : 2 * cs.length < 2 ^ 31) (hs : V.slots.size = N2.toNatClampNeg) (hv : RoadKit.Has V vs (.int 0)) : Cod cd cs.length (fun j => cs.getD j 0) V := by
  rcases h with ⟨rfl, rfl, rfl, h⟩ | ⟨rfl, rfl, rfl, c, hc, hw⟩
  · rw [n32 (by omega)] at hs
    exact Or.inl ⟨rfl, hs, fun j hj => ⟨by rw [hv j (by omega), low_at _ _ _ hj], by
      have e : cs.getD j 0 = cs[j] := by simp [List.getD_eq_getElem?_getD, hj]
      show ¬ 255 < cs.getD j 0
      rw [e]; exact h _ (List.getElem_mem _)⟩⟩
  · rw [n32 (by omega)] at hs
    obtain ⟨j, hj, rfl⟩ := List.getElem_of_mem hc
    exact Or.inr ⟨rfl, hs, fun j hj => ⟨by rw [hv _ (by omega), wide_lo _ _ _ hj], by rw [hv _ (by omega), wide_hi _ _ _ hj]⟩, j, hj, by
      have e : cs.getD j 0 = cs[j] := by simp [List.getD_eq_getElem?_getD, hj]
      show 255 < cs.getD j 0
      rw [e]; exact hw⟩
/-- an object of exactly java/lang/String, its two fields found: as the laws ask it -/
theorem strObj {Z U : State} {a0 : Array Value} {kI : Nat} (wi : (Jvm.Cond.instantiable ST kI).before a0 Z = true) (al : Z.vm.Alike U.vm) {x : Addr} {v0 c0 : Value} (E : RoadKit.Exa Z U.heap x ST) (V : RoadKit.Fld Z U.heap x ST "value" "[B" v0) (C : RoadKit.Fld Z U.heap x ST "coder" "B" c0) :
    ∃ (D : Cell) (fV fC : Field), Blank ST x D U ∧ Found ST "value" "[B" fV U ∧ Found ST "coder" "B" fC U ∧ D.slots[fV.slot]? = some v0 ∧ D.slots[fC.slot]? = some c0 ∧ RoadKit.slotOf Z ST "value" "[B" = fV.slot ∧ RoadKit.slotOf Z ST "coder" "B" = fC.slot := by
  obtain ⟨D, cfV, kV, iV, fV, hD, gV, stV, knV, obV, asV, slV⟩ := V
  obtain ⟨D', cfC, kC, iC, fC, hD', gC, stC, -, -, asC, slC⟩ := C
  cases hD.symm.trans hD'
  obtain ⟨D2, kD, e1, e2, e3, e4, e5⟩ := E
  cases hD.symm.trans e1
  obtain ⟨c2, k2, i1, i2, i3, -⟩ := Cond.instantiable_spec wi
  cases e2.symm.trans i1
  cases e3.symm.trans i2
  obtain ⟨kU, u1, u2⟩ := al.2.2 _ _ e3
  exact ⟨D, fV, fC, ⟨hD, ⟨knV, fun q hq => by rw [hq] at obV; cases obV⟩, by rw [al.findClass]; exact e2, kU, u1, by rw [u2]; exact i3, by rw [u2]; exact e5 i3⟩, ⟨SBG.found_only al ⟨cfV, kV, iV, gV⟩, stV⟩, ⟨SBG.found_only al ⟨cfC, kC, iC, gC⟩, stC⟩, slV, slC, by simp [RoadKit.slotOf, gV], by simp [RoadKit.slotOf, gC]⟩
theorem sta_is {Z U : State} (al : Z.vm.Alike U.vm) {C n d : String} {v : Value} (S : RoadKit.Sta Z U.heap C n d v) : StaticIs U C n d v := by
  obtain ⟨cfS, iS, kS, fS, st, cS, t1, t2, t3, t4, t5, t6, t7⟩ := S
  exact StaticIs.there (s := { Z with heap := U.heap }) ⟨cfS, iS, kS, fS, st, cS, t1, t2, t3, t4, t5, (fun q => by rw [q] at t6; cases t6), t7⟩ al rfl
/-- **length() OF SUCH A STRING** -/
theorem lenW {p : Program} {l : Launch} {e : Env} {R : Room} {s : State} {args : Array Value} {below : List Frame} {len W : Nat} {Z : State} {a0 : Array Value} {h : Heap} (hZ : Z.Warmed39 s.vm) (hw : ∀ d ∈ wordsLen, d.before a0 Z = true) {kI : Nat} (wi : (Jvm.Cond.instantiable ST kI).before a0 Z = true)
    {x t : Addr} {kb : ClassId} {cs : List Int32} {cd N2 z : Int32} {vs : List Value} (E : RoadKit.Exa Z h x ST) (V : RoadKit.Fld Z h x ST "value" "[B" (.ref t)) (C : RoadKit.Fld Z h x ST "coder" "B" (.int cd)) (K : RoadKit.Arv Z h t kb .byte N2 vs (.int 0)) (hc : CodA cs cd N2 vs) (hb : ∀ c ∈ cs, ¬ c < 0 ∧ ¬ (65535 : Int32) < c)
    (S : RoadKit.Sta Z h ST "COMPACT_STRINGS" "Z" (.int z)) (hz : ¬ z = 0) (l2 : cs.length ≤ 4000) (hfr : 2 ≤ R.frames) (hlo : W + 25 ≤ R.locals) :
    Back l R p e below s args (⟨"java/lang/String", "length", "()I"⟩ : MethodName) len W (fun P a => a = #[.ref x] ∧ P.U.heap = h ∧ P.cells + 0 ≤ R.cells ∧ P.slots + 0 ≤ R.slots)
      (fun P _ v B => ∃ L, (v = some (.int (Int32.ofNat cs.length)) ∧ L = [] ∧ B.U.heap = h) ∧ B.locs = P.locs ++ L ∧ B.cells = P.cells + 0 ∧ B.slots = P.slots + 0) := by
  obtain ⟨A, K1, K2, K3, K4, K5, K6⟩ := K
  have hcod := hc.cod (by omega) K3 K5
  intro m meth c P g ig mk a X hg hsize hdg hW hn hp'
  obtain ⟨rfl, rfl, r1, r2⟩ := hp'
  have al : Z.vm.Alike P.U.vm := hZ.alike.trans X.warmed.alike
  obtain ⟨D, fV, fC, hB, F1, F2, g1, g2, -, -⟩ := strObj wi al E V C
  have hx : Txt x t A cd cs.length (fun j => cs.getD j 0) P.U := ⟨⟨_, hB.2.2.1, D, hB.1, rfl, by cases q : D.vm <;> first | rfl | exact absurd q (hB.2.1.2 _)⟩, Has.of hB F1 g1, Has.of hB F2 g2, ⟨K1.1, State.isArrayOf_alike al K1.2.1, K1.2.2, by rcases hcod with ⟨-, q, -⟩ | ⟨-, q, -⟩ <;> omega⟩, hcod, fun j hj => by
    have e : cs.getD j 0 = cs[j] := by simp [List.getD_eq_getElem?_getD, hj]
    show ¬ cs.getD j 0 < 0 ∧ ¬ 65535 < cs.getD j 0
    rw [e]; exact hb _ (List.getElem_mem _)⟩
  obtain ⟨v, B, X', ⟨⟨hv, hh⟩, hl, hk, hs⟩, st⟩ := Len.pays x t A cd cs.length (fun j => cs.getD j 0) z (tabLen_of (movedLen hZ hw)) hfr hlo m meth c P g ig mk _ X hg hsize hdg hW hn ⟨r1, r2, rfl, hx, sta_is al S, hz⟩
  exact ⟨v, B, X', ⟨[], ⟨hv, rfl, hh⟩, hl, hk, hs⟩, st⟩
end StrChars.Road
namespace StrChars
open Jvm Sem ClassFile Op Lib Jvm.Stand Jvm.Free.XT Jvm.Free.ALB Jvm.Free.JM Jvm.Free
open Jvm.Lib.Cold (StaticIs)
/-- what place i of a byte[]'s cell holds -/
def yv (A : Cell) (i : Nat) : Int32 := match A.slots[i]? with | some (.int x) => x | _ => 0
theorem yv_get {a : Addr} {A : Cell} {U : State} (h : XT.Arr .byte a A U) (ht : Typed .byte A) {i : Nat} (hi : i < A.slots.size) : A.slots[i]? = some (.int (yv A i)) := by
  have e := Array.getElem?_eq_getElem hi
  have f := ht i _ e
  unfold yv; rw [e]
  generalize A.slots[i] = v at f
  cases v <;> simp [fits] at f ⊢
/-- the two arrays are equal, place for place -/
def EqC (A B : Cell) : Prop := A.slots.size = B.slots.size ∧ ∀ i, i < A.slots.size → yv A i = yv B i
/-- a boolean that says whether p -/
def Says01 (q : Prop) (r : Option Value) (s u : State) : Prop := ∃ v : Int32, r = some (.int v) ∧ u.heap = s.heap ∧ ((v = 1 ∧ q) ∨ (v = 0 ∧ ¬ q))
theorem Says01.mv {q : Prop} : ∀ r (U U' V V' : State), U'.heap = U.heap → V.vm.Alike V'.vm → V'.heap = V.heap → Says01 q r U V → Says01 q r U' V' :=
  fun r U U' V V' h1 _ h2 ⟨v, a, b, c⟩ => ⟨v, a, by rw [h1, h2]; exact b, c⟩
namespace LEq
def yN : MethodName := ⟨"java/lang/StringLatin1", "equals", "([B[B)Z"⟩
abbrev yB : ByteArray := jdk_43_method_13_code
theorem d0 : decode yB 0 = .ok (.aload_n 0, 1) := by decide +kernel
theorem d1 : decode yB 1 = .ok (.arraylength, 1) := by decide +kernel
theorem d2 : decode yB 2 = .ok (.aload_n 1, 1) := by decide +kernel
theorem d3 : decode yB 3 = .ok (.arraylength, 1) := by decide +kernel
theorem d4 : decode yB 4 = .ok (.if_icmp (.ne) 30, 3) := by decide +kernel
theorem d7 : decode yB 7 = .ok (.iconst 0, 1) := by decide +kernel
theorem d8 : decode yB 8 = .ok (.istore_n 2, 1) := by decide +kernel
theorem d9 : decode yB 9 = .ok (.iload_n 2, 1) := by decide +kernel
theorem d10 : decode yB 10 = .ok (.aload_n 0, 1) := by decide +kernel
theorem d11 : decode yB 11 = .ok (.arraylength, 1) := by decide +kernel
theorem d12 : decode yB 12 = .ok (.if_icmp (.ge) 20, 3) := by decide +kernel
theorem d15 : decode yB 15 = .ok (.aload_n 0, 1) := by decide +kernel
theorem d16 : decode yB 16 = .ok (.iload_n 2, 1) := by decide +kernel
theorem d17 : decode yB 17 = .ok (.baload, 1) := by decide +kernel
theorem d18 : decode yB 18 = .ok (.aload_n 1, 1) := by decide +kernel
theorem d19 : decode yB 19 = .ok (.iload_n 2, 1) := by decide +kernel
theorem d20 : decode yB 20 = .ok (.baload, 1) := by decide +kernel
theorem d21 : decode yB 21 = .ok (.if_icmp (.eq) 5, 3) := by decide +kernel
theorem d24 : decode yB 24 = .ok (.iconst 0, 1) := by decide +kernel
theorem d25 : decode yB 25 = .ok (.ireturn, 1) := by decide +kernel
theorem d26 : decode yB 26 = .ok (.iinc 2 1, 3) := by decide +kernel
theorem d29 : decode yB 29 = .ok (.goto (-20), 3) := by decide +kernel
theorem d32 : decode yB 32 = .ok (.iconst 1, 1) := by decide +kernel
theorem d33 : decode yB 33 = .ok (.ireturn, 1) := by decide +kernel
theorem d34 : decode yB 34 = .ok (.iconst 0, 1) := by decide +kernel
theorem d35 : decode yB 35 = .ok (.ireturn, 1) := by decide +kernel
def site : List Cond := []
def tab : Cond := tabOf yN yB 3 (some .boolean) site
def P (a : Addr) (A : Cell) (b : Addr) (B : Cell) (args : Array Value) (s : State) : Prop := args = #[.ref a, .ref b] ∧ XT.Arr .byte a A s ∧ Typed .byte A ∧ XT.Arr .byte b B s ∧ Typed .byte B
/-- whether two byte[] are equal, place for place -/
theorem law (l : Launch) (a : Addr) (A : Cell) (b : Addr) (B : Cell) : Law l yN 2 2 0 0 yB 3 (some .boolean) site (P a A b B) (Says01 (EqC A B)) [] 0 0 := by
  refine Law.of_walk (plainFor_of_name (by decide +kernel)) (by decide +kernel) (by decide +kernel) (by decide) (fun _ _ h => by rw [h.1]; rfl) (fun _ U U' hal hh h => ⟨h.1, h.2.1.mv hal hh, h.2.2.1, h.2.2.2.1.mv hal hh, h.2.2.2.2⟩) (fun r U U' V V' h1 hal h2 h => Says01.mv r U U' V V' h1 hal h2 h) ?_
  intro p e s m args below meth c s₁ X0 hexec hbytes hml hret hlk hnm hown hh0 W hP
  obtain ⟨rfl, hA, tA, hB, tB⟩ := hP
  have a31 := hA.2.2.2
  have b31 := hB.2.2.2
  have hA0 := hA.mv X0.warmed.alike hh0
  have hB0 := hB.mv X0.warmed.alike hh0
  have c1 : Steps p.tables e below (s₁.setTop (entryFrame m #[.ref a, .ref b] 3)) (s₁.setTop (mkF m 0 #[.val (.ref a), .val (.ref b), .unset] [])) := entry rfl
  have c2 : Steps p.tables e below (s₁.setTop (entryFrame m #[.ref a, .ref b] 3)) (s₁.setTop (mkF m 4 #[.val (.ref a), .val (.ref b), .unset] [.int (Int32.ofNat B.slots.size), .int (Int32.ofNat A.slots.size)])) := c1.trans (by
    refine XS.aloadN X0.here hexec rfl (hb hbytes d0) rfl rfl ?_
    refine X0.alen hexec hA0 rfl rfl (hb hbytes d1) ?_
    refine XS.aloadN X0.here hexec rfl (hb hbytes d2) rfl rfl ?_
    refine X0.alen hexec hB0 rfl rfl (hb hbytes d3) ?_
    exact Steps.refl _)
  by_cases hs : A.slots.size = B.slots.size
  · have c3 : Steps p.tables e below (s₁.setTop (entryFrame m #[.ref a, .ref b] 3)) (s₁.setTop (mkF m 9 #[.val (.ref a), .val (.ref b), .val (.int 0)] [])) := c2.trans (by
      refine XS.icmpNo X0.here hexec rfl (hb hbytes d4) rfl (ii_ne_f (by rw [hs])) ?_
      refine iconstV X0.here hexec rfl 0 (hb hbytes d7) (by decide) ?_
      refine XS.istoreN X0.here hexec rfl (hb hbytes d8) rfl rfl ?_
      exact Steps.refl _)
    have loop : ∀ (r i : Nat), i + r = A.slots.size → (∀ j, j < i → yv A j = yv B j) → Steps p.tables e below (s₁.setTop (entryFrame m #[.ref a, .ref b] 3)) (s₁.setTop (mkF m 9 #[.val (.ref a), .val (.ref b), .val (.int (Int32.ofNat i))] [])) → ∃ (pc : Nat) (Ls : Array Slot) (v : Int32), (pc = 25 ∨ pc = 33) ∧ ((v = 1 ∧ EqC A B) ∨ (v = 0 ∧ ¬ EqC A B)) ∧ Steps p.tables e below (s₁.setTop (entryFrame m #[.ref a, .ref b] 3)) (s₁.setTop (mkF m pc Ls [.int v])) := by
      intro r
      induction r with
      | zero =>
        intro i hi he cl
        exact ⟨33, _, 1, Or.inr rfl, Or.inl ⟨rfl, hs, fun j hj => he j (by omega)⟩, cl.trans (by
          refine XS.iloadN X0.here hexec rfl (hb hbytes d9) rfl ?_
          refine XS.aloadN X0.here hexec rfl (hb hbytes d10) rfl rfl ?_
          refine X0.alen hexec hA0 rfl rfl (hb hbytes d11) ?_
          refine XS.icmpYes X0.here hexec rfl (pc0 := 12) rfl (hb hbytes d12) rfl (ii_ge_t (nlt32 (by omega) (by omega))) (by decide) rfl ?_
          refine iconstV X0.here hexec rfl 1 (hb hbytes d32) (by decide) ?_
          exact Steps.refl _)⟩
      | succ r ih =>
        intro i hi he cl
        have c4 : Steps p.tables e below (s₁.setTop (entryFrame m #[.ref a, .ref b] 3)) (s₁.setTop (mkF m 21 #[.val (.ref a), .val (.ref b), .val (.int (Int32.ofNat i))] [.int (yv B i), .int (yv A i)])) := cl.trans (by
          refine XS.iloadN X0.here hexec rfl (hb hbytes d9) rfl ?_
          refine XS.aloadN X0.here hexec rfl (hb hbytes d10) rfl rfl ?_
          refine X0.alen hexec hA0 rfl rfl (hb hbytes d11) ?_
          refine XS.icmpNo X0.here hexec rfl (hb hbytes d12) rfl (ii_ge_f (lt32 (by omega) (by omega))) ?_
          refine XS.aloadN X0.here hexec rfl (hb hbytes d15) rfl rfl ?_
          refine XS.iloadN X0.here hexec rfl (hb hbytes d16) rfl ?_
          refine X0.aget hexec hA0 rfl (yv_get hA tA (i := i) (by omega)) rfl rfl (hb hbytes d17) ?_
          refine XS.aloadN X0.here hexec rfl (hb hbytes d18) rfl rfl ?_
          refine XS.iloadN X0.here hexec rfl (hb hbytes d19) rfl ?_
          refine X0.aget hexec hB0 rfl (yv_get hB tB (i := i) (by omega)) rfl rfl (hb hbytes d20) ?_
          exact Steps.refl _)
        by_cases hv : yv A i = yv B i
        · have c5 : Steps p.tables e below (s₁.setTop (entryFrame m #[.ref a, .ref b] 3)) (s₁.setTop (mkF m 9 #[.val (.ref a), .val (.ref b), .val (.int (Int32.ofNat i + 1))] [])) := c4.trans (by
            refine XS.icmpYes X0.here hexec rfl (pc0 := 21) rfl (hb hbytes d21) rfl (ii_eq_t hv) (by decide) rfl ?_
            refine iincV X0.here hexec rfl 1 (hb hbytes d26) (by decide) rfl rfl ?_
            refine XS.goto X0.here hexec rfl (pc0 := 29) rfl (hb hbytes d29) (by decide) rfl ?_
            exact Steps.refl _)
          rw [succ32] at c5
          exact ih (i + 1) (by omega) (fun j hj => by
            by_cases e : j = i
            · rw [e]; exact hv
            · exact he j (by omega)) c5
        · exact ⟨25, _, 0, Or.inl rfl, Or.inr ⟨rfl, fun q => hv (q.2 i (by omega))⟩, c4.trans (by
            refine XS.icmpNo X0.here hexec rfl (hb hbytes d21) rfl (ii_eq_f hv) ?_
            refine iconstV X0.here hexec rfl 0 (hb hbytes d24) (by decide) ?_
            exact Steps.refl _)⟩
    obtain ⟨pc, Ls, v, hpc, hv, cz⟩ := loop A.slots.size 0 (by omega) (fun j hj => absurd hj (Nat.not_lt_zero j)) c3
    have nv : narrow .boolean (.int v) = .int v := by rcases hv with ⟨rfl, -⟩ | ⟨rfl, -⟩ <;> rfl
    rcases hpc with rfl | rfl
    · exact ⟨s₁, some (.int v), _, _, _, X0, rfl, rfl, rfl, (fun h => by cases h), ⟨v, rfl, hh0, hv⟩, fun fs hl => cz.trans (X0.ireturnOut hexec hret nv (Or.inr (Or.inl rfl)) (hb hbytes d25) hl)⟩
    · exact ⟨s₁, some (.int v), _, _, _, X0, rfl, rfl, rfl, (fun h => by cases h), ⟨v, rfl, hh0, hv⟩, fun fs hl => cz.trans (X0.ireturnOut hexec hret nv (Or.inr (Or.inl rfl)) (hb hbytes d33) hl)⟩
  · have c3 : Steps p.tables e below (s₁.setTop (entryFrame m #[.ref a, .ref b] 3)) (s₁.setTop (mkF m 35 #[.val (.ref a), .val (.ref b), .unset] [.int 0])) := c2.trans (by
      refine XS.icmpYes X0.here hexec rfl (pc0 := 4) rfl (hb hbytes d4) rfl (ii_ne_t (ne32 a31 b31 hs)) (by decide) rfl ?_
      refine iconstV X0.here hexec rfl 0 (hb hbytes d34) (by decide) ?_
      exact Steps.refl _)
    exact ⟨s₁, some (.int 0), _, _, _, X0, rfl, rfl, rfl, (fun h => by cases h), ⟨0, rfl, hh0, Or.inr ⟨rfl, fun q => hs q.1⟩⟩, fun fs hl => c3.trans (X0.ireturnOut hexec hret rfl (Or.inr (Or.inl rfl)) (hb hbytes d35) hl)⟩
end LEq
theorem Cod.ty {cd : Int32} {n : Nat} {f : Nat → Int32} {V : Cell} (h : Cod cd n f V) : Typed .byte V := fun i v hv => by
  have hi : i < V.slots.size := (Array.getElem?_eq_some_iff.mp hv).1
  rcases h with ⟨-, k1, k2⟩ | ⟨-, k1, k2, -⟩
  · rw [(k2 i (by omega)).1] at hv; cases hv; exact fits_lo8 _
  · rcases Nat.mod_two_eq_zero_or_one i with e | e
    · obtain ⟨j, rfl⟩ : ∃ j, i = 2 * j := ⟨i / 2, by omega⟩
      rw [(k2 j (by omega)).1] at hv; cases hv; exact fits_lo8 _
    · obtain ⟨j, rfl⟩ : ∃ j, i = 2 * j + 1 := ⟨i / 2, by omega⟩
      rw [(k2 j (by omega)).2] at hv; cases hv; exact fits_lo8 _
/-- the same text -/
def SameT (n : Nat) (f : Nat → Int32) (k : Nat) (g : Nat → Int32) : Prop := n = k ∧ ∀ j, j < n → f j = g j
theorem lo8_inj {x y : Int32} (h0 : ¬ x < 0) (h1 : ¬ 255 < x) (k0 : ¬ y < 0) (k1 : ¬ 255 < y) (h : lo8 x = lo8 y) : x = y := by
  rw [← lo8_mask h0 h1, ← lo8_mask k0 k1, h]
/-- arrays coded by one coder are equal just where the texts are -/
theorem Cod.eqv {cd : Int32} {n k : Nat} {f g : Nat → Int32} {V V' : Cell} (h : Cod cd n f V) (h' : Cod cd k g V') (hf : ∀ j, j < n → ¬ f j < 0 ∧ ¬ 65535 < f j) (hg : ∀ j, j < k → ¬ g j < 0 ∧ ¬ 65535 < g j) : EqC V V' ↔ SameT n f k g := by
  have yvv : ∀ {W : Cell} {i : Nat} {x : Int32}, W.slots[i]? = some (.int x) → yv W i = x := fun q => by unfold yv; rw [q]
  rcases h with ⟨rfl, k1, k2⟩ | ⟨rfl, k1, k2, -⟩
  · rcases h' with ⟨-, m1, m2⟩ | ⟨e, -⟩
    · constructor
      · rintro ⟨e1, e2⟩
        refine ⟨by omega, fun j hj => ?_⟩
        have q := e2 j (by omega)
        rw [yvv (k2 j hj).1, yvv (m2 j (by omega)).1] at q
        exact lo8_inj (hf j hj).1 (k2 j hj).2 (hg j (by omega)).1 (m2 j (by omega)).2 q
      · rintro ⟨rfl, e2⟩
        refine ⟨by omega, fun j hj => ?_⟩
        rw [yvv (k2 j (by omega)).1, yvv (m2 j (by omega)).1, e2 j (by omega)]
    · exact absurd e (by decide)
  · rcases h' with ⟨e, -⟩ | ⟨-, m1, m2, -⟩
    · exact absurd e (by decide)
    · constructor
      · rintro ⟨e1, e2⟩
        refine ⟨by omega, fun j hj => ?_⟩
        have q1 := e2 (2 * j) (by omega)
        have q2 := e2 (2 * j + 1) (by omega)
        rw [yvv (k2 j hj).1, yvv (m2 j (by omega)).1] at q1
        rw [yvv (k2 j hj).2, yvv (m2 j (by omega)).2] at q2
        rw [← pair_says (hf j hj).1 (hf j hj).2, ← pair_says (hg j (by omega)).1 (hg j (by omega)).2, q1, q2]
      · rintro ⟨rfl, e2⟩
        refine ⟨by omega, fun i hi => ?_⟩
        rcases Nat.mod_two_eq_zero_or_one i with e | e
        · obtain ⟨j, rfl⟩ : ∃ j, i = 2 * j := ⟨i / 2, by omega⟩
          rw [yvv (k2 j (by omega)).1, yvv (m2 j (by omega)).1, e2 j (by omega)]
        · obtain ⟨j, rfl⟩ : ∃ j, i = 2 * j + 1 := ⟨i / 2, by omega⟩
          rw [yvv (k2 j (by omega)).2, yvv (m2 j (by omega)).2, e2 j (by omega)]
/-- two codings differ: so do the texts -/
theorem Cod.dif {cd cd' : Int32} {n k : Nat} {f g : Nat → Int32} {V V' : Cell} (h : Cod cd n f V) (h' : Cod cd' k g V') (hne : ¬ cd = cd') : ¬ SameT n f k g := by
  rintro ⟨rfl, e⟩
  rcases h with ⟨rfl, -, k2⟩ | ⟨rfl, -, -, j, hj, hw⟩
  · rcases h' with ⟨rfl, -⟩ | ⟨-, -, -, j, hj, hw⟩
    · exact hne rfl
    · exact (k2 j hj).2 (by rw [e j hj]; exact hw)
  · rcases h' with ⟨-, -, m2⟩ | ⟨rfl, -⟩
    · exact (m2 j hj).2 (by rw [← e j hj]; exact hw)
    · exact hne rfl
/-- an object of exactly C is an instance of C -/
theorem cinst {p : Program} {l : Launch} {e : Env} {R : Room} {s : State} {m : MethodId} {args : Array Value} {below : List Frame} {meth : Method} {c : Code} {T : State} {locs : List Loc} {cells slots : Nat} (X : Stand p l e R s m args below meth c T locs cells slots) (hexec : p.tables.exec = Jvm.exec) {own C : String} {index : Nat} (hown : s.vm.findClass own = some m.cls) (hlink : (Cond.classLink own index C).before args s = true) {a : Addr} (hE : Exact C a T)
    {g : JFrame} (hg : g.method = m) {rest : List Value} (hstack : g.stack = .ref a :: rest) (hdg : decode c.code g.pc = .ok (.instanceof index, 3)) :
    ∃ T', Stand p l e R s m args below meth c T' locs cells slots ∧ T'.heap = T.heap ∧ ∀ target, Steps p.tables e below (T'.setTop { g with pc := g.pc + 3, stack := .int 1 :: rest }) target → Steps p.tables e below (T.setTop g) target := by
  obtain ⟨cB, h1, D, h2, h3, h4⟩ := hE
  have h1' : s.vm.findClass C = some cB := by rw [← X.warmed.alike.findClass]; exact h1
  obtain ⟨vm', X', st⟩ := X.instanceofYes hexec hown hlink h2 h4 h1' (by rw [h3]; exact Jvm.Free.SB.assignable_self _ _) hg hstack hdg
  exact ⟨_, X', rfl, st⟩
theorem cself {p : Program} {l : Launch} {e : Env} {R : Room} {s : State} {m : MethodId} {args : Array Value} {below : List Frame} {meth : Method} {c : Code} {T : State} {locs : List Loc} {cells slots : Nat} (X : Stand p l e R s m args below meth c T locs cells slots) (hexec : p.tables.exec = Jvm.exec) {own C : String} {index : Nat} (hown : s.vm.findClass own = some m.cls) (hlink : (Cond.classLink own index C).before args s = true) {a : Addr} (hE : Exact C a T)
    {g : JFrame} (hg : g.method = m) {rest : List Value} (hstack : g.stack = .ref a :: rest) (hdg : decode c.code g.pc = .ok (.checkcast index, 3)) :
    ∃ T', Stand p l e R s m args below meth c T' locs cells slots ∧ T'.heap = T.heap ∧ ∀ target, Steps p.tables e below (T'.setTop { g with pc := g.pc + 3, stack := .ref a :: rest }) target → Steps p.tables e below (T.setTop g) target := by
  obtain ⟨cB, h1, D, h2, h3, h4⟩ := hE
  have h1' : s.vm.findClass C = some cB := by rw [← X.warmed.alike.findClass]; exact h1
  obtain ⟨vm', X', st⟩ := X.checkcastYes hexec hown hlink h2 h4 h1' (by rw [h3]; exact Jvm.Free.SB.assignable_self _ _) hg hstack hdg
  exact ⟨_, X', rfl, fun t h => st t (by rw [← hstack] at h; exact h)⟩
namespace SEq
def yN : MethodName := ⟨"java/lang/String", "equals", "(Ljava/lang/Object;)Z"⟩
abbrev yB : ByteArray := jdk_42_method_66_code
theorem d0 : decode yB 0 = .ok (.aload_n 0, 1) := by decide +kernel
theorem d1 : decode yB 1 = .ok (.aload_n 1, 1) := by decide +kernel
theorem d2 : decode yB 2 = .ok (.if_acmp (.ne) 5, 3) := by decide +kernel
theorem d5 : decode yB 5 = .ok (.iconst 1, 1) := by decide +kernel
theorem d6 : decode yB 6 = .ok (.ireturn, 1) := by decide +kernel
theorem d7 : decode yB 7 = .ok (.aload_n 1, 1) := by decide +kernel
theorem d8 : decode yB 8 = .ok (.instanceof 10, 3) := by decide +kernel
theorem d11 : decode yB 11 = .ok (.ifCond (.eq) 43, 3) := by decide +kernel
theorem d14 : decode yB 14 = .ok (.aload_n 1, 1) := by decide +kernel
theorem d15 : decode yB 15 = .ok (.checkcast 10, 3) := by decide +kernel
theorem d18 : decode yB 18 = .ok (.astore_n 2, 1) := by decide +kernel
theorem d19 : decode yB 19 = .ok (.getstatic 38, 3) := by decide +kernel
theorem d22 : decode yB 22 = .ok (.ifCond (.eq) 14, 3) := by decide +kernel
theorem d25 : decode yB 25 = .ok (.aload_n 0, 1) := by decide +kernel
theorem d26 : decode yB 26 = .ok (.getfield 15, 3) := by decide +kernel
theorem d29 : decode yB 29 = .ok (.aload_n 2, 1) := by decide +kernel
theorem d30 : decode yB 30 = .ok (.getfield 15, 3) := by decide +kernel
theorem d33 : decode yB 33 = .ok (.if_icmp (.ne) 21, 3) := by decide +kernel
theorem d36 : decode yB 36 = .ok (.aload_n 0, 1) := by decide +kernel
theorem d37 : decode yB 37 = .ok (.getfield 9, 3) := by decide +kernel
theorem d40 : decode yB 40 = .ok (.aload_n 2, 1) := by decide +kernel
theorem d41 : decode yB 41 = .ok (.getfield 9, 3) := by decide +kernel
theorem d44 : decode yB 44 = .ok (.invokestatic 541, 3) := by decide +kernel
theorem d47 : decode yB 47 = .ok (.ifCond (.eq) 7, 3) := by decide +kernel
theorem d50 : decode yB 50 = .ok (.iconst 1, 1) := by decide +kernel
theorem d51 : decode yB 51 = .ok (.goto 4, 3) := by decide +kernel
theorem d54 : decode yB 54 = .ok (.iconst 0, 1) := by decide +kernel
theorem d55 : decode yB 55 = .ok (.ireturn, 1) := by decide +kernel
def site : List Cond := [.classLink "java/lang/String" 10 "java/lang/String", .fieldLink "java/lang/String" 38 "java/lang/String" "COMPACT_STRINGS" "Z", .fieldLink "java/lang/String" 15 "java/lang/String" "coder" "B", .fieldLink "java/lang/String" 9 "java/lang/String" "value" "[B", LEq.tab] ++ staticW "java/lang/String" 541 LEq.yN
def tab : Cond := tabOf yN yB 3 (some .boolean) site
def P (x t : Addr) (V : Cell) (cd : Int32) (n : Nat) (f : Nat → Int32) (y t' : Addr) (V' : Cell) (cd' : Int32) (k : Nat) (g : Nat → Int32) (z : Int32) (args : Array Value) (s : State) : Prop := args = #[.ref x, .ref y] ∧ Txt x t V cd n f s ∧ Txt y t' V' cd' k g s ∧ StaticIs s "java/lang/String" "COMPACT_STRINGS" "Z" (.int z) ∧ ¬ z = 0
/-- equals(Object) of two Strings: whether the texts are the same -/
theorem law (l : Launch) (x t : Addr) (V : Cell) (cd : Int32) (n : Nat) (f : Nat → Int32) (y t' : Addr) (V' : Cell) (cd' : Int32) (k : Nat) (g : Nat → Int32) (z : Int32) : Law l yN 2 1 1 14 yB 3 (some .boolean) site (P x t V cd n f y t' V' cd' k g z) (Says01 (SameT n f k g)) [] 0 0 := by
  refine Law.of_walk (plainFor_of_name (by decide +kernel)) (by decide +kernel) (by decide +kernel) (by decide) (fun _ _ h => by rw [h.1]; rfl) (fun _ U U' hal hh h => ⟨h.1, h.2.1.mv hal hh, h.2.2.1.mv hal hh, h.2.2.2.1.there hal hh, h.2.2.2.2⟩) (fun r U U' V V' h1 hal h2 h => Says01.mv r U U' V V' h1 hal h2 h) ?_
  intro p e s m args below meth c s₁ X0 hexec hbytes hml hret hlk hnm hown hh0 W hP
  obtain ⟨rfl, hx, hy, s1, hz⟩ := hP
  have c1 : Steps p.tables e below (s₁.setTop (entryFrame m #[.ref x, .ref y] 3)) (s₁.setTop (mkF m 2 #[.val (.ref x), .val (.ref y), .unset] [.ref y, .ref x])) := Steps.trans (entry rfl) (by
    show Steps p.tables e below (s₁.setTop (mkF m 0 #[.val (.ref x), .val (.ref y), .unset] [])) _
    refine XS.aloadN X0.here hexec rfl (hb hbytes d0) rfl rfl ?_
    refine XS.aloadN X0.here hexec rfl (hb hbytes d1) rfl rfl ?_
    exact Steps.refl _)
  by_cases hxy : x = y
  · have c2 : Steps p.tables e below (s₁.setTop (entryFrame m #[.ref x, .ref y] 3)) (s₁.setTop (mkF m 6 #[.val (.ref x), .val (.ref y), .unset] [.int 1])) := c1.trans (by
      refine acmpNo X0.here hexec rfl (hb hbytes d2) rfl rfl rfl (by simp [acmp, hxy]) ?_
      refine iconstV X0.here hexec rfl 1 (hb hbytes d5) (by decide) ?_
      exact Steps.refl _)
    subst hxy
    have ec : cd = cd' := by
      obtain ⟨D, fd, a1, a2, a3⟩ := hx.2.2.1
      obtain ⟨D', fd', b1, b2, b3⟩ := hy.2.2.1
      cases a1.symm.trans b1
      obtain ⟨q1, q2, q3, q4⟩ := a2.1
      obtain ⟨r1, r2, r3, r4⟩ := b2.1
      cases q4.symm.trans r4
      cases a3.symm.trans b3; rfl
    have et : t = t' := by
      obtain ⟨D, fd, a1, a2, a3⟩ := hx.2.1
      obtain ⟨D', fd', b1, b2, b3⟩ := hy.2.1
      cases a1.symm.trans b1
      obtain ⟨q1, q2, q3, q4⟩ := a2.1
      obtain ⟨r1, r2, r3, r4⟩ := b2.1
      cases q4.symm.trans r4
      cases a3.symm.trans b3; rfl
    subst ec et
    have ev : V = V' := by cases hx.2.2.2.1.1.symm.trans hy.2.2.2.1.1; rfl
    subst ev
    have hs : SameT n f k g := (Cod.eqv hx.2.2.2.2.1 hy.2.2.2.2.1 hx.2.2.2.2.2 hy.2.2.2.2.2).mp ⟨rfl, fun _ _ => rfl⟩
    exact ⟨s₁, some (.int 1), _, _, _, X0, rfl, rfl, rfl, (fun h => by cases h), ⟨1, rfl, hh0, Or.inl ⟨rfl, hs⟩⟩, fun fs hl => c2.trans (X0.ireturnOut hexec hret rfl (Or.inr (Or.inl rfl)) (hb hbytes d6) hl)⟩
  · have c2 : Steps p.tables e below (s₁.setTop (entryFrame m #[.ref x, .ref y] 3)) (s₁.setTop (mkF m 8 #[.val (.ref x), .val (.ref y), .unset] [.ref y])) := c1.trans (by
      refine acmpYes X0.here hexec rfl (pc0 := 2) rfl (hb hbytes d2) rfl rfl rfl (by simp [acmp, hxy]) (by decide) rfl ?_
      refine XS.aloadN X0.here hexec rfl (hb hbytes d7) rfl rfl ?_
      exact Steps.refl _)
    obtain ⟨T3, X3, q3, st3⟩ := cinst X0 hexec hown (wk W (.classLink "java/lang/String" 10 "java/lang/String")) (hy.mv X0.warmed.alike hh0).1 (g := (mkF m 8 #[.val (.ref x), .val (.ref y), .unset] [.ref y])) rfl (rest := []) rfl (hb hbytes d8)
    have hh3 := q3.trans hh0
    have c4 : Steps p.tables e below (s₁.setTop (entryFrame m #[.ref x, .ref y] 3)) (T3.setTop (mkF m 15 #[.val (.ref x), .val (.ref y), .unset] [.ref y])) := (c2.trans (st3 _ (Steps.refl _))).trans (by
      refine XS.ifNo X3.here hexec rfl (hb hbytes d11) rfl (i0_eq_f (by decide)) ?_
      refine XS.aloadN X3.here hexec rfl (hb hbytes d14) rfl rfl ?_
      exact Steps.refl _)
    obtain ⟨T5, X5, q5, st5⟩ := cself X3 hexec hown (wk W (.classLink "java/lang/String" 10 "java/lang/String")) (hy.mv X3.warmed.alike hh3).1 (g := (mkF m 15 #[.val (.ref x), .val (.ref y), .unset] [.ref y])) rfl (rest := []) rfl (hb hbytes d15)
    have hh5 := q5.trans hh3
    have c6 : Steps p.tables e below (s₁.setTop (entryFrame m #[.ref x, .ref y] 3)) (T5.setTop (mkF m 19 #[.val (.ref x), .val (.ref y), .val (.ref y)] [])) := (c4.trans (st5 _ (Steps.refl _))).trans (by
      refine XS.astoreN X5.here hexec rfl (hb hbytes d18) rfl rfl rfl ?_
      exact Steps.refl _)
    obtain ⟨T7, X7, q7, st7⟩ := X5.sget hexec hown (wk W (.fieldLink "java/lang/String" 38 "java/lang/String" "COMPACT_STRINGS" "Z")) s1 (fun _ _ h => by rw [hh5]; exact h) (g := (mkF m 19 #[.val (.ref x), .val (.ref y), .val (.ref y)] [])) rfl (hb hbytes d19)
    have hh7 := q7.trans hh5
    have c8 : Steps p.tables e below (s₁.setTop (entryFrame m #[.ref x, .ref y] 3)) (T7.setTop (mkF m 26 #[.val (.ref x), .val (.ref y), .val (.ref y)] [.ref x])) := (c6.trans (st7 _ (Steps.refl _))).trans (by
      refine XS.ifNo X7.here hexec rfl (hb hbytes d22) rfl (i0_eq_f hz) ?_
      refine XS.aloadN X7.here hexec rfl (hb hbytes d25) rfl rfl ?_
      exact Steps.refl _)
    obtain ⟨T9, X9, q9, st9⟩ := X7.hget hexec hown (wk W (.fieldLink "java/lang/String" 15 "java/lang/String" "coder" "B")) (hx.mv X7.warmed.alike hh7).2.2.1 (g := (mkF m 26 #[.val (.ref x), .val (.ref y), .val (.ref y)] [.ref x])) rfl (rest := []) rfl (hb hbytes d26)
    have hh9 := q9.trans hh7
    have c10 : Steps p.tables e below (s₁.setTop (entryFrame m #[.ref x, .ref y] 3)) (T9.setTop (mkF m 30 #[.val (.ref x), .val (.ref y), .val (.ref y)] [.ref y, .int cd])) := (c8.trans (st9 _ (Steps.refl _))).trans (by
      refine XS.aloadN X9.here hexec rfl (hb hbytes d29) rfl rfl ?_
      exact Steps.refl _)
    obtain ⟨T11, X11, q11, st11⟩ := X9.hget hexec hown (wk W (.fieldLink "java/lang/String" 15 "java/lang/String" "coder" "B")) (hy.mv X9.warmed.alike hh9).2.2.1 (g := (mkF m 30 #[.val (.ref x), .val (.ref y), .val (.ref y)] [.ref y, .int cd])) rfl (rest := [.int cd]) rfl (hb hbytes d30)
    have hh11 := q11.trans hh9
    have c12 : Steps p.tables e below (s₁.setTop (entryFrame m #[.ref x, .ref y] 3)) (T11.setTop (mkF m 33 #[.val (.ref x), .val (.ref y), .val (.ref y)] [.int cd', .int cd])) := c10.trans (st11 _ (Steps.refl _))
    by_cases hcd : cd = cd'
    · subst hcd
      have c13 : Steps p.tables e below (s₁.setTop (entryFrame m #[.ref x, .ref y] 3)) (T11.setTop (mkF m 37 #[.val (.ref x), .val (.ref y), .val (.ref y)] [.ref x])) := c12.trans (by
        refine XS.icmpNo X11.here hexec rfl (hb hbytes d33) rfl (ii_ne_f rfl) ?_
        refine XS.aloadN X11.here hexec rfl (hb hbytes d36) rfl rfl ?_
        exact Steps.refl _)
      obtain ⟨T14, X14, q14, st14⟩ := X11.hget hexec hown (wk W (.fieldLink "java/lang/String" 9 "java/lang/String" "value" "[B")) (hx.mv X11.warmed.alike hh11).2.1 (g := (mkF m 37 #[.val (.ref x), .val (.ref y), .val (.ref y)] [.ref x])) rfl (rest := []) rfl (hb hbytes d37)
      have hh14 := q14.trans hh11
      have c15 : Steps p.tables e below (s₁.setTop (entryFrame m #[.ref x, .ref y] 3)) (T14.setTop (mkF m 41 #[.val (.ref x), .val (.ref y), .val (.ref y)] [.ref y, .ref t])) := (c13.trans (st14 _ (Steps.refl _))).trans (by
        refine XS.aloadN X14.here hexec rfl (hb hbytes d40) rfl rfl ?_
        exact Steps.refl _)
      obtain ⟨T16, X16, q16, st16⟩ := X14.hget hexec hown (wk W (.fieldLink "java/lang/String" 9 "java/lang/String" "value" "[B")) (hy.mv X14.warmed.alike hh14).2.1 (g := (mkF m 41 #[.val (.ref x), .val (.ref y), .val (.ref y)] [.ref y, .ref t])) rfl (rest := [.ref t]) rfl (hb hbytes d41)
      have hh16 := q16.trans hh14
      have c17 : Steps p.tables e below (s₁.setTop (entryFrame m #[.ref x, .ref y] 3)) (T16.setTop (mkF m 44 #[.val (.ref x), .val (.ref y), .val (.ref y)] [.ref t', .ref t])) := c15.trans (st16 _ (Steps.refl _))
      obtain ⟨v18, T18, X18, E18, g18⟩ := X16.callS hexec (LEq.law l t V t' V') hown (wks W (staticW "java/lang/String" 541 LEq.yN)) (wk W LEq.tab) (W := 0) (Nat.le_of_ble_eq_true rfl) (Nat.le_of_ble_eq_true rfl) (Nat.le_refl _) (Nat.le_refl _) (g := (mkF m 44 #[.val (.ref x), .val (.ref y), .val (.ref y)] [.ref t', .ref t])) rfl (by rw [hml]; rfl) c17 (argsL := [.ref t, .ref t']) (rest := []) rfl rfl (by show 2 * 0 + 0 ≤ _; decide) (hb hbytes d44) (⟨rfl, hx.2.2.2.1.mv X16.warmed.alike hh16, hx.2.2.2.2.1.ty, hy.2.2.2.1.mv X16.warmed.alike hh16, hy.2.2.2.2.1.ty⟩)
      obtain ⟨v, rfl, q18, hv⟩ := E18
      have iff := Cod.eqv hx.2.2.2.2.1 hy.2.2.2.2.1 hx.2.2.2.2.2 hy.2.2.2.2.2
      rcases hv with ⟨rfl, he⟩ | ⟨rfl, he⟩
      · have c19 : Steps p.tables e below (s₁.setTop (entryFrame m #[.ref x, .ref y] 3)) (T18.setTop (mkF m 55 #[.val (.ref x), .val (.ref y), .val (.ref y)] [.int 1])) := Steps.trans g18 (by
          refine XS.ifNo X18.here hexec rfl (hb hbytes d47) rfl (i0_eq_f (by decide)) ?_
          refine iconstV X18.here hexec rfl 1 (hb hbytes d50) (by decide) ?_
          refine XS.goto X18.here hexec rfl (pc0 := 51) rfl (hb hbytes d51) (by decide) rfl ?_
          exact Steps.refl _)
        exact ⟨T18, some (.int 1), _, _, _, X18, rfl, rfl, rfl, (fun h => by cases h), ⟨1, rfl, q18.trans hh16, Or.inl ⟨rfl, iff.mp he⟩⟩, fun fs hl => c19.trans (X18.ireturnOut hexec hret rfl (Or.inr (Or.inl rfl)) (hb hbytes d55) hl)⟩
      · have c19 : Steps p.tables e below (s₁.setTop (entryFrame m #[.ref x, .ref y] 3)) (T18.setTop (mkF m 55 #[.val (.ref x), .val (.ref y), .val (.ref y)] [.int 0])) := Steps.trans g18 (by
          refine XS.ifYes X18.here hexec rfl (pc0 := 47) rfl (hb hbytes d47) rfl (i0_eq_t rfl) (by decide) rfl ?_
          refine iconstV X18.here hexec rfl 0 (hb hbytes d54) (by decide) ?_
          exact Steps.refl _)
        exact ⟨T18, some (.int 0), _, _, _, X18, rfl, rfl, rfl, (fun h => by cases h), ⟨0, rfl, q18.trans hh16, Or.inr ⟨rfl, fun q => he (iff.mpr q)⟩⟩, fun fs hl => c19.trans (X18.ireturnOut hexec hret rfl (Or.inr (Or.inl rfl)) (hb hbytes d55) hl)⟩
    · have c13 : Steps p.tables e below (s₁.setTop (entryFrame m #[.ref x, .ref y] 3)) (T11.setTop (mkF m 55 #[.val (.ref x), .val (.ref y), .val (.ref y)] [.int 0])) := c12.trans (by
        refine XS.icmpYes X11.here hexec rfl (pc0 := 33) rfl (hb hbytes d33) rfl (ii_ne_t hcd) (by decide) rfl ?_
        refine iconstV X11.here hexec rfl 0 (hb hbytes d54) (by decide) ?_
        exact Steps.refl _)
      exact ⟨T11, some (.int 0), _, _, _, X11, rfl, rfl, rfl, (fun h => by cases h), ⟨0, rfl, hh11, Or.inr ⟨rfl, Cod.dif hx.2.2.2.2.1 hy.2.2.2.2.1 hcd⟩⟩, fun fs hl => c13.trans (X11.ireturnOut hexec hret rfl (Or.inr (Or.inl rfl)) (hb hbytes d55) hl)⟩
theorem pays {l : Launch} {R : Room} {p : Program} {e : Env} {below : List Frame} {s : State} {sargs : Array Value} {len W : Nat} (x t : Addr) (V : Cell) (cd : Int32) (n : Nat) (f : Nat → Int32) (y t' : Addr) (V' : Cell) (cd' : Int32) (k : Nat) (g : Nat → Int32) (z : Int32) (htab : tab.before sargs s = true) (hfr : 2 ≤ R.frames) (hlo : W + 28 ≤ R.locals) :
    Back l R p e below s sargs yN len W (fun A₁ a₁ => A₁.cells + 0 ≤ R.cells ∧ A₁.slots + 0 ≤ R.slots ∧ P x t V cd n f y t' V' cd' k g z a₁ A₁.U) (fun A₁ _ v₁ B₁ => Says01 (SameT n f k g) v₁ A₁.U B₁.U ∧ B₁.locs = A₁.locs ++ [] ∧ B₁.cells = A₁.cells + 0 ∧ B₁.slots = A₁.slots + 0) :=
  (law l x t V cd n f y t' V' cd' k g z).pays htab hfr (by omega)
end SEq
end StrChars
namespace StrChars.Road
open Jvm Sem ClassFile Op Lib Jvm.Stand Jvm.Free Jvm.Free.XT
open Jvm.Lib.Cold (StaticIs)
/-- the words of String.equals(Object) -/
abbrev wordsEq : List Jvm.Cond := [.code SEq.yN SEq.yB 3 (some .boolean), .initialized ST, .classLink ST 10 ST, .fieldLink ST 38 ST "COMPACT_STRINGS" "Z", .fieldLink ST 15 ST "coder" "B", .fieldLink ST 9 ST "value" "[B", .methodLink ST 541 LEq.yN, .static LEq.yN, .code LEq.yN LEq.yB 3 (some .boolean), .initialized "java/lang/StringLatin1"]
theorem tabEq_of {a : Array Value} {s : State} (h : ∀ w ∈ wordsEq, w.before a s = true) : SEq.tab.before a s = true := by
  have hl : LEq.tab.before a s = true := unparts (wk h (.code LEq.yN LEq.yB 3 (some .boolean))) (wks h (.initialized LEq.yN.cls :: LEq.site))
  have q := consq hl h
  exact unparts (wk q (.code SEq.yN SEq.yB 3 (some .boolean))) (wks q (.initialized SEq.yN.cls :: SEq.site))
theorem movedEq {Z s : State} {a0 args : Array Value} (hZ : Z.Warmed39 s.vm) (hw : ∀ d ∈ wordsEq, d.before a0 Z = true) : ∀ d ∈ wordsEq, d.before args s = true := fun d hd => by
  have t : ∀ d ∈ wordsEq, (d.onTables && d.keepsFace) = true := by decide +kernel
  exact RoadKit.mv hZ (hw d hd) (t d hd)
/-- the road's facts of a String, as the laws ask it -/
theorem txt_of {Z U : State} {a0 : Array Value} {kI : Nat} (wi : (Jvm.Cond.instantiable ST kI).before a0 Z = true) (al : Z.vm.Alike U.vm) {x t : Addr} {kb : ClassId} {cs : List Int32} {cd N2 : Int32} {vs : List Value} (E : RoadKit.Exa Z U.heap x ST) (V : RoadKit.Fld Z U.heap x ST "value" "[B" (.ref t)) (C : RoadKit.Fld Z U.heap x ST "coder" "B" (.int cd)) (K : RoadKit.Arv Z U.heap t kb .byte N2 vs (.int 0)) (hc : CodA cs cd N2 vs) (hb : ∀ c ∈ cs, ¬ c < 0 ∧ ¬ (65535 : Int32) < c) (l2 : cs.length ≤ 4000) :
    ∃ A, Txt x t A cd cs.length (fun j => cs.getD j 0) U := by
  obtain ⟨A, K1, K2, K3, K4, K5, K6⟩ := K
  have hcod := hc.cod (by omega) K3 K5
  obtain ⟨D, fV, fC, hB, F1, F2, g1, g2, -, -⟩ := strObj wi al E V C
  exact ⟨A, ⟨_, hB.2.2.1, D, hB.1, rfl, by cases q : D.vm <;> first | rfl | exact absurd q (hB.2.1.2 _)⟩, Has.of hB F1 g1, Has.of hB F2 g2, ⟨K1.1, State.isArrayOf_alike al K1.2.1, K1.2.2, by rcases hcod with ⟨-, q, -⟩ | ⟨-, q, -⟩ <;> omega⟩, hcod, fun j hj => by
    have e : cs.getD j 0 = cs[j] := by simp [List.getD_eq_getElem?_getD, hj]
    show ¬ cs.getD j 0 < 0 ∧ ¬ 65535 < cs.getD j 0
    rw [e]; exact hb _ (List.getElem_mem _)⟩
theorem same_list (cs ds : List Int32) : SameT cs.length (fun j => cs.getD j 0) ds.length (fun j => ds.getD j 0) ↔ cs = ds := by
  constructor
  · rintro ⟨e, q⟩
    refine List.ext_getElem e fun j h1 h2 => ?_
    have := q j h1
    simpa [List.getD_eq_getElem?_getD, h1, h2] using this
  · rintro rfl
    exact ⟨rfl, fun _ _ => rfl⟩
/-- **equals(Object) OF TWO SUCH STRINGS**: 1 just where the chars are the same -/
theorem eqW {p : Program} {l : Launch} {e : Env} {R : Room} {s : State} {args : Array Value} {below : List Frame} {len W : Nat} {Z : State} {a0 : Array Value} {h : Heap} (hZ : Z.Warmed39 s.vm) (hw : ∀ d ∈ wordsEq, d.before a0 Z = true) {kI : Nat} (wi : (Jvm.Cond.instantiable ST kI).before a0 Z = true)
    {x t : Addr} {kb : ClassId} {cs : List Int32} {cd N2 : Int32} {vs : List Value} (E : RoadKit.Exa Z h x ST) (V : RoadKit.Fld Z h x ST "value" "[B" (.ref t)) (C : RoadKit.Fld Z h x ST "coder" "B" (.int cd)) (K : RoadKit.Arv Z h t kb .byte N2 vs (.int 0)) (hc : CodA cs cd N2 vs) (hb : ∀ c ∈ cs, ¬ c < 0 ∧ ¬ (65535 : Int32) < c) (l2 : cs.length ≤ 4000)
    {y t' : Addr} {kb' : ClassId} {ds : List Int32} {cd' N2' : Int32} {vs' : List Value} (E' : RoadKit.Exa Z h y ST) (V' : RoadKit.Fld Z h y ST "value" "[B" (.ref t')) (C' : RoadKit.Fld Z h y ST "coder" "B" (.int cd')) (K' : RoadKit.Arv Z h t' kb' .byte N2' vs' (.int 0)) (hc' : CodA ds cd' N2' vs') (hb' : ∀ c ∈ ds, ¬ c < 0 ∧ ¬ (65535 : Int32) < c) (l2' : ds.length ≤ 4000)
    {z : Int32} (S : RoadKit.Sta Z h ST "COMPACT_STRINGS" "Z" (.int z)) (hz : ¬ z = 0) (hfr : 2 ≤ R.frames) (hlo : W + 28 ≤ R.locals) :
    Back l R p e below s args (⟨"java/lang/String", "equals", "(Ljava/lang/Object;)Z"⟩ : MethodName) len W (fun P a => a = #[.ref x, .ref y] ∧ P.U.heap = h ∧ P.cells + 0 ≤ R.cells ∧ P.slots + 0 ≤ R.slots)
      (fun P _ v B => ∃ L, (((v = some (.int 1) ∧ cs = ds) ∨ (v = some (.int 0) ∧ ¬ cs = ds)) ∧ L = [] ∧ B.U.heap = h) ∧ B.locs = P.locs ++ L ∧ B.cells = P.cells + 0 ∧ B.slots = P.slots + 0) := by
  intro m meth c P g ig mk a X hg hsize hdg hW hn hp'
  obtain ⟨rfl, rfl, r1, r2⟩ := hp'
  have al : Z.vm.Alike P.U.vm := hZ.alike.trans X.warmed.alike
  obtain ⟨A, hx⟩ := txt_of wi al E V C K hc hb l2
  obtain ⟨A', hy⟩ := txt_of wi al E' V' C' K' hc' hb' l2'
  obtain ⟨v, B, X', ⟨⟨w, hv, hh, hq⟩, hl, hk, hs⟩, st⟩ := SEq.pays x t A cd cs.length (fun j => cs.getD j 0) y t' A' cd' ds.length (fun j => ds.getD j 0) z (tabEq_of (movedEq hZ hw)) hfr hlo m meth c P g ig mk _ X hg hsize hdg hW hn ⟨r1, r2, rfl, hx, hy, sta_is al S, hz⟩
  refine ⟨v, B, X', ⟨[], ⟨?_, rfl, hh⟩, hl, hk, hs⟩, st⟩
  rcases hq with ⟨rfl, q⟩ | ⟨rfl, q⟩
  · exact Or.inl ⟨hv, (same_list cs ds).mp q⟩
  · exact Or.inr ⟨hv, fun e => q ((same_list cs ds).mpr e)⟩
end StrChars.Road
namespace StrChars
open Jvm Sem ClassFile Op Lib Jvm.Stand Jvm.Free.XT Jvm.Free.ALB Jvm.Free.JM Jvm.Free
open Jvm.Lib.Cold (StaticIs)
namespace ChN
def yN : MethodName := ⟨"java/lang/String", "charAt", "(I)C"⟩
abbrev yB : ByteArray := jdk_42_method_56_code
theorem d0 : decode yB 0 = .ok (.aload_n 0, 1) := by decide +kernel
theorem d1 : decode yB 1 = .ok (.invokevirtual 492, 3) := by decide +kernel
theorem d4 : decode yB 4 = .ok (.ifCond (.eq) 12, 3) := by decide +kernel
theorem d7 : decode yB 7 = .ok (.aload_n 0, 1) := by decide +kernel
theorem d8 : decode yB 8 = .ok (.getfield 9, 3) := by decide +kernel
theorem d11 : decode yB 11 = .ok (.iload_n 1, 1) := by decide +kernel
theorem d12 : decode yB 12 = .ok (.invokestatic 495, 3) := by decide +kernel
theorem d15 : decode yB 15 = .ok (.ireturn, 1) := by decide +kernel
def site : List Cond := [.fieldLink "java/lang/String" 9 "java/lang/String" "value" "[B", IsL.tab, LChA.tab] ++ virtW "java/lang/String" 492 "java/lang/String" IsL.yN IsL.yN ++ staticW "java/lang/String" 495 LChA.yN
def tab : Cond := tabOf yN yB 2 (some .char) site
def P (x t : Addr) (V : Cell) (n : Nat) (f : Nat → Int32) (z : Int32) (fm : Value) (i : Nat) (args : Array Value) (s : State) : Prop := args = #[.ref x, .int (Int32.ofNat i)] ∧ Txt x t V 0 n f s ∧ i < n ∧ StaticIs s "java/lang/String" "COMPACT_STRINGS" "Z" (.int z) ∧ ¬ z = 0 ∧ StaticIs s "jdk/internal/util/Preconditions" "SIOOBE_FORMATTER" "Ljava/util/function/BiFunction;" fm ∧ fm.isRef = true
def E (f : Nat → Int32) (i : Nat) (r : Option Value) (s u : State) : Prop := XT.PureE (some (.int (f i))) r s u
/-- charAt(i) of a Latin-1 String of n chars, i < n: f i -/
theorem law (l : Launch) (x t : Addr) (V : Cell) (n : Nat) (f : Nat → Int32) (z : Int32) (fm : Value) (i : Nat) : Law l yN 2 1 3 40 yB 2 (some .char) site (P x t V n f z fm i) (E f i) [] 0 0 := by
  refine Law.of_walk (plainFor_of_name (by decide +kernel)) (by decide +kernel) (by decide +kernel) (by decide) (fun _ _ h => by rw [h.1]; rfl) (fun _ U U' hal hh h => ⟨h.1, h.2.1.mv hal hh, h.2.2.1, h.2.2.2.1.there hal hh, h.2.2.2.2.1, h.2.2.2.2.2.1.there hal hh, h.2.2.2.2.2.2⟩) (fun r U U' V V' h1 hal h2 h => XT.PureE.mv r U U' V V' h1 hal h2 h) ?_
  intro p e s m args below meth c s₁ X0 hexec hbytes hml hret hlk hnm hown hh0 W hP
  obtain ⟨rfl, hx, hi, s1, hz, s3, rf⟩ := hP
  have v31 := hx.2.2.2.1.2.2.2
  have hr := hx.2.2.2.2.2 i hi
  have hx0 := hx.mv X0.warmed.alike hh0
  have c1 : Steps p.tables e below (s₁.setTop (entryFrame m #[.ref x, .int (Int32.ofNat i)] 2)) (s₁.setTop (mkF m 1 #[.val (.ref x), .val (.int (Int32.ofNat i))] [.ref x])) := Steps.trans (entry rfl) (by
    show Steps p.tables e below (s₁.setTop (mkF m 0 #[.val (.ref x), .val (.int (Int32.ofNat i))] [])) _
    refine XS.aloadN X0.here hexec rfl (hb hbytes d0) rfl rfl ?_
    exact Steps.refl _)
  obtain ⟨v2, T2, X2, E2, g2⟩ := X0.callV hexec (IsL.law l x 0 z) hown (wks W (virtW "java/lang/String" 492 "java/lang/String" IsL.yN IsL.yN)) rfl (by decide) (wk W IsL.tab) (W := 0) (Nat.le_of_ble_eq_true rfl) (Nat.le_of_ble_eq_true rfl) (Nat.le_refl _) (Nat.le_refl _) (hx0.1.fc X0.warmed.alike) hx0.1.is (g := (mkF m 1 #[.val (.ref x), .val (.int (Int32.ofNat i))] [.ref x])) rfl (by rw [hml]; rfl) c1 (argsL := []) (rest := []) rfl rfl (by show 2 * 0 + 0 ≤ _; decide) (hb hbytes d1) (⟨rfl, hx0.2.2.1, hx.2.2.2.2.1.cd, s1.there X0.warmed.alike hh0, hz⟩)
  obtain ⟨rfl, q2⟩ := E2
  have hh2 := q2.trans hh0
  have hx2 := hx.mv X2.warmed.alike hh2
  obtain ⟨-, k1, k2⟩ | ⟨k0, -⟩ := hx.2.2.2.2.1
  · have c3 : Steps p.tables e below (s₁.setTop (entryFrame m #[.ref x, .int (Int32.ofNat i)] 2)) (T2.setTop (mkF m 8 #[.val (.ref x), .val (.int (Int32.ofNat i))] [.ref x])) := Steps.trans g2 (by
      refine XS.ifNo X2.here hexec rfl (hb hbytes d4) rfl (i0_eq_f (by decide)) ?_
      refine XS.aloadN X2.here hexec rfl (hb hbytes d7) rfl rfl ?_
      exact Steps.refl _)
    obtain ⟨T4, X4, q4, st4⟩ := X2.hget hexec hown (wk W (.fieldLink "java/lang/String" 9 "java/lang/String" "value" "[B")) hx2.2.1 (g := (mkF m 8 #[.val (.ref x), .val (.int (Int32.ofNat i))] [.ref x])) rfl (rest := []) rfl (hb hbytes d8)
    have hh4 := q4.trans hh2
    have c5 : Steps p.tables e below (s₁.setTop (entryFrame m #[.ref x, .int (Int32.ofNat i)] 2)) (T4.setTop (mkF m 12 #[.val (.ref x), .val (.int (Int32.ofNat i))] [.int (Int32.ofNat i), .ref t])) := (c3.trans (st4 _ (Steps.refl _))).trans (by
      refine XS.iloadN X4.here hexec rfl (hb hbytes d11) rfl ?_
      exact Steps.refl _)
    obtain ⟨v6, T6, X6, E6, g6⟩ := X4.callS hexec (LChA.law l t V i (lo8 (f i)) fm) hown (wks W (staticW "java/lang/String" 495 LChA.yN)) (wk W LChA.tab) (W := 0) (Nat.le_of_ble_eq_true rfl) (Nat.le_of_ble_eq_true rfl) (Nat.le_refl _) (Nat.le_refl _) (g := (mkF m 12 #[.val (.ref x), .val (.int (Int32.ofNat i))] [.int (Int32.ofNat i), .ref t])) rfl (by rw [hml]; rfl) c5 (argsL := [.ref t, .int (Int32.ofNat i)]) (rest := []) rfl rfl (by show 2 * 0 + 0 ≤ _; decide) (hb hbytes d12) (⟨rfl, hx.2.2.2.1.mv X4.warmed.alike hh4, (k2 i hi).1, s3.there X4.warmed.alike hh4, rf⟩)
    obtain ⟨rfl, q6⟩ := E6
    rw [chr8_lo8 hr.1 (k2 i hi).2] at g6
    exact ⟨T6, some (.int (f i)), _, _, _, X6, rfl, rfl, rfl, (fun h => by cases h), ⟨rfl, q6.trans hh4⟩, fun fs hl => Steps.trans g6 (X6.ireturnOut hexec hret (narrow_ch hr.1 hr.2) (Or.inr (Or.inr (Or.inr (Or.inl rfl)))) (hb hbytes d15) hl)⟩
  · exact absurd k0 (by decide)
theorem pays {l : Launch} {R : Room} {p : Program} {e : Env} {below : List Frame} {s : State} {sargs : Array Value} {len W : Nat} (x t : Addr) (V : Cell) (n : Nat) (f : Nat → Int32) (z : Int32) (fm : Value) (i : Nat) (htab : tab.before sargs s = true) (hfr : 4 ≤ R.frames) (hlo : W + 53 ≤ R.locals) :
    Back l R p e below s sargs yN len W (fun A₁ a₁ => A₁.cells + 0 ≤ R.cells ∧ A₁.slots + 0 ≤ R.slots ∧ P x t V n f z fm i a₁ A₁.U) (fun A₁ _ v₁ B₁ => E f i v₁ A₁.U B₁.U ∧ B₁.locs = A₁.locs ++ [] ∧ B₁.cells = A₁.cells + 0 ∧ B₁.slots = A₁.slots + 0) :=
  (law l x t V n f z fm i).pays htab hfr (by omega)
end ChN
end StrChars
namespace StrChars.Road
open Jvm Sem ClassFile Op Lib Jvm.Stand Jvm.Free Jvm.Free.XT
open Jvm.Lib.Cold (StaticIs)
/-- the words of String.charAt(int), the Latin-1 road alone -/
abbrev wordsChN : List Jvm.Cond := [.code ChN.yN ChN.yB 2 (some .char), .initialized ST, .fieldLink ST 9 ST "value" "[B", .fieldLink ST 38 ST "COMPACT_STRINGS" "Z", .fieldLink ST 15 ST "coder" "B", .code IsL.yN IsL.yB 1 (some .boolean), .methodLink ST 492 IsL.yN, .declares IsL.yN, .selects ST IsL.yN IsL.yN, .instanceMethod IsL.yN,
  .methodLink ST 495 LChA.yN, .static LChA.yN, .code LChA.yN LChA.yB 2 (some .char), .initialized "java/lang/StringLatin1", .methodLink "java/lang/StringLatin1" 9 JO.Str_checkIndex.yN, .static JO.Str_checkIndex.yN, .code JO.Str_checkIndex.yN JO.Str_checkIndex.yB 2 none,
  .fieldLink ST 1053 "jdk/internal/util/Preconditions" "SIOOBE_FORMATTER" "Ljava/util/function/BiFunction;", .methodLink ST 1059 JC.PreCheck.yN, .static JC.PreCheck.yN, .code JC.PreCheck.yN JC.PreCheck.yB 3 (some .int), .initialized "jdk/internal/util/Preconditions"]
theorem tabChN_of {a : Array Value} {s : State} (h : ∀ w ∈ wordsChN, w.before a s = true) : ChN.tab.before a s = true := by
  have hp : JC.PreCheck.tab.before a s = true := unparts (wk h (.code JC.PreCheck.yN JC.PreCheck.yB 3 (some .int))) (wks h (.initialized JC.PreCheck.yN.cls :: JC.PreCheck.site))
  have qk := consq hp h
  have hk : JO.Str_checkIndex.tab.before a s = true := unparts (wk qk (.code JO.Str_checkIndex.yN JO.Str_checkIndex.yB 2 none)) (wks qk (.initialized JO.Str_checkIndex.yN.cls :: JO.Str_checkIndex.site))
  have ql := consq hk h
  have hl : LChA.tab.before a s = true := unparts (wk ql (.code LChA.yN LChA.yB 2 (some .char))) (wks ql (.initialized LChA.yN.cls :: LChA.site))
  have hi : IsL.tab.before a s = true := unparts (wk h (.code IsL.yN IsL.yB 1 (some .boolean))) (wks h (.initialized IsL.yN.cls :: IsL.site))
  have q := consq hi (consq hl h)
  exact unparts (wk q (.code ChN.yN ChN.yB 2 (some .char))) (wks q (.initialized ChN.yN.cls :: ChN.site))
theorem movedChN {Z s : State} {a0 args : Array Value} (hZ : Z.Warmed39 s.vm) (hw : ∀ d ∈ wordsChN, d.before a0 Z = true) : ∀ d ∈ wordsChN, d.before args s = true := fun d hd => by
  have t : ∀ d ∈ wordsChN, (d.onTables && d.keepsFace) = true := by decide +kernel
  exact RoadKit.mv hZ (hw d hd) (t d hd)
/-- **charAt(i) OF A LATIN-1 STRING**, i < n: the char -/
theorem chN {p : Program} {l : Launch} {e : Env} {R : Room} {s : State} {args : Array Value} {below : List Frame} {len W : Nat} {Z : State} {a0 : Array Value} {h : Heap} (hZ : Z.Warmed39 s.vm) (hw : ∀ d ∈ wordsChN, d.before a0 Z = true) {kI : Nat} (wi : (Jvm.Cond.instantiable ST kI).before a0 Z = true)
    {x t : Addr} {kb : ClassId} {cs : List Int32} {N2 z : Int32} {vs : List Value} {fm : Value} {i : Nat} {j : Int32} (E : RoadKit.Exa Z h x ST) (V : RoadKit.Fld Z h x ST "value" "[B" (.ref t)) (C : RoadKit.Fld Z h x ST "coder" "B" (.int 0)) (K : RoadKit.Arv Z h t kb .byte N2 vs (.int 0)) (hc : CodA cs 0 N2 vs) (hb : ∀ c ∈ cs, ¬ c < 0 ∧ ¬ (65535 : Int32) < c)
    (S : RoadKit.Sta Z h ST "COMPACT_STRINGS" "Z" (.int z)) (hz : ¬ z = 0) (F : RoadKit.Sta Z h "jdk/internal/util/Preconditions" "SIOOBE_FORMATTER" "Ljava/util/function/BiFunction;" fm) (rf : fm.isRef = true) (l2 : cs.length ≤ 4000) (hi : i < cs.length) (hj : j = Int32.ofNat i) (hfr : 4 ≤ R.frames) (hlo : W + 53 ≤ R.locals) :
    Back l R p e below s args (⟨"java/lang/String", "charAt", "(I)C"⟩ : MethodName) len W (fun P a => a = #[.ref x, .int j] ∧ P.U.heap = h ∧ P.cells + 0 ≤ R.cells ∧ P.slots + 0 ≤ R.slots)
      (fun P _ v B => ∃ L, (v = some (.int (cs.getD i 0)) ∧ L = [] ∧ B.U.heap = h) ∧ B.locs = P.locs ++ L ∧ B.cells = P.cells + 0 ∧ B.slots = P.slots + 0) := by
  subst hj
  intro m meth c P g ig mk a X hg hsize hdg hW hn hp'
  obtain ⟨rfl, rfl, r1, r2⟩ := hp'
  have al : Z.vm.Alike P.U.vm := hZ.alike.trans X.warmed.alike
  obtain ⟨A, hx⟩ := txt_of wi al E V C K hc hb l2
  obtain ⟨v, B, X', ⟨⟨hv, hh⟩, hl, hk, hs⟩, st⟩ := ChN.pays x t A cs.length (fun j => cs.getD j 0) z fm i (tabChN_of (movedChN hZ hw)) hfr hlo m meth c P g ig mk _ X hg hsize hdg hW hn ⟨r1, r2, rfl, hx, hi, sta_is al S, hz, sta_is al F, rf⟩
  exact ⟨v, B, X', ⟨[], ⟨hv, rfl, hh⟩, hl, hk, hs⟩, st⟩
/-- what backV says of its String, as the contracts of this text ask it: cs's low bytes, coder 0 -/
theorem codOf {cs : List Int32} {n : Nat} (hn : cs.length = n) (hb : ∀ c ∈ cs, ¬ 255 < c) : CodA cs 0 (Int32.ofNat n) ((cs.map lo8).map Value.int) := Or.inl ⟨rfl, by rw [hn], by simp [List.map_map, Function.comp_def], hb⟩
end StrChars.Road
end Jvm.Pilot.@@N@@

namespace Jvm.Pilot.@@N@@
open Jvm Jvm.ClassFile Sem Op Lib Jvm.Free Jvm.Stand Jvm.LawKit Jvm.RoadKit Bundle Jvm.Pilot.@@N@@.Jvm.D
theorem own_eqL {x y : Int64} (h : x = y) : lcmpW x y = 0 := by rw [lcW]; exact (lc_eq x y).2 h
theorem own_neL {x y : Int64} (h : ¬ x = y) : ¬ lcmpW x y = 0 := by rw [lcW]; exact fun q => h ((lc_eq x y).1 q)
theorem own_ltL {x y : Int64} (h : x < y) : lcmpW x y < 0 := by rw [lcW]; exact (lc_lt x y).2 h
theorem own_nltL {x y : Int64} (h : ¬ x < y) : ¬ lcmpW x y < 0 := by rw [lcW]; exact fun q => h ((lc_lt x y).1 q)
theorem own_gtL {x y : Int64} (h : y < x) : 0 < lcmpW x y := by rw [lcW]; exact (lc_gt x y).2 h
theorem own_ns_exa {Z : State} {h : Heap} {a : Addr} {C : String} (E : Exa Z h a C) : ∀ cell : Cell, h[a]? = some cell → cell.vm.isStatics = false := by
  obtain ⟨c, k, h1, -, -, h4, -⟩ := E
  intro cell hc; cases h1.symm.trans hc; exact h4
theorem own_ns1 {h : Heap} {a : Addr} (p : ∀ cell : Cell, h[a]? = some cell → cell.vm.isStatics = false) : ∀ x ∈ [a], ∀ cell : Cell, h[x]? = some cell → cell.vm.isStatics = false := by
  intro x hx; cases List.mem_singleton.mp hx; exact p
theorem own_ns2 {h : Heap} {a b : Addr} (p : ∀ cell : Cell, h[a]? = some cell → cell.vm.isStatics = false) (q : ∀ cell : Cell, h[b]? = some cell → cell.vm.isStatics = false) : ∀ x ∈ [a, b], ∀ cell : Cell, h[x]? = some cell → cell.vm.isStatics = false := by
  intro x hx; simp only [List.mem_cons, List.not_mem_nil, or_false] at hx; rcases hx with rfl | rfl <;> first | exact p | exact q
theorem own_sta_keep {Z : State} {h h' : Heap} {ws : List Addr} {C n d : String} {v : Value} (F : Sta Z h C n d v) (K : Keep h h' ws) (hn : ∀ x ∈ ws, ∀ cell : Cell, h[x]? = some cell → cell.vm.isStatics = false) : Sta Z h' C n d v := by
  obtain ⟨cf, i, k, f, st, cell, h1, h2, h3, h4, h5, h6, r⟩ := F
  exact ⟨cf, i, k, f, st, cell, h1, h2, h3, h4, K.2.1 _ _ h5 (fun q => by rw [hn _ q _ h5] at h6; cases h6), h6, r⟩
theorem own_sta_keep0 {Z : State} {h h' : Heap} {C n d : String} {v : Value} (F : Sta Z h C n d v) (K : Keep h h' []) : Sta Z h' C n d v := by
  obtain ⟨cf, i, k, f, st, cell, h1, h2, h3, h4, h5, r⟩ := F
  exact ⟨cf, i, k, f, st, cell, h1, h2, h3, h4, K.2.1 _ _ h5 List.not_mem_nil, r⟩
theorem own_ngtL {x y : Int64} (h : ¬ y < x) : ¬ 0 < lcmpW x y := by rw [lcW]; exact fun q => h ((lc_gt x y).1 q)
abbrev vI (x : Int32) : Slot := .val (.int x)
abbrev own_E (m : MethodId) (p0 p1 p2 p3 p4 : Int32) : JFrame := entryFrame m #[(.int p0), (.int p1), (.int p2), (.int p3), (.int p4)] maxLocals
abbrev vJ (x : Int64) : Slot := .val (.long x)
abbrev vR (x : Addr) : Slot := .val (.ref x)
abbrev own_P (p : Program) (e : Env) (below : List Frame) (T : State) (F : JFrame) (T0 : State) (F0 : JFrame) : Prop := ∀ t, Steps p.tables e below (T.setTop F) t → Steps p.tables e below (T0.setTop F0) t
theorem own_w {Z : State} {ar0 : Array Value} (hw : ∀ d ∈ tables_1, d.before ar0 Z = true) (i : Nat) {d : Jvm.Cond} (h : tables_1[i]? = some d) : d.before ar0 Z = true := hw _ (List.mem_of_getElem? h)
theorem own_wordsLen {Z : State} {ar0 : Array Value} (hw : ∀ d ∈ tables_1, d.before ar0 Z = true) : ∀ d ∈ StrChars.Road.wordsLen, d.before ar0 Z = true := fun d hd => hw d ((by decide +kernel : ∀ d ∈ StrChars.Road.wordsLen, d ∈ tables_1) d hd)
theorem own_wordsChN {Z : State} {ar0 : Array Value} (hw : ∀ d ∈ tables_1, d.before ar0 Z = true) : ∀ d ∈ StrChars.Road.wordsChN, d.before ar0 Z = true := fun d hd => hw d ((by decide +kernel : ∀ d ∈ StrChars.Road.wordsChN, d ∈ tables_1) d hd)
theorem own_wordsEq {Z : State} {ar0 : Array Value} (hw : ∀ d ∈ tables_1, d.before ar0 Z = true) : ∀ d ∈ StrChars.Road.wordsEq, d.before ar0 Z = true := fun d hd => hw d ((by decide +kernel : ∀ d ∈ StrChars.Road.wordsEq, d ∈ tables_1) d hd)
theorem own_words {Z : State} {ar0 : Array Value} (hw : ∀ d ∈ tables_1, d.before ar0 Z = true) : ∀ d ∈ StrChars.Road.words, d.before ar0 Z = true := fun d hd => hw d ((by decide +kernel : ∀ d ∈ StrChars.Road.words, d ∈ tables_1) d hd)
theorem own_up (cs : List Int32) (h : ∀ c ∈ cs, ¬ c < 0 ∧ ¬ (255 : Int32) < c) : ∀ c ∈ cs, ¬ c < 0 ∧ ¬ (65535 : Int32) < c := fun c hc => ⟨(h c hc).1, fun q => (h c hc).2 (by rw [Int32.lt_iff_toInt_lt] at q ⊢; have e1 : (65535 : Int32).toInt = 65535 := rfl; have e2 : (255 : Int32).toInt = 255 := rfl; omega)⟩
theorem own_eqI {a : Term} {k : Int32} {args : Array Value} {first s : State} {o : Option Outcome} {idx : List Nat} (h : (Cond.eq a (.int k)).value args first o s idx = some true) : a.eval args first o idx s = some (.int k) := by
 simp only [Cond.value, Term.eval] at h
 cases ha : a.eval args first o idx s with
 | none => simp [ha] at h
 | some x => cases x <;> simp [ha] at h ⊢; exact h
theorem own_eqJ {a : Term} {k : Int64} {args : Array Value} {first s : State} {o : Option Outcome} {idx : List Nat} (h : (Cond.eq a (.long k)).value args first o s idx = some true) : a.eval args first o idx s = some (.long k) := by
 simp only [Cond.value, Term.eval] at h
 cases ha : a.eval args first o idx s with
 | none => simp [ha] at h
 | some x => cases x <;> simp [ha] at h ⊢; exact h
theorem own_len {args : Array Value} {s : State} {t : Term} {a : Addr} {cl : Cell} {n : Int32} (ht : t.eval args s none [] s = some (.ref a)) (hc : s.arrayAt? a = some cl) (h : (Term.length t).eval args s none [] s = some (.int n)) : cl.slots.size < 2 ^ 31 ∧ cl.slots.size.toInt32 = n := by
 simp only [Term.eval, ht, hc, Option.bind_eq_bind, Option.bind_some] at h
 split at h
 ·
  rename_i q; exact ⟨q, by simpa using h⟩
 ·
  cases h
theorem own_sizeN {n : Nat} {k : Int32} (h : n < 2 ^ 31) (e : n.toInt32 = k) : n = k.toNatClampNeg := by
 have q : (n : Int) = k.toInt := by rw [← e]; exact (Int32.toInt_ofNat_of_lt h).symm
 show n = k.toInt.toNat
 omega
theorem own_exa_at {args : Array Value} {s : State} {idx : List Nat} {t : Term} {C : String} {b : Addr} (h : (Cond.exactly t C).value args s none s idx = some true) (e : t.eval args s none idx s = some (.ref b)) : Exa s s.heap b C := by
 obtain ⟨a', c', cell, k, e1, e2, e3, e4, e5, e6, e7⟩ := Cond.exactly_spec (show (Cond.exactly t C).holds args s none s idx = true from beq_iff_eq.mpr h)
 cases e.symm.trans e1
 exact ⟨cell, k, e3, by rw [e6]; exact e2, by rw [e6]; exact e4, e5, e7⟩
theorem own_index {args : Array Value} {s : State} {j : Int32} (h : ¬ j < 0) : (Term.index 0).eval args s none [j.toNatClampNeg] s = some (.int j) := by
 have q := back32 h
 simp [Term.eval, q.1, q.2]
theorem own_elR {args : Array Value} {s : State} {T t2 : Term} {a b : Addr} {cl : Cell} {ty : FieldType} {j : Int32} (A : Arr s s.heap a cl ty) (ha : T.eval args s none [] s = some (.ref a)) (hb : t2.eval args s none [] s = some (.ref b)) (h : (Cond.eq (.elem T (.int j)) t2).value args s none s [] = some true) : cl.slots[j.toNatClampNeg]? = some (.ref b) := by
 obtain ⟨x, y, e1, e2, k1, -⟩ := cmp_v (Or.inl h)
 cases hb.symm.trans e2
 obtain ⟨c', c1, -, c3⟩ := elem_at e1 ha rfl
 cases A.1.symm.trans c1
 rw [c3]
 have hx : x.isRef = true := by cases x <;> simp [Kin, Value.isRef] at k1 ⊢
 have q := gotT (eq_R e1 hb hx rfl) h
 rw [q]

theorem own_since0 (s : State) : s.Since s.vm 0 := ⟨State.Warmed39.refl s, fun j p hj hp => absurd (Array.getElem?_eq_some_iff.mp hp).1 (Nat.not_lt.mpr hj)⟩
theorem own_strW {Z : State} {ar0 : Array Value} (hw : ∀ d ∈ tables_1, d.before ar0 Z = true) : ∀ d ∈ Bundle.stringAtoms, d.before ar0 Z = true := fun d hd => hw d ((by decide +kernel : ∀ d ∈ Bundle.stringAtoms, d ∈ tables_1) d hd)
abbrev own_EL : List (String × Nat) := [("com/example/timely_exodus/timelyexodus/plan/LpSolverFromNamePinLaw", 7), ("com/example/timely_exodus/timelyexodus/plan/LpSolverFromNamePinLaw", 9), ("com/example/timely_exodus/timelyexodus/plan/LpSolverFromNamePinLaw", 11), ("com/example/timely_exodus/timelyexodus/plan/LpSolverFromNamePinLaw", 13), ("com/example/timely_exodus/timelyexodus/plan/LpSolverFromNamePinLaw", 61), ("java/lang/String", 7)]
theorem own_EW {Z : State} {ar0 : Array Value} (hw : ∀ d ∈ tables_1, d.before ar0 Z = true) : EW Z ar0 own_EL := (EW.cons (text := "glop") (own_w hw 56 rfl) (by decide) (EW.cons (text := "clp") (own_w hw 67 rfl) (by decide) (EW.cons (text := "pdlp") (own_w hw 68 rfl) (by decide) (EW.cons (text := "") (own_w hw 0 rfl) (by decide) (EW.cons (text := "glopcd") (own_w hw 115 rfl) (by decide) (EW.cons (text := "") (own_w hw 117 rfl) (by decide) EW.nil))))))
theorem own_safe0 {Z : State} {EL : List (String × Nat)} {vm : Vm} {h : Heap} {a : Addr} (hal : Z.vm.Alike vm) (E : Exa Z h a "java/lang/String") (F : Fld Z h a "java/lang/String" "value" "[B" .null) : Safe Z EL vm h a := fun B => by
 obtain ⟨p, -, u, a', -, q, -, S, hy⟩ := B
 rcases hy with rfl | rfl
 ·
  obtain ⟨cell, cf, k, i, f, h1, h2, h3, h4, h5, h6, h7⟩ := F
  cases (show h[q.sa]? = some q.sC from S.ha).symm.trans h1
  obtain ⟨cS, ⟨⟨s1, s2, s3, ⟨cv, kv, iv, s4, s4'⟩, -, s6, -, s8, -⟩, -⟩, -⟩ := S
  obtain ⟨kv', z4⟩ := ff_back (U := Wst Z vm h) hal s4
  have e := z4.symm.trans h2
  simp only [Option.some.injEq, Prod.mk.injEq] at e
  rw [← e.2.2.2] at h7
  cases s8.symm.trans h7
 ·
  obtain ⟨cell, k, e1, e2, e3, -, -⟩ := E
  cases (show h[q.sd]? = some q.SA from S.hd).symm.trans e1
  obtain ⟨cS, -, -, f, -⟩ := S
  have f' : vm.findClass "[B" = some q.SA.cls := f
  rw [hal.findClass] at f'
  obtain ⟨k1, q1, q2⟩ := Vm.findClass_spec f'
  obtain ⟨k2, q3, q4⟩ := Vm.findClass_spec e2
  cases q1.symm.trans q3
  exact absurd (q2.symm.trans q4) (by decide)
abbrev own_R (c : Int32) : Prop := ¬ c < 0 ∧ ¬ (255 : Int32) < c
theorem own_hcdG {cs : List Int32} (h : ∀ x ∈ cs, ¬ x < 0 ∧ ¬ (255 : Int32) < x) : StrChars.Road.CodA cs 0 (Int32.ofNat cs.length) ((cs.map (fun c => c.toInt8.toInt32)).map Value.int) := StrChars.Road.codOf rfl (fun x hx => (h x hx).2)
def own_eq (x y : List Int32) : Int32 := if x = y then 1 else 0
theorem own_eqv {x y : List Int32} {v : Option Value} (h : (v = some (.int 1) ∧ x = y) ∨ (v = some (.int 0) ∧ ¬ x = y)) : v = some (.int (own_eq x y)) := by
 unfold own_eq
 rcases h with ⟨h, q⟩ | ⟨h, q⟩
 ·
  rw [if_pos q]; exact h
 ·
  rw [if_neg q]; exact h
theorem own_small (n : Nat) (hn : n < 2 ^ 31) (x : Int32) (h0 : 0 ≤ x.toInt) (h1 : x.toInt < n) : ∃ k : Fin n, x = Int32.ofNat k := by
 refine ⟨⟨x.toInt.toNat, by omega⟩, ?_⟩
 apply Int32.toInt_inj.mp
 rw [Int32.toInt_ofNat_of_lt (by show x.toInt.toNat < 2 ^ 31; omega)]
 show x.toInt = (x.toInt.toNat : Int)
 omega
theorem own_R256 {c : Int32} (h : own_R c) : ∃ k : Fin 256, c = Int32.ofNat k := by
 obtain ⟨h1, h2⟩ := h
 rw [Int32.lt_iff_toInt_lt] at h1 h2
 have e0 : (0 : Int32).toInt = 0 := by decide
 have e1 : (255 : Int32).toInt = 255 := by decide
 exact own_small 256 (by decide) c (by omega) (by omega)
theorem own_nar {c : Int32} (h : own_R c) : nar .char c = c := by
 obtain ⟨k, e⟩ := own_R256 h
 have d : ∀ k : Fin 256, nar .char (Int32.ofNat k) = Int32.ofNat k := by decide +kernel
 rw [e]; exact d k
theorem own_i8 (c : Int32) : (c.toInt8.toInt32).toInt8.toInt32 = c.toInt8.toInt32 := by simp
theorem own_neI {t : Term} {k : Int32} {args : Array Value} {s : State} {x : Int32} (ht : t.eval args s none [] s = some (.int x)) (h : (Cond.not (.eq t (.int k))).value args s none s [] = some true) : ¬ (x = k) := by
 have q := not_v h
 intro e
 simp [Cond.value, ht, Term.eval, e] at q

def own_cs (n a b c d : Int32) : List Int32 := if n = (0 : Int32) then [] else if n = (1 : Int32) then [a] else if n = (2 : Int32) then [a, b] else if n = (3 : Int32) then [a, b, c] else [a, b, c, d]
theorem own_cs0 {n a b c d : Int32} (h : n = (0 : Int32)) : own_cs n a b c d = [] := if_pos h
theorem own_cs1 {n a b c d : Int32} (h : ¬ n = (0 : Int32)) (h1 : n = (1 : Int32)) : own_cs n a b c d = [a] := by unfold own_cs; rw [if_neg h, if_pos h1]
theorem own_cs2 {n a b c d : Int32} (h : ¬ n = (0 : Int32)) (h1 : ¬ n = (1 : Int32)) (h2 : n = (2 : Int32)) : own_cs n a b c d = [a, b] := by unfold own_cs; rw [if_neg h, if_neg h1, if_pos h2]
theorem own_cs3 {n a b c d : Int32} (h : ¬ n = (0 : Int32)) (h1 : ¬ n = (1 : Int32)) (h2 : ¬ n = (2 : Int32)) (h3 : n = (3 : Int32)) : own_cs n a b c d = [a, b, c] := by unfold own_cs; rw [if_neg h, if_neg h1, if_neg h2, if_pos h3]
theorem own_cs4 {n a b c d : Int32} (h : ¬ n = (0 : Int32)) (h1 : ¬ n = (1 : Int32)) (h2 : ¬ n = (2 : Int32)) (h3 : ¬ n = (3 : Int32)) : own_cs n a b c d = [a, b, c, d] := by unfold own_cs; rw [if_neg h, if_neg h1, if_neg h2, if_neg h3]
theorem own_hpcs {n a b c d : Int32} (ha : own_R a) (hb : own_R b) (hc : own_R c) (hd : own_R d) : ∀ x ∈ own_cs n a b c d, ¬ x < 0 ∧ ¬ (255 : Int32) < x := by
 intro x hx
 have q : x ∈ [a, b, c, d] := by
  unfold own_cs at hx
  repeat' split at hx
  all_goals simp only [List.mem_cons, List.not_mem_nil, or_false] at hx ⊢
  ·
   exact Or.inl hx
  ·
   rcases hx with h | h <;> simp [h]
  ·
   rcases hx with h | h | h <;> simp [h]
  ·
   exact hx
 simp only [List.mem_cons, List.not_mem_nil, or_false] at q
 rcases q with rfl | rfl | rfl | rfl
 ·
  exact ha
 ·
  exact hb
 ·
  exact hc
 ·
  exact hd
theorem own_hlcs {n a b c d : Int32} : (own_cs n a b c d).length ≤ 4000 := by
 unfold own_cs
 repeat' split
 all_goals exact Nat.le_of_ble_eq_true rfl
theorem own_hpN : ∀ {L : List Int32}, (∀ x ∈ L, own_R x) → ∀ x ∈ L.map (nar .char), ¬ x < 0 ∧ ¬ (255 : Int32) < x := by
 intro L h x hx
 obtain ⟨y, hy, rfl⟩ := List.mem_map.mp hx
 rw [own_nar (h y hy)]; exact h y hy
theorem own_all1 {a : Int32} (ha : own_R a) : ∀ x ∈ ([a] : List Int32), own_R x := fun x hx => by cases List.mem_singleton.mp hx; exact ha
theorem own_allS {a : Int32} {L : List Int32} (ha : own_R a) (h : ∀ x ∈ L, own_R x) : ∀ x ∈ a :: L, own_R x := fun x hx => by
 rcases List.mem_cons.mp hx with rfl | q
 ·
  exact ha
 ·
  exact h x q
theorem own_RgetD {L : List Int32} (h : ∀ x ∈ L, own_R x) (i : Nat) : own_R (L.getD i 0) := by
 rw [List.getD_eq_getElem?_getD]
 cases q : L[i]? with
 | none => exact (by decide : own_R 0)
 | some x => exact h x (List.mem_of_getElem? q)
theorem own_ilen {i n : Nat} (hn : n ≤ 4000) (hi : i < 2 ^ 31) (h : Int32.ofNat i < Int32.ofNat n) : i < n := by
 rw [Int32.lt_iff_toInt_lt, Int32.toInt_ofNat_of_lt hi, Int32.toInt_ofNat_of_lt (by omega)] at h; omega
theorem own_i6 (p : Int32) : ((((p.toUInt32 >>> ((9 : Int32) &&& 31).toUInt32).toInt32) % (6 : Int32)).toNatClampNeg) < 6 ∧ (((p.toUInt32 >>> ((9 : Int32) &&& 31).toUInt32).toInt32) % (6 : Int32)) = Int32.ofNat ((((p.toUInt32 >>> ((9 : Int32) &&& 31).toUInt32).toInt32) % (6 : Int32)).toNatClampNeg) := by
 have h0 : (0 : Int32) ≤ (p.toUInt32 >>> ((9 : Int32) &&& 31).toUInt32).toInt32 := Jvm.Kit.i32_iushr_nonneg p (k := 9) (by decide) (by decide) (by decide)
 have h1 : 0 ≤ ((p.toUInt32 >>> ((9 : Int32) &&& 31).toUInt32).toInt32).toInt := by
  have q := Int32.le_iff_toInt_le.mp h0
  exact q
 have e : (((p.toUInt32 >>> ((9 : Int32) &&& 31).toUInt32).toInt32) % (6 : Int32)).toInt = ((p.toUInt32 >>> ((9 : Int32) &&& 31).toUInt32).toInt32).toInt % 6 := by
  rw [Jvm.Kit.i32_rem_nonneg h1]; rfl
 generalize ((p.toUInt32 >>> ((9 : Int32) &&& 31).toUInt32).toInt32) % (6 : Int32) = z at e ⊢
 have hz : 0 ≤ z.toInt ∧ z.toInt < 6 := by omega
 have k : z.toNatClampNeg = z.toInt.toNat := rfl
 refine ⟨by omega, ?_⟩
 apply Int32.toInt_inj.mp
 rw [k, Int32.toInt_ofNat_of_lt (by omega)]
 omega
theorem own_rc {w : Value} (h : w.isRef = true) : w = .null ∨ ∃ b, w = .ref b := by
 cases w <;> first | (exact Or.inl rfl) | (exact Or.inr ⟨_, rfl⟩) | (simp [Value.isRef] at h)

theorem pn_0 : plainName "java/lang/String" = true := by first | (simp [plainName, overriddenIn]; done) | decide +kernel
theorem d7_0 : decode jdk_42_method_149_code 0 = .ok (.aload_n 0, 1) := by decide +kernel
theorem d7_1 : decode jdk_42_method_149_code 1 = .ok (.invokespecial 1, 3) := by decide +kernel
theorem d7_4 : decode jdk_42_method_149_code 4 = .ok (.iload_n 3, 1) := by decide +kernel
theorem d7_5 : decode jdk_42_method_149_code 5 = .ok (.ifCond .ne 22, 3) := by decide +kernel
theorem d7_8 : decode jdk_42_method_149_code 8 = .ok (.aload_n 0, 1) := by decide +kernel
theorem d7_9 : decode jdk_42_method_149_code 9 = .ok (.ldc 7, 2) := by decide +kernel
theorem d7_11 : decode jdk_42_method_149_code 11 = .ok (.getfield 9, 3) := by decide +kernel
theorem d7_14 : decode jdk_42_method_149_code 14 = .ok (.putfield 9, 3) := by decide +kernel
theorem d7_17 : decode jdk_42_method_149_code 17 = .ok (.aload_n 0, 1) := by decide +kernel
theorem d7_18 : decode jdk_42_method_149_code 18 = .ok (.ldc 7, 2) := by decide +kernel
theorem d7_20 : decode jdk_42_method_149_code 20 = .ok (.getfield 15, 3) := by decide +kernel
theorem d7_23 : decode jdk_42_method_149_code 23 = .ok (.putfield 15, 3) := by decide +kernel
theorem d7_26 : decode jdk_42_method_149_code 26 = .ok (.return_, 1) := by decide +kernel
theorem ef_7_0 (m : MethodId) (x0 : Addr) (x1 : Addr) (x2 : Int32) (x3 : Int32) : entryFrame m #[(.ref x0), (.ref x1), (.int x3), (.int x3), .null] 6 = mkF m 0 #[vR x0, vR x1, vI x3, vI x3, .val .null, .unset] [] := by first | (simp [entryFrame, mkF, argsToLocals, Value.category]; done) | rfl
def Q7_0 (Z : State) (a0 : Addr) (a1 : Addr) (h0 : Heap) (n0 : Nat) (v : Option Value) (h : Heap) (L : List Loc) : Prop := ∃ (t : Addr) (k_t : ClassId), v = none ∧ Fr n0 L ∧ Keep h0 h [a0] ∧ Exa Z h a0 "java/lang/String" ∧ Fld Z h a0 "java/lang/String" "value" "[B" (.ref t) ∧ Fld Z h a0 "java/lang/String" "coder" "B" (.int 0) ∧ Arv Z h t k_t .byte (0 : Int32) ((([] : List Int32).map (fun c => c.toInt8.toInt32)).map Value.int) (.int 0)
set_option maxRecDepth 65536 in
set_option maxHeartbeats 40000000 in
theorem rm7_0 (l : Launch) (Z : State) (ar0 : Array Value) (hw : ∀ d ∈ tables_1, d.before ar0 Z = true) (ws : List Jvm.Cond) (a0 : Addr) (a1 : Addr) (h0 : Heap) (n0 : Nat) (Z0 : n0 ≤ h0.size) (E_a0 : Exa Z h0 a0 "java/lang/String") (F_value_a0 : Fld Z h0 a0 "java/lang/String" "value" "[B" .null) (F_coder_a0 : Fld Z h0 a0 "java/lang/String" "coder" "B" (.int 0)) (g_a0 : n0 ≤ a0) :
  MetFree l (⟨"java/lang/String", "<init>", "([CIILjava/lang/Void;)V"⟩ : MethodName) (head1 (Jvm.Cond.code (⟨"java/lang/String", "<init>", "([CIILjava/lang/Void;)V"⟩ : MethodName) jdk_42_method_149_code 6 none :: ws) ({ frames := 1, cells := 4, slots := 8, locals := 12 } : Room)) (fun a U => a = #[(.ref a0), (.ref a1), (.int 0), (.int 0), .null] ∧ Z.Warmed39 U.vm ∧ U.heap = h0 ∧ CHv Z own_EL U.vm h0) (fun _ _ _ _ _ => True) (fun _ U o U' => ∃ v L, o = .returned v ∧ Q7_0 Z a0 a1 h0 n0 v U'.heap L ∧ CHr Z own_EL U.vm U.heap U'.vm U'.heap ∧ ReturnedEndW U o U' L ({ frames := 1, cells := 4, slots := 8, locals := 12 } : Room).cells ({ frames := 1, cells := 4, slots := 8, locals := 12 } : Room).slots) := by
 refine MetFree.of_bodySF (plainFor_of_name pn_0) hisR ?_
 intro p e s m args below meth c s₁ Bd hml0 hP hK
 obtain ⟨rfl, hZ, hh, hC0⟩ := hP
 have hx := Bd.exec
 have hby := Bd.bytes
 have hml : c.maxLocals = 6 := hml0
 have hown : s.vm.findClass "java/lang/String" = some m.cls := by have q := findClass_of_methodNamed Bd.named; exact q
 have hnm := (name_of_methodNamed Bd.named Bd.method).1
 have X0 : Stand p l e ({ frames := 1, cells := 4, slots := 8, locals := 12 } : Room) s m #[(.ref a0), (.ref a1), (.int 0), (.int 0), .null] below meth c s₁ [] 0 0 := Stand.of_body Bd
 have e0 : s₁.heap = h0 := by rw [← hh, Bd.state]; rfl
 have N0 := Fr.nil n0
 have hS0 : s.Since s.vm 0 := own_since0 s
 have hCR0 : CHr Z own_EL s.vm h0 s.vm h0 := CHr.refl hC0
 have hEL : EW Z ar0 own_EL := own_EW hw
 have pre0 : own_P p e below s₁ (mkF m 0 #[vR a0, vR a1, vI 0, vI 0, .val .null, .unset] []) s₁ (entryFrame m #[(.ref a0), (.ref a1), (.int 0), (.int 0), .null] 6) := fun t k => castTop (ef_7_0 m a0 a1 (0 : Int32) (0 : Int32)) k
 have pre1 : own_P p e below s₁ (mkF m 1 #[vR a0, vR a1, vI 0, vI 0, .val .null, .unset] [(.ref a0)]) s₁ (entryFrame m #[(.ref a0), (.ref a1), (.int 0), (.int 0), .null] 6) := by
  intro t k
  refine pre0 t ?_
  refine XS.aloadN X0.here hx rfl (hb hby d7_0) rfl rfl ?_
  exact k
 obtain ⟨T2, X2, e2, st2⟩ := initO X0 hx hZ hown (own_w hw 40 rfl) (own_w hw 41 rfl) (own_w hw 42 rfl) e0 (g := (mkF m 1 #[vR a0, vR a1, vI 0, vI 0, .val .null, .unset] [(.ref a0)])) rfl (by rw [hml]; rfl) rfl (hb hby d7_1) (by decide) (W := 0) (by show 2 * 0 + _ ≤ _; exact Nat.le_of_eq rfl) (by decide)
 have pre3 : own_P p e below T2 (mkF m 4 #[vR a0, vR a1, vI 0, vI 0, .val .null, .unset] []) s₁ (entryFrame m #[(.ref a0), (.ref a1), (.int 0), (.int 0), .null] 6) := fun t k => pre1 t (st2 t k)
 have pre4 : own_P p e below T2 (mkF m 9 #[vR a0, vR a1, vI 0, vI 0, .val .null, .unset] [(.ref a0)]) s₁ (entryFrame m #[(.ref a0), (.ref a1), (.int 0), (.int 0), .null] 6) := by
  intro t k
  refine pre3 t ?_
  refine XS.iloadN X2.here hx rfl (hb hby d7_4) rfl ?_
  refine XS.ifNo X2.here hx rfl (hb hby d7_5) rfl ((if0 _ _).trans (teq (by decide : (0 : Int32) = (0 : Int32))).2) ?_
  refine XS.aloadN X2.here hx rfl (hb hby d7_8) rfl rfl ?_
  exact k
 obtain ⟨a5, T5, h5, k5, b5, kb5, X5, e5, E5, hS5, hk5, hZ5, ho5, Ea5, Ca5, Va5, Ab5, la5, lb5, hC5, -, hn5, st5⟩ := ldcCH (s := s) (vm0 := s.vm) X2 hx hZ hown (own_w hw 117 rfl) (own_strW hw) e2 hS0 (Nat.zero_le _) hEL (List.mem_of_getElem? (i := 5) rfl) hCR0.1 (vs := []) (z := (0 : Int32)) ⟨by decide, rfl⟩ (by decide) rfl (g := (mkF m 9 #[vR a0, vR a1, vI 0, vI 0, .val .null, .unset] [(.ref a0)])) rfl (hb hby d7_9) (n := 0) (by decide) (by decide) (by decide) (by decide)
 have sf_a0_5 := CHr.safe hC5 (E_a0).lt (own_safe0 hZ.alike E_a0 F_value_a0)
 have ne_a0_a5 := (hn5 _ sf_a0_5).1
 have ne_a0_b5 := (hn5 _ sf_a0_5).2
 have CR5 := hCR0.trans hC5
 have Z5 : n0 ≤ h5.size := Nat.le_trans Z0 E5.1
 have K5 : Keep h0 h5 [a0] := (Keep.refl h0 [a0]).ext E5
 have Ef6 : Exa Z h5 a0 "java/lang/String" := (E_a0).ext E5
 have Ff7 : Fld Z h5 a0 "java/lang/String" "value" "[B" .null := (F_value_a0).ext E5
 have Ff8 : Fld Z h5 a0 "java/lang/String" "coder" "B" (.int 0) := (F_coder_a0).ext E5
 have pre9 : own_P p e below T5 (mkF m 11 #[vR a0, vR a1, vI 0, vI 0, .val .null, .unset] [(.ref a5), (.ref a0)]) s₁ (entryFrame m #[(.ref a0), (.ref a1), (.int 0), (.int 0), .null] 6) := fun t k => pre4 t (st5 t k)
 obtain ⟨T10, X10, e10, st10⟩ := getF X5 hx hZ5 ho5 (host := "") (Or.inl (own_w hw 17 rfl)) Via.refl e5 Va5 (g := (mkF m 11 #[vR a0, vR a1, vI 0, vI 0, .val .null, .unset] [(.ref a5), (.ref a0)])) rfl rfl (hb hby d7_11)
 have pre11 : own_P p e below T10 (mkF m 14 #[vR a0, vR a1, vI 0, vI 0, .val .null, .unset] [(.ref b5), (.ref a0)]) s₁ (entryFrame m #[(.ref a0), (.ref a1), (.int 0), (.int 0), .null] 6) := fun t k => pre9 t (st10 t k)
 obtain ⟨T12, h12, X12, e12, W12, st12⟩ := putF X10 hx hZ5 ho5 (host := "") (Or.inl (own_w hw 17 rfl)) Via.refl e10 Ff7 Ef6 (Or.inr ⟨(own_w hw 4 rfl), rfl, hnm⟩) (own_w hw 2 rfl) (ty := (.array .byte)) (by decide) rfl rfl (g := (mkF m 14 #[vR a0, vR a1, vI 0, vI 0, .val .null, .unset] [(.ref b5), (.ref a0)])) rfl rfl (hb hby d7_14)
 have Z12 : n0 ≤ h12.size := Nat.le_trans Z5 (Keep.of_wr W12).1
 have K12 : Keep h0 h12 [a0] := K5.wr W12 (Or.inl (List.mem_of_getElem? (i := 0) rfl))
 have N12 := Fr.snoc X12 N0 g_a0
 have hk12 := Nat.le_trans hk5 (Keep.of_wr W12).1
 have sf_a0_12 := Safe.wr W12 sf_a0_5 CR5.1 sf_a0_5
 have CR12 := CR5.trans (CHr.wr W12 sf_a0_5 CR5.1)
 have Ef13 : Exa Z h12 a0 "java/lang/String" := (Ef6).wr W12
 have Ff14 : Fld Z h12 a0 "java/lang/String" "coder" "B" (.int 0) := (Ff8).other W12 (Or.inr (slot_ne (Or.inr (own_w hw 5 rfl)) (Or.inr (own_w hw 4 rfl)) (by decide) (t := .byte) (t' := (.array .byte)) (by decide) (by decide)))
 have Ef15 : Exa Z h12 a5 "java/lang/String" := (Ea5).wr W12
 have Ff16 : Fld Z h12 a5 "java/lang/String" "coder" "B" (.int 0) := (Ca5).other W12 (Or.inl ne_a0_a5.symm)
 have Ff17 : Fld Z h12 a5 "java/lang/String" "value" "[B" (.ref b5) := (Va5).other W12 (Or.inl ne_a0_a5.symm)
 have Vf18 : Arv Z h12 b5 kb5 .byte (0 : Int32) ((([] : List Int32).map (fun c => c.toInt8.toInt32)).map Value.int) (.int 0) := (Ab5).other W12 ne_a0_b5.symm
 have Fw12 : Fld Z h12 a0 "java/lang/String" "value" "[B" (.ref b5) := (Ff7).same W12
 have pre19 : own_P p e below T12 (mkF m 17 #[vR a0, vR a1, vI 0, vI 0, .val .null, .unset] []) s₁ (entryFrame m #[(.ref a0), (.ref a1), (.int 0), (.int 0), .null] 6) := fun t k => pre11 t (st12 t k)
 have pre20 : own_P p e below T12 (mkF m 18 #[vR a0, vR a1, vI 0, vI 0, .val .null, .unset] [(.ref a0)]) s₁ (entryFrame m #[(.ref a0), (.ref a1), (.int 0), (.int 0), .null] 6) := by
  intro t k
  refine pre19 t ?_
  refine XS.aloadN X12.here hx rfl (hb hby d7_17) rfl rfl ?_
  exact k
 obtain ⟨a21, T21, h21, k21, b21, kb21, X21, e21, E21, hS21, hk21, hZ21, ho21, Ea21, Ca21, Va21, Ab21, la21, lb21, hC21, -, hn21, st21⟩ := ldcCH (s := s) (vm0 := T5.vm) X12 hx hZ5 ho5 (own_w hw 117 rfl) (own_strW hw) e12 hS5 hk12 hEL (List.mem_of_getElem? (i := 5) rfl) CR12.1 (vs := []) (z := (0 : Int32)) ⟨by decide, rfl⟩ (by decide) rfl (g := (mkF m 18 #[vR a0, vR a1, vI 0, vI 0, .val .null, .unset] [(.ref a0)])) rfl (hb hby d7_18) (n := 0) (by decide) (by decide) (by decide) (by decide)
 have sf_a0_21 := CHr.safe hC21 (Ef13).lt sf_a0_12
 have ne_a0_a21 := (hn21 _ sf_a0_21).1
 have ne_a0_b21 := (hn21 _ sf_a0_21).2
 have CR21 := CR12.trans hC21
 have Z21 : n0 ≤ h21.size := Nat.le_trans Z12 E21.1
 have K21 : Keep h0 h21 [a0] := K12.ext E21
 have Ef22 : Exa Z h21 a0 "java/lang/String" := (Ef13).ext E21
 have Ff23 : Fld Z h21 a0 "java/lang/String" "coder" "B" (.int 0) := (Ff14).ext E21
 have Ef24 : Exa Z h21 a5 "java/lang/String" := (Ef15).ext E21
 have Ff25 : Fld Z h21 a5 "java/lang/String" "coder" "B" (.int 0) := (Ff16).ext E21
 have Ff26 : Fld Z h21 a5 "java/lang/String" "value" "[B" (.ref b5) := (Ff17).ext E21
 have Vf27 : Arv Z h21 b5 kb5 .byte (0 : Int32) ((([] : List Int32).map (fun c => c.toInt8.toInt32)).map Value.int) (.int 0) := (Vf18).ext E21
 have Ff28 : Fld Z h21 a0 "java/lang/String" "value" "[B" (.ref b5) := (Fw12).ext E21
 have pre29 : own_P p e below T21 (mkF m 20 #[vR a0, vR a1, vI 0, vI 0, .val .null, .unset] [(.ref a21), (.ref a0)]) s₁ (entryFrame m #[(.ref a0), (.ref a1), (.int 0), (.int 0), .null] 6) := fun t k => pre20 t (st21 t k)
 obtain ⟨T30, X30, e30, st30⟩ := getF X21 hx hZ21 ho21 (host := "") (Or.inl (own_w hw 24 rfl)) Via.refl e21 Ca21 (g := (mkF m 20 #[vR a0, vR a1, vI 0, vI 0, .val .null, .unset] [(.ref a21), (.ref a0)])) rfl rfl (hb hby d7_20)
 have pre31 : own_P p e below T30 (mkF m 23 #[vR a0, vR a1, vI 0, vI 0, .val .null, .unset] [(.int 0), (.ref a0)]) s₁ (entryFrame m #[(.ref a0), (.ref a1), (.int 0), (.int 0), .null] 6) := fun t k => pre29 t (st30 t k)
 obtain ⟨T32, h32, X32, e32, W32, st32⟩ := putFN X30 hx hZ21 ho21 (own_w hw 24 rfl) Via.refl e30 Ff23 Ef22 (Or.inr ⟨(own_w hw 5 rfl), rfl, hnm⟩) (own_w hw 2 rfl) (ty := .byte) (v' := (.int 0)) (by decide) rfl rfl (g := (mkF m 23 #[vR a0, vR a1, vI 0, vI 0, .val .null, .unset] [(.int 0), (.ref a0)])) rfl rfl (hb hby d7_23)
 have Z32 : n0 ≤ h32.size := Nat.le_trans Z21 (Keep.of_wr W32).1
 have K32 : Keep h0 h32 [a0] := K21.wr W32 (Or.inl (List.mem_of_getElem? (i := 0) rfl))
 have N32 := Fr.snoc X32 N12 g_a0
 have hk32 := Nat.le_trans hk21 (Keep.of_wr W32).1
 have sf_a0_32 := Safe.wr W32 sf_a0_21 CR21.1 sf_a0_21
 have CR32 := CR21.trans (CHr.wr W32 sf_a0_21 CR21.1)
 have Ef33 : Exa Z h32 a0 "java/lang/String" := (Ef22).wr W32
 have Ef34 : Exa Z h32 a5 "java/lang/String" := (Ef24).wr W32
 have Ff35 : Fld Z h32 a5 "java/lang/String" "coder" "B" (.int 0) := (Ff25).other W32 (Or.inl ne_a0_a5.symm)
 have Ff36 : Fld Z h32 a5 "java/lang/String" "value" "[B" (.ref b5) := (Ff26).other W32 (Or.inl ne_a0_a5.symm)
 have Vf37 : Arv Z h32 b5 kb5 .byte (0 : Int32) ((([] : List Int32).map (fun c => c.toInt8.toInt32)).map Value.int) (.int 0) := (Vf27).other W32 ne_a0_b5.symm
 have Ff38 : Fld Z h32 a0 "java/lang/String" "value" "[B" (.ref b5) := (Ff28).other W32 (Or.inr (slot_ne (Or.inr (own_w hw 4 rfl)) (Or.inr (own_w hw 5 rfl)) (by decide) (t := (.array .byte)) (t' := .byte) (by decide) (by decide)))
 have Ef39 : Exa Z h32 a21 "java/lang/String" := (Ea21).wr W32
 have Ff40 : Fld Z h32 a21 "java/lang/String" "coder" "B" (.int 0) := (Ca21).other W32 (Or.inl ne_a0_a21.symm)
 have Ff41 : Fld Z h32 a21 "java/lang/String" "value" "[B" (.ref b21) := (Va21).other W32 (Or.inl ne_a0_a21.symm)
 have Vf42 : Arv Z h32 b21 kb21 .byte (0 : Int32) ((([] : List Int32).map (fun c => c.toInt8.toInt32)).map Value.int) (.int 0) := (Ab21).other W32 ne_a0_b21.symm
 have Fw32 : Fld Z h32 a0 "java/lang/String" "coder" "B" (.int 0) := (Ff23).same W32
 have pre43 : own_P p e below T32 (mkF m 26 #[vR a0, vR a1, vI 0, vI 0, .val .null, .unset] []) s₁ (entryFrame m #[(.ref a0), (.ref a1), (.int 0), (.int 0), .null] 6) := fun t k => pre31 t (st32 t k)
 obtain ⟨fs, hr, hrun, hended, hRW⟩ := X32.leaveW (s := s) (vm₁ := T21.vm) hS21 (by rw [e32]; first | exact hk32 | exact Nat.le_refl _) (v := none) (fun _ => rfl)
 refine ⟨_, _, pre43 _ ?_, hrun, hended, _, _, rfl, ?_, ?_, hRW.1, hRW.2.1, hRW.2.2.1, hRW.2.2.2.mono (by decide) (by decide)⟩
 ·
  exact X32.returnOut hx Bd.returns (hb hby d7_26) hr
 ·
  show Q7_0 Z a0 a1 h0 n0 _ T32.heap _
  rw [e32]
  exact ⟨b5, kb5, rfl, N32, K32, Ef33, Ff38, Fw32, Vf37⟩
 ·
  have q := CR32.trans (CHv.at X32 hZ21 hEL CR32.1)
  rw [hh]
  show CHr _ _ _ _ T32.vm T32.heap
  rw [e32]
  exact q
theorem pd_0 : parseMethodDescriptor "([CIILjava/lang/Void;)V" = some ⟨[(.array .char), .int, .int, (.object "java/lang/Void")], none⟩ := by decide +kernel
theorem d6_0 : decode jdk_42_method_3_code 0 = .ok (.aload_n 0, 1) := by decide +kernel
theorem d6_1 : decode jdk_42_method_3_code 1 = .ok (.aload_n 1, 1) := by decide +kernel
theorem d6_2 : decode jdk_42_method_3_code 2 = .ok (.iconst 0, 1) := by decide +kernel
theorem d6_3 : decode jdk_42_method_3_code 3 = .ok (.aload_n 1, 1) := by decide +kernel
theorem d6_4 : decode jdk_42_method_3_code 4 = .ok (.arraylength, 1) := by decide +kernel
theorem d6_5 : decode jdk_42_method_3_code 5 = .ok (.aconst_null, 1) := by decide +kernel
theorem d6_6 : decode jdk_42_method_3_code 6 = .ok (.invokespecial 27, 3) := by decide +kernel
theorem d6_9 : decode jdk_42_method_3_code 9 = .ok (.return_, 1) := by decide +kernel
theorem ef_6 (m : MethodId) (x0 : Addr) (x1 : Addr) : entryFrame m #[(.ref x0), (.ref x1)] 2 = mkF m 0 #[vR x0, vR x1] [] := by first | (simp [entryFrame, mkF, argsToLocals, Value.category]; done) | rfl
def Q6_0 (Z : State) (a0 : Addr) (a1 : Addr) (k_a1 : ClassId) (h0 : Heap) (n0 : Nat) (v : Option Value) (h : Heap) (L : List Loc) : Prop := ∃ (t : Addr) (k_t : ClassId), v = none ∧ Fr n0 L ∧ Keep h0 h [a0] ∧ Exa Z h a0 "java/lang/String" ∧ Fld Z h a0 "java/lang/String" "value" "[B" (.ref t) ∧ Fld Z h a0 "java/lang/String" "coder" "B" (.int 0) ∧ Arv Z h t k_t .byte (0 : Int32) ((([] : List Int32).map (fun c => c.toInt8.toInt32)).map Value.int) (.int 0)
set_option maxRecDepth 65536 in
set_option maxHeartbeats 40000000 in
theorem rm6_0 (l : Launch) (Z : State) (ar0 : Array Value) (hw : ∀ d ∈ tables_1, d.before ar0 Z = true) (ws : List Jvm.Cond) (a0 : Addr) (a1 : Addr) (k_a1 : ClassId) (h0 : Heap) (n0 : Nat) (Z0 : n0 ≤ h0.size) (E_a0 : Exa Z h0 a0 "java/lang/String") (F_value_a0 : Fld Z h0 a0 "java/lang/String" "value" "[B" .null) (F_coder_a0 : Fld Z h0 a0 "java/lang/String" "coder" "B" (.int 0)) (V_a1 : Arv Z h0 a1 k_a1 .char (0 : Int32) [] (.int 0)) (g_a0 : n0 ≤ a0) (ne_a1_a0 : a1 ≠ a0) :
  MetFree l (⟨"java/lang/String", "<init>", "([C)V"⟩ : MethodName) (head1 (Jvm.Cond.code (⟨"java/lang/String", "<init>", "([C)V"⟩ : MethodName) jdk_42_method_3_code 2 none :: ws) ({ frames := 2, cells := 4, slots := 8, locals := 29 } : Room)) (fun a U => a = #[(.ref a0), (.ref a1)] ∧ Z.Warmed39 U.vm ∧ U.heap = h0 ∧ CHv Z own_EL U.vm h0) (fun _ _ _ _ _ => True) (fun _ U o U' => ∃ v L, o = .returned v ∧ Q6_0 Z a0 a1 k_a1 h0 n0 v U'.heap L ∧ CHr Z own_EL U.vm U.heap U'.vm U'.heap ∧ ReturnedEndW U o U' L ({ frames := 2, cells := 4, slots := 8, locals := 29 } : Room).cells ({ frames := 2, cells := 4, slots := 8, locals := 29 } : Room).slots) := by
 refine MetFree.of_bodySF (plainFor_of_name pn_0) hisR ?_
 intro p e s m args below meth c s₁ Bd hml0 hP hK
 obtain ⟨rfl, hZ, hh, hC0⟩ := hP
 have hx := Bd.exec
 have hby := Bd.bytes
 have hml : c.maxLocals = 2 := hml0
 have hown : s.vm.findClass "java/lang/String" = some m.cls := by have q := findClass_of_methodNamed Bd.named; exact q
 have hnm := (name_of_methodNamed Bd.named Bd.method).1
 have X0 : Stand p l e ({ frames := 2, cells := 4, slots := 8, locals := 29 } : Room) s m #[(.ref a0), (.ref a1)] below meth c s₁ [] 0 0 := Stand.of_body Bd
 have e0 : s₁.heap = h0 := by rw [← hh, Bd.state]; rfl
 have N0 := Fr.nil n0
 have hS0 : s.Since s.vm 0 := own_since0 s
 have hCR0 : CHr Z own_EL s.vm h0 s.vm h0 := CHr.refl hC0
 have hEL : EW Z ar0 own_EL := own_EW hw
 have pre0 : own_P p e below s₁ (mkF m 0 #[vR a0, vR a1] []) s₁ (entryFrame m #[(.ref a0), (.ref a1)] 2) := fun t k => castTop (ef_6 m a0 a1) k
 have pre44 : own_P p e below s₁ (mkF m 4 #[vR a0, vR a1] [(.ref a1), (.int 0), (.ref a1), (.ref a0)]) s₁ (entryFrame m #[(.ref a0), (.ref a1)] 2) := by
  intro t k
  refine pre0 t ?_
  refine XS.aloadN X0.here hx rfl (hb hby d6_0) rfl rfl ?_
  refine XS.aloadN X0.here hx rfl (hb hby d6_1) rfl rfl ?_
  refine XS.iconst X0.here hx rfl (hb hby d6_2) ?_
  refine XS.aloadN X0.here hx rfl (hb hby d6_3) rfl rfl ?_
  exact k
 obtain ⟨cl45, Ar45, q45, S45, M45, H45, G45⟩ := id V_a1
 have pre46 : own_P p e below s₁ (mkF m 6 #[vR a0, vR a1] [.null, (.int 0), (.int 0), (.ref a1), (.ref a0)]) s₁ (entryFrame m #[(.ref a0), (.ref a1)] 2) := by
  intro t k
  refine pre44 t ?_
  refine X0.arraylength hx (by rw [e0]; exact Ar45.1) (State.isArrayOf_alike hZ.alike Ar45.2.1) (g := (mkF m 4 #[vR a0, vR a1] [(.ref a1), (.int 0), (.ref a1), (.ref a0)])) rfl rfl (hb hby d6_4) _ ?_
  rw [len_of S45 M45]
  refine XS.aconstNull X0.here hx rfl (hb hby d6_5) ?_
  exact k
 obtain ⟨_, _, ⟨T47, L47, k47, n47⟩, -, X47r, hS47r, hg47r, ⟨Lc47, hQ47, l47, y47, z47, hC47⟩, st47⟩ := X0.specialBackS hx (y := (⟨"java/lang/String", "<init>", "([CIILjava/lang/Void;)V"⟩ : MethodName)) rfl hown (mvT hZ (own_w hw 36 rfl)) (mvT hZ (own_w hw 37 rfl)) (mvT hZ (own_w hw 39 rfl)) (by decide) (backOfSH (W := 0) (rm7_0 l Z ar0 hw [] a0 a1 h0 n0 Z0 E_a0 F_value_a0 F_coder_a0 g_a0) hZ (own_w hw 39 rfl) (own_w hw 1 rfl) (by decide) (by decide) hEL hCR0.1) (g := (mkF m 6 #[vR a0, vR a1] [.null, (.int 0), (.int 0), (.ref a1), (.ref a0)])) rfl (by rw [hml]; rfl) (Steps.refl _) (a := a0) (argsL := [(.ref a1), (.int 0), (.int 0), .null]) (rest := []) (lenOf pd_0 rfl) rfl (by show 2 * 0 + _ ≤ _; exact Nat.le_of_eq rfl) (hb hby d6_6) (fun _ _ => ⟨rfl, e0, (by decide : 0 + 4 ≤ _), (by decide : 0 + 8 ≤ _)⟩)
 dsimp only [Pt.U, Pt.locs, Pt.cells, Pt.slots] at X47r hS47r hg47r l47 y47 z47 st47 hQ47 hC47
 subst l47 y47 z47
 obtain ⟨X47, hS47, hZ47, ho47⟩ := rebS (s := s) (vm0 := s.vm) (n1 := s₁.heap.size) hS0 (by rw [e0]; first | exact (Nat.zero_le _) | exact Nat.le_refl _) X47r hS47r hg47r hZ hown
 obtain ⟨h47, e47⟩ : ∃ h, T47.heap = h := ⟨_, rfl⟩
 rw [e47] at hQ47
 obtain ⟨b47, kb47, rfl, N47q, K47q, Q47_0, Q47_1, Q47_2, Ob47_0⟩ := hQ47
 have N47 := Fr.app N0 N47q
 have Z47 : n0 ≤ h47.size := Nat.le_trans Z0 K47q.1
 have K47 : Keep h0 h47 [a0] := (Keep.refl h0 [a0]).trans K47q (fun x hx => by cases List.mem_singleton.mp hx; exact Or.inl (List.mem_of_getElem? (i := 0) rfl))
 have Ef48 : Exa Z h47 a0 "java/lang/String" := (E_a0).keep K47q
 have Vf49 : Arv Z h47 a1 k_a1 .char (0 : Int32) [] (.int 0) := (V_a1).keep K47q (fun q => absurd (List.mem_singleton.mp q) ne_a1_a0)
 rw [e47] at hC47
 have CR47 := hCR0.trans hC47
 have hk47 : T47.heap.size ≤ h47.size := by rw [e47]; exact Nat.le_refl _
 have pre50 : own_P p e below T47 (mkF m 9 #[vR a0, vR a1] []) s₁ (entryFrame m #[(.ref a0), (.ref a1)] 2) := fun t k => pre46 t (st47.trans k)
 obtain ⟨fs, hr, hrun, hended, hRW⟩ := X47.leaveW (s := s) (vm₁ := T47.vm) hS47 (by rw [e47]; first | exact hk47 | exact Nat.le_refl _) (v := none) (fun _ => rfl)
 refine ⟨_, _, pre50 _ ?_, hrun, hended, _, _, rfl, ?_, ?_, hRW.1, hRW.2.1, hRW.2.2.1, hRW.2.2.2.mono (by decide) (by decide)⟩
 ·
  exact X47.returnOut hx Bd.returns (hb hby d6_9) hr
 ·
  show Q6_0 Z a0 a1 k_a1 h0 n0 _ T47.heap _
  rw [e47]
  exact ⟨b47, kb47, rfl, N47, K47, Q47_0, Q47_1, Q47_2, Ob47_0⟩
 ·
  have q := CR47.trans (CHv.at X47 hZ47 hEL CR47.1)
  rw [hh]
  show CHr _ _ _ _ T47.vm T47.heap
  rw [e47]
  exact q
theorem d13_0 : decode jdk_42_method_66_code 0 = .ok (.aload_n 0, 1) := by decide +kernel
theorem d13_1 : decode jdk_42_method_66_code 1 = .ok (.aload_n 1, 1) := by decide +kernel
theorem d13_2 : decode jdk_42_method_66_code 2 = .ok (.if_acmp .ne 5, 3) := by decide +kernel
theorem d13_7 : decode jdk_42_method_66_code 7 = .ok (.aload_n 1, 1) := by decide +kernel
theorem d13_8 : decode jdk_42_method_66_code 8 = .ok (.instanceof 10, 3) := by decide +kernel
theorem d13_11 : decode jdk_42_method_66_code 11 = .ok (.ifCond .eq 43, 3) := by decide +kernel
theorem d13_54 : decode jdk_42_method_66_code 54 = .ok (.iconst 0, 1) := by decide +kernel
theorem d13_55 : decode jdk_42_method_66_code 55 = .ok (.ireturn, 1) := by decide +kernel
theorem ef_13_n (m : MethodId) (x0 : Addr) : entryFrame m #[(.ref x0), .null] 3 = mkF m 0 #[vR x0, .val .null, .unset] [] := by first | (simp [entryFrame, mkF, argsToLocals, Value.category]; done) | rfl
def Q13_n (Z : State) (a0 : Addr) (h0 : Heap) (n0 : Nat) (v : Option Value) (h : Heap) (L : List Loc) : Prop := v = some (.int 0) ∧ Fr n0 L ∧ h = h0
set_option maxRecDepth 65536 in
set_option maxHeartbeats 40000000 in
theorem rm13_n (l : Launch) (Z : State) (ar0 : Array Value) (hw : ∀ d ∈ tables_1, d.before ar0 Z = true) (ws : List Jvm.Cond) (a0 : Addr) (h0 : Heap) (n0 : Nat) (Z0 : n0 ≤ h0.size) :
  MetFree l (⟨"java/lang/String", "equals", "(Ljava/lang/Object;)Z"⟩ : MethodName) (head1 (Jvm.Cond.code (⟨"java/lang/String", "equals", "(Ljava/lang/Object;)Z"⟩ : MethodName) jdk_42_method_66_code 3 (some .boolean) :: ws) ({ frames := 0, cells := 0, slots := 0, locals := 0 } : Room)) (fun a U => a = #[(.ref a0), .null] ∧ Z.Warmed39 U.vm ∧ U.heap = h0) (fun _ _ _ _ _ => True) (fun _ U o U' => ∃ v L, o = .returned v ∧ Q13_n Z a0 h0 n0 v U'.heap L ∧ FrameEnd U o U' L ({ frames := 0, cells := 0, slots := 0, locals := 0 } : Room).cells ({ frames := 0, cells := 0, slots := 0, locals := 0 } : Room).slots) := by
 refine MetFree.of_bodySF (plainFor_of_name pn_0) hisR ?_
 intro p e s m args below meth c s₁ Bd hml0 hP hK
 obtain ⟨rfl, hZ, hh⟩ := hP
 have hx := Bd.exec
 have hby := Bd.bytes
 have hml : c.maxLocals = 3 := hml0
 have hown : s.vm.findClass "java/lang/String" = some m.cls := by have q := findClass_of_methodNamed Bd.named; exact q
 have hnm := (name_of_methodNamed Bd.named Bd.method).1
 have X0 : Stand p l e ({ frames := 0, cells := 0, slots := 0, locals := 0 } : Room) s m #[(.ref a0), .null] below meth c s₁ [] 0 0 := Stand.of_body Bd
 have e0 : s₁.heap = h0 := by rw [← hh, Bd.state]; rfl
 have N0 := Fr.nil n0
 have pre0 : own_P p e below s₁ (mkF m 0 #[vR a0, .val .null, .unset] []) s₁ (entryFrame m #[(.ref a0), .null] 3) := fun t k => castTop (ef_13_n m a0) k
 have pre51 : own_P p e below s₁ (mkF m 8 #[vR a0, .val .null, .unset] [.null]) s₁ (entryFrame m #[(.ref a0), .null] 3) := by
  intro t k
  refine pre0 t ?_
  refine XS.aloadN X0.here hx rfl (hb hby d13_0) rfl rfl ?_
  refine XS.aloadN X0.here hx rfl (hb hby d13_1) rfl rfl ?_
  refine Jvm.RoadKit.acmp (g := (mkF m 2 #[vR a0, .val .null, .unset] [.null, (.ref a0)])) X0 hx rfl rfl rfl (pc0 := 2) (pc' := 7) (same := false) rfl (hb hby d13_2) rfl (decide_eq_false nofun) (by decide) (by decide) ?_
  refine XS.aloadN X0.here hx rfl (hb hby d13_7) rfl rfl ?_
  exact k
 obtain ⟨fs, hr, hrun, hended, hW, hsame⟩ := X0.leave (v := some (.int 0)) (fun h => by rw [Bd.returns] at h; cases h)
 refine ⟨_, _, pre51 _ ?_, hrun, hended, _, _, rfl, ?_, ⟨_, rfl⟩, hW, hsame.mono (by decide) (by decide)⟩
 ·
  refine X0.instanceofNull hx (g := (mkF m 8 #[vR a0, .val .null, .unset] [.null])) rfl rfl (hb hby d13_8) _ ?_
  refine XS.ifYes X0.here hx rfl (pc0 := 11) (pc' := 54) rfl (hb hby d13_11) rfl ((if0 _ _).trans (teq (by decide : (0 : Int32) = (0 : Int32))).1) (by decide) (by decide) ?_
  refine XS.iconst X0.here hx rfl (hb hby d13_54) ?_
  exact retN X0 hx (t := .boolean) Bd.returns (by simp) (hb hby d13_55) hr
 ·
  show Q13_n Z a0 h0 n0 _ s₁.heap _
  rw [e0]
  exact ⟨rfl, N0, rfl⟩
theorem pd_1 : parseMethodDescriptor "(I)C" = some ⟨[.int], some .char⟩ := by decide +kernel
theorem pn_1 : plainName "com/example/timely_exodus/timelyexodus/plan/LpSolverFromNamePinLaw" = true := by first | (simp [plainName, overriddenIn]; done) | decide +kernel
theorem d4_0 : decode method_5_code 0 = .ok (.iload_n 0, 1) := by decide +kernel
theorem d4_1 : decode method_5_code 1 = .ok (.sipush 256, 3) := by decide +kernel
theorem d4_4 : decode method_5_code 4 = .ok (.iand, 1) := by decide +kernel
theorem d4_5 : decode method_5_code 5 = .ok (.ifCond .eq 18, 3) := by decide +kernel
theorem d4_8 : decode method_5_code 8 = .ok (.ldc 61, 2) := by decide +kernel
theorem d4_10 : decode method_5_code 10 = .ok (.astore_n 1, 1) := by decide +kernel
theorem d4_11 : decode method_5_code 11 = .ok (.aload_n 1, 1) := by decide +kernel
theorem d4_12 : decode method_5_code 12 = .ok (.iload_n 0, 1) := by decide +kernel
theorem d4_13 : decode method_5_code 13 = .ok (.bipush 9, 2) := by decide +kernel
theorem d4_15 : decode method_5_code 15 = .ok (.iushr, 1) := by decide +kernel
theorem d4_16 : decode method_5_code 16 = .ok (.bipush 6, 2) := by decide +kernel
theorem d4_18 : decode method_5_code 18 = .ok (.irem, 1) := by decide +kernel
theorem d4_19 : decode method_5_code 19 = .ok (.invokevirtual 54, 3) := by decide +kernel
theorem d4_22 : decode method_5_code 22 = .ok (.ireturn, 1) := by decide +kernel
theorem d4_23 : decode method_5_code 23 = .ok (.iload_n 0, 1) := by decide +kernel
theorem d4_24 : decode method_5_code 24 = .ok (.sipush 255, 3) := by decide +kernel
theorem d4_27 : decode method_5_code 27 = .ok (.iand, 1) := by decide +kernel
theorem d4_28 : decode method_5_code 28 = .ok (.i2c, 1) := by decide +kernel
theorem d4_29 : decode method_5_code 29 = .ok (.ireturn, 1) := by decide +kernel
theorem ef_4 (m : MethodId) (x0 : Int32) : entryFrame m #[(.int x0)] 2 = mkF m 0 #[vI x0, .unset] [] := by first | (simp [entryFrame, mkF, argsToLocals, Value.category]; done) | rfl
def f4 (p0 : Int32) : Int32 := (if (p0 &&& (256 : Int32)) = (0 : Int32) then (nar .char ((p0 &&& (255 : Int32)).toUInt32.toUInt16.toUInt32.toInt32)) else (nar .char (([103, 108, 111, 112, 99, 100] : List Int32).getD ((((p0.toUInt32 >>> ((9 : Int32) &&& 31).toUInt32).toInt32) % (6 : Int32)).toNatClampNeg) 0)))
def Q4 (Z : State) (p0 : Int32) (gc1 : Int32) (gf3 : Value) (h0 : Heap) (n0 : Nat) (v : Option Value) (h : Heap) (L : List Loc) : Prop := v = some (.int (f4 p0)) ∧ Fr n0 L ∧ Keep h0 h []
set_option maxRecDepth 65536 in
set_option maxHeartbeats 40000000 in
theorem rm4 (l : Launch) (Z : State) (ar0 : Array Value) (hw : ∀ d ∈ tables_1, d.before ar0 Z = true) (ws : List Jvm.Cond) (p0 : Int32) (gc1 : Int32) (gf3 : Value) (h0 : Heap) (n0 : Nat) (Z0 : n0 ≤ h0.size) (P5 : ¬ (gc1 = (0 : Int32))) (rG3 : gf3.isRef = true) (S_COMPACT_STRINGS : Sta Z h0 "java/lang/String" "COMPACT_STRINGS" "Z" (.int gc1)) (S_SIOOBE_FORMATTER : Sta Z h0 "jdk/internal/util/Preconditions" "SIOOBE_FORMATTER" "Ljava/util/function/BiFunction;" gf3) :
  MetFree l (⟨"com/example/timely_exodus/timelyexodus/plan/LpSolverFromNamePinLaw", "pick", "(I)C"⟩ : MethodName) (head1 (Jvm.Cond.code (⟨"com/example/timely_exodus/timelyexodus/plan/LpSolverFromNamePinLaw", "pick", "(I)C"⟩ : MethodName) method_5_code 2 (some .char) :: ws) ({ frames := 4, cells := 2, slots := 28, locals := 53 } : Room)) (fun a U => a = #[(.int p0)] ∧ Z.Warmed39 U.vm ∧ U.heap = h0 ∧ CHv Z own_EL U.vm h0) (fun _ _ _ _ _ => True) (fun _ U o U' => ∃ v L, o = .returned v ∧ Q4 Z p0 gc1 gf3 h0 n0 v U'.heap L ∧ CHr Z own_EL U.vm U.heap U'.vm U'.heap ∧ ReturnedEndW U o U' L ({ frames := 4, cells := 2, slots := 28, locals := 53 } : Room).cells ({ frames := 4, cells := 2, slots := 28, locals := 53 } : Room).slots) := by
 refine MetFree.of_bodySF (plainFor_of_name pn_1) hisR ?_
 intro p e s m args below meth c s₁ Bd hml0 hP hK
 obtain ⟨rfl, hZ, hh, hC0⟩ := hP
 have hx := Bd.exec
 have hby := Bd.bytes
 have hml : c.maxLocals = 2 := hml0
 have hown : s.vm.findClass "com/example/timely_exodus/timelyexodus/plan/LpSolverFromNamePinLaw" = some m.cls := by have q := findClass_of_methodNamed Bd.named; exact q
 have hnm := (name_of_methodNamed Bd.named Bd.method).1
 have X0 : Stand p l e ({ frames := 4, cells := 2, slots := 28, locals := 53 } : Room) s m #[(.int p0)] below meth c s₁ [] 0 0 := Stand.of_body Bd
 have e0 : s₁.heap = h0 := by rw [← hh, Bd.state]; rfl
 have N0 := Fr.nil n0
 have hS0 : s.Since s.vm 0 := own_since0 s
 have hCR0 : CHr Z own_EL s.vm h0 s.vm h0 := CHr.refl hC0
 have hEL : EW Z ar0 own_EL := own_EW hw
 have pre0 : own_P p e below s₁ (mkF m 0 #[vI p0, .unset] []) s₁ (entryFrame m #[(.int p0)] 2) := fun t k => castTop (ef_4 m p0) k
 have pre52 : own_P p e below s₁ (mkF m 5 #[vI p0, .unset] [(.int (p0 &&& (256 : Int32)))]) s₁ (entryFrame m #[(.int p0)] 2) := by
  intro t k
  refine pre0 t ?_
  refine XS.iloadN X0.here hx rfl (hb hby d4_0) rfl ?_
  refine XS.sipush X0.here hx rfl (hb hby d4_1) ?_
  refine XS.iand X0.here hx rfl (hb hby d4_4) rfl ?_
  exact k
 by_cases hc5_53 : (p0 &&& (256 : Int32)) = (0 : Int32)
 ·
  obtain ⟨fs, hr, hrun, hended, hRW⟩ := X0.leaveW (s := s) (vm₁ := s.vm) hS0 (by rw [e0]; first | exact (Nat.zero_le _) | exact Nat.le_refl _) (v := some (.int (nar .char ((p0 &&& (255 : Int32)).toUInt32.toUInt16.toUInt32.toInt32)))) (fun h => by rw [Bd.returns] at h; cases h)
  refine ⟨_, _, pre52 _ ?_, hrun, hended, _, _, rfl, ?_, ?_, hRW.1, hRW.2.1, hRW.2.2.1, hRW.2.2.2.mono (by decide) (by decide)⟩
  ·
   refine XS.ifYes X0.here hx rfl (pc0 := 5) (pc' := 23) rfl (hb hby d4_5) rfl ((if0 _ _).trans (teq hc5_53).1) (by decide) (by decide) ?_
   refine XS.iloadN X0.here hx rfl (hb hby d4_23) rfl ?_
   refine XS.sipush X0.here hx rfl (hb hby d4_24) ?_
   refine XS.iand X0.here hx rfl (hb hby d4_27) rfl ?_
   refine XS.i2c X0.here hx rfl (hb hby d4_28) rfl ?_
   exact retN X0 hx (t := .char) Bd.returns (by simp) (hb hby d4_29) hr
  ·
   show Q4 Z p0 gc1 gf3 h0 n0 _ s₁.heap _
   rw [e0]
   exact ⟨by unfold f4; rw [if_pos hc5_53], N0, (Keep.refl h0 [])⟩
  ·
   have q := hCR0.trans (CHv.at X0 hZ hEL hCR0.1)
   rw [hh]
   show CHr _ _ _ _ s₁.vm s₁.heap
   rw [e0]
   exact q
 ·
  have pre54 : ∀ t, Steps p.tables e below (s₁.setTop (mkF m 8 #[vI p0, .unset] [])) t → Steps p.tables e below (s₁.setTop (entryFrame m #[(.int p0)] 2)) t := by
   intro t k
   refine pre52 t ?_
   refine XS.ifNo X0.here hx rfl (hb hby d4_5) rfl ((if0 _ _).trans (feq hc5_53).1) ?_
   exact k
  obtain ⟨a55, T55, h55, k55, b55, kb55, X55, e55, E55, hS55, hk55, hZ55, ho55, Ea55, Ca55, Va55, Ab55, la55, lb55, hC55, -, hn55, st55⟩ := ldcCH (s := s) (vm0 := s.vm) X0 hx hZ hown (own_w hw 115 rfl) (own_strW hw) e0 hS0 (Nat.zero_le _) hEL (List.mem_of_getElem? (i := 4) rfl) hCR0.1 (vs := [(.int 103), (.int 108), (.int 111), (.int 112), (.int 99), (.int 100)]) (z := (6 : Int32)) ⟨by decide, rfl⟩ (by decide) rfl (g := (mkF m 8 #[vI p0, .unset] [])) rfl (hb hby d4_8) (n := 24) (by decide) (by decide) (by decide) (by decide)
  have CR55 := hCR0.trans hC55
  have Z55 : n0 ≤ h55.size := Nat.le_trans Z0 E55.1
  have K55 : Keep h0 h55 [] := (Keep.refl h0 []).ext E55
  have Sf56 : Sta Z h55 "java/lang/String" "COMPACT_STRINGS" "Z" (.int gc1) := (S_COMPACT_STRINGS).ext E55
  have Sf57 : Sta Z h55 "jdk/internal/util/Preconditions" "SIOOBE_FORMATTER" "Ljava/util/function/BiFunction;" gf3 := (S_SIOOBE_FORMATTER).ext E55
  have pre58 : own_P p e below T55 (mkF m 10 #[vI p0, .unset] [(.ref a55)]) s₁ (entryFrame m #[(.int p0)] 2) := fun t k => pre54 t (st55 t k)
  have pre59 : own_P p e below T55 (mkF m 19 #[vI p0, vR a55] [(.int (((p0.toUInt32 >>> ((9 : Int32) &&& 31).toUInt32).toInt32) % (6 : Int32))), (.ref a55)]) s₁ (entryFrame m #[(.int p0)] 2) := by
   intro t k
   refine pre58 t ?_
   refine XS.astoreN X55.here hx rfl (hb hby d4_10) rfl rfl (l' := #[vI p0, vR a55]) rfl ?_
   refine XS.aloadN X55.here hx rfl (hb hby d4_11) rfl rfl ?_
   refine XS.iloadN X55.here hx rfl (hb hby d4_12) rfl ?_
   refine XS.bipush X55.here hx rfl (hb hby d4_13) ?_
   refine XS.iushr X55.here hx rfl (hb hby d4_15) rfl ?_
   refine XS.bipush X55.here hx rfl (hb hby d4_16) ?_
   refine iremM X55 hx rfl (hb hby d4_18) rfl (by decide) ?_
   exact k
  obtain ⟨cq60, kq60, q60a, q60b, q60c⟩ := isOf hZ55 e55 Ea55
  obtain ⟨_, _, ⟨T60, L60, k60, n60⟩, -, X60, ⟨Lc60, hQ60, l60, y60, z60⟩, st60⟩ := X55.virtualBack hx (y := (⟨"java/lang/String", "charAt", "(I)C"⟩ : MethodName)) (z := (⟨"java/lang/String", "charAt", "(I)C"⟩ : MethodName)) ho55 (mvT hZ55 (own_w hw 94 rfl)) (mvT hZ55 (own_w hw 95 rfl)) (notFace_of_selects (args := #[]) (mvT hZ55 (own_w hw 97 rfl))) (mvT hZ55 (own_w hw 97 rfl)) (mvT hZ55 (own_w hw 96 rfl)) (by decide) (StrChars.Road.chN (W := 0) hZ55 (own_wordsChN hw) (kI := 4) (own_w hw 2 rfl) Ea55 Va55 Ca55 Ab55 (own_hcdG (cs := [103, 108, 111, 112, 99, 100]) (by decide)) (own_up [103, 108, 111, 112, 99, 100] (by decide)) Sf56 P5 Sf57 rG3 (Nat.le_of_ble_eq_true rfl) (i := ((((p0.toUInt32 >>> ((9 : Int32) &&& 31).toUInt32).toInt32) % (6 : Int32)).toNatClampNeg)) (own_i6 p0).1 (j := (((p0.toUInt32 >>> ((9 : Int32) &&& 31).toUInt32).toInt32) % (6 : Int32))) (own_i6 p0).2 (by decide) (by decide)) q60a q60c (g := (mkF m 19 #[vI p0, vR a55] [(.int (((p0.toUInt32 >>> ((9 : Int32) &&& 31).toUInt32).toInt32) % (6 : Int32))), (.ref a55)])) rfl (by rw [hml]; rfl) (Steps.refl _) (argsL := [(.int (((p0.toUInt32 >>> ((9 : Int32) &&& 31).toUInt32).toInt32) % (6 : Int32)))]) (rest := []) (lenOf pd_1 rfl) rfl (by show 2 * 0 + _ ≤ _; exact Nat.le_of_eq rfl) (hb hby d4_19) (fun _ _ => ⟨rfl, e55, (by decide : 2 + 0 ≤ _), (by decide : 28 + 0 ≤ _)⟩)
  dsimp only [Pt.U, Pt.locs, Pt.cells, Pt.slots] at X60 l60 y60 z60 st60 hQ60
  subst l60 y60 z60
  obtain ⟨rfl, rfl, e60⟩ := hQ60
  try rw [List.append_nil] at X60
  have pre61 : own_P p e below T60 (mkF m 22 #[vI p0, vR a55] [(.int (([103, 108, 111, 112, 99, 100] : List Int32).getD ((((p0.toUInt32 >>> ((9 : Int32) &&& 31).toUInt32).toInt32) % (6 : Int32)).toNatClampNeg) 0))]) s₁ (entryFrame m #[(.int p0)] 2) := fun t k => pre59 t (st60.trans k)
  obtain ⟨fs, hr, hrun, hended, hRW⟩ := X60.leaveW (s := s) (vm₁ := T55.vm) hS55 (by rw [e60]; first | exact hk55 | exact Nat.le_refl _) (v := some (.int (nar .char (([103, 108, 111, 112, 99, 100] : List Int32).getD ((((p0.toUInt32 >>> ((9 : Int32) &&& 31).toUInt32).toInt32) % (6 : Int32)).toNatClampNeg) 0)))) (fun h => by rw [Bd.returns] at h; cases h)
  refine ⟨_, _, pre61 _ ?_, hrun, hended, _, _, rfl, ?_, ?_, hRW.1, hRW.2.1, hRW.2.2.1, hRW.2.2.2.mono (by decide) (by decide)⟩
  ·
   exact retN X60 hx (t := .char) Bd.returns (by simp) (hb hby d4_22) hr
  ·
   show Q4 Z p0 gc1 gf3 h0 n0 _ T60.heap _
   rw [e60]
   exact ⟨by unfold f4; rw [if_neg hc5_53], N0, K55⟩
  ·
   have q := CR55.trans (CHv.at X60 hZ55 hEL CR55.1)
   rw [hh]
   show CHr _ _ _ _ T60.vm T60.heap
   rw [e60]
   exact q
theorem own_Rpick (p0 : Int32) : own_R (f4 p0) := by
 unfold f4; split
 ·
  have e1 : (p0 &&& 255).toInt = p0.toInt % 2 ^ 8 := Jvm.Kit.i32_mask p0 255 (k := 8) (by decide) (by decide)
  obtain ⟨k, e⟩ := own_small 256 (by decide) (p0 &&& 255) (by omega) (by omega)
  have d : ∀ k : Fin 256, own_R (nar .char ((Int32.ofNat k).toUInt32.toUInt16.toUInt32.toInt32)) := by decide +kernel
  rw [e]; exact d k
 ·
  rw [own_nar (own_RgetD (by decide) _)]; exact own_RgetD (by decide) _
theorem pd_2 : parseMethodDescriptor "()I" = some ⟨[], some .int⟩ := by decide +kernel
theorem d1_0 : decode method_4_code 0 = .ok (.iload_n 0, 1) := by decide +kernel
theorem d1_1 : decode method_4_code 1 = .ok (.aload_n 1, 1) := by decide +kernel
theorem d1_2 : decode method_4_code 2 = .ok (.invokevirtual 15, 3) := by decide +kernel
theorem d1_5 : decode method_4_code 5 = .ok (.if_icmp .ge 19, 3) := by decide +kernel
theorem d1_8 : decode method_4_code 8 = .ok (.iload_n 3, 1) := by decide +kernel
theorem d1_9 : decode method_4_code 9 = .ok (.iconst 2, 1) := by decide +kernel
theorem d1_10 : decode method_4_code 10 = .ok (.iload_n 0, 1) := by decide +kernel
theorem d1_11 : decode method_4_code 11 = .ok (.iadd, 1) := by decide +kernel
theorem d1_12 : decode method_4_code 12 = .ok (.iushr, 1) := by decide +kernel
theorem d1_13 : decode method_4_code 13 = .ok (.iconst 1, 1) := by decide +kernel
theorem d1_14 : decode method_4_code 14 = .ok (.iand, 1) := by decide +kernel
theorem d1_15 : decode method_4_code 15 = .ok (.ifCond .ne 9, 3) := by decide +kernel
theorem d1_18 : decode method_4_code 18 = .ok (.aload_n 1, 1) := by decide +kernel
theorem d1_19 : decode method_4_code 19 = .ok (.iload_n 0, 1) := by decide +kernel
theorem d1_20 : decode method_4_code 20 = .ok (.invokevirtual 54, 3) := by decide +kernel
theorem d1_23 : decode method_4_code 23 = .ok (.ireturn, 1) := by decide +kernel
theorem d1_24 : decode method_4_code 24 = .ok (.iload_n 2, 1) := by decide +kernel
theorem d1_25 : decode method_4_code 25 = .ok (.invokestatic 58, 3) := by decide +kernel
theorem d1_28 : decode method_4_code 28 = .ok (.ireturn, 1) := by decide +kernel
theorem ef_1_0 (m : MethodId) (x0 : Int32) (x1 : Addr) (x2 : Int32) (x3 : Int32) : entryFrame m #[(.int x0), (.ref x1), (.int x2), (.int x3)] 4 = mkF m 0 #[vI x0, vR x1, vI x2, vI x3] [] := by first | (simp [entryFrame, mkF, argsToLocals, Value.category]; done) | rfl
def f1_0 (p2 : Int32) (p3 : Int32) (cs : List Int32) : Int32 := (if (0 : Int32) < (Int32.ofNat (cs : List Int32).length) then (if (((p3.toUInt32 >>> ((2 : Int32) &&& 31).toUInt32).toInt32) &&& (1 : Int32)) = (0 : Int32) then (nar .char ((cs : List Int32).getD 0 0)) else (nar .char (f4 p2))) else (nar .char (f4 p2)))
def Q1_0 (Z : State) (a1 : Addr) (p2 : Int32) (p3 : Int32) (cs : List Int32) (gc1 : Int32) (gf3 : Value) (t : Addr) (k_t : ClassId) (h0 : Heap) (n0 : Nat) (v : Option Value) (h : Heap) (L : List Loc) : Prop := v = some (.int (f1_0 p2 p3 cs)) ∧ Fr n0 L ∧ Keep h0 h []
set_option maxRecDepth 65536 in
set_option maxHeartbeats 40000000 in
theorem rm1_0 (l : Launch) (Z : State) (ar0 : Array Value) (hw : ∀ d ∈ tables_1, d.before ar0 Z = true) (ws : List Jvm.Cond) (a1 : Addr) (p2 : Int32) (p3 : Int32) (cs : List Int32) (gc1 : Int32) (gf3 : Value) (t : Addr) (k_t : ClassId) (h0 : Heap) (n0 : Nat) (Z0 : n0 ≤ h0.size) (P5 : ¬ (gc1 = (0 : Int32))) (rG3 : gf3.isRef = true) (hp : ∀ x ∈ cs, ¬ x < 0 ∧ ¬ (255 : Int32) < x) (h4 : cs.length ≤ 4000) (S_COMPACT_STRINGS : Sta Z h0 "java/lang/String" "COMPACT_STRINGS" "Z" (.int gc1)) (S_SIOOBE_FORMATTER : Sta Z h0 "jdk/internal/util/Preconditions" "SIOOBE_FORMATTER" "Ljava/util/function/BiFunction;" gf3) (E_a1 : Exa Z h0 a1 "java/lang/String") (F_value_a1 : Fld Z h0 a1 "java/lang/String" "value" "[B" (.ref t)) (F_coder_a1 : Fld Z h0 a1 "java/lang/String" "coder" "B" (.int 0)) (B_t : Arv Z h0 t k_t .byte (Int32.ofNat cs.length) (((cs : List Int32).map (fun c => c.toInt8.toInt32)).map Value.int) (.int 0)) :
  MetFree l (⟨"com/example/timely_exodus/timelyexodus/plan/LpSolverFromNamePinLaw", "ch", "(ILjava/lang/String;II)C"⟩ : MethodName) (head1 (Jvm.Cond.code (⟨"com/example/timely_exodus/timelyexodus/plan/LpSolverFromNamePinLaw", "ch", "(ILjava/lang/String;II)C"⟩ : MethodName) method_4_code 4 (some .char) :: ws) ({ frames := 5, cells := 2, slots := 28, locals := 66 } : Room)) (fun a U => a = #[(.int 0), (.ref a1), (.int p2), (.int p3)] ∧ Z.Warmed39 U.vm ∧ U.heap = h0 ∧ CHv Z own_EL U.vm h0) (fun _ _ _ _ _ => True) (fun _ U o U' => ∃ v L, o = .returned v ∧ Q1_0 Z a1 p2 p3 cs gc1 gf3 t k_t h0 n0 v U'.heap L ∧ CHr Z own_EL U.vm U.heap U'.vm U'.heap ∧ ReturnedEndW U o U' L ({ frames := 5, cells := 2, slots := 28, locals := 66 } : Room).cells ({ frames := 5, cells := 2, slots := 28, locals := 66 } : Room).slots) := by
 refine MetFree.of_bodySF (plainFor_of_name pn_1) hisR ?_
 intro p e s m args below meth c s₁ Bd hml0 hP hK
 obtain ⟨rfl, hZ, hh, hC0⟩ := hP
 have hx := Bd.exec
 have hby := Bd.bytes
 have hml : c.maxLocals = 4 := hml0
 have hown : s.vm.findClass "com/example/timely_exodus/timelyexodus/plan/LpSolverFromNamePinLaw" = some m.cls := by have q := findClass_of_methodNamed Bd.named; exact q
 have hnm := (name_of_methodNamed Bd.named Bd.method).1
 have X0 : Stand p l e ({ frames := 5, cells := 2, slots := 28, locals := 66 } : Room) s m #[(.int 0), (.ref a1), (.int p2), (.int p3)] below meth c s₁ [] 0 0 := Stand.of_body Bd
 have e0 : s₁.heap = h0 := by rw [← hh, Bd.state]; rfl
 have N0 := Fr.nil n0
 have hS0 : s.Since s.vm 0 := own_since0 s
 have hCR0 : CHr Z own_EL s.vm h0 s.vm h0 := CHr.refl hC0
 have hEL : EW Z ar0 own_EL := own_EW hw
 have pre0 : own_P p e below s₁ (mkF m 0 #[vI 0, vR a1, vI p2, vI p3] []) s₁ (entryFrame m #[(.int 0), (.ref a1), (.int p2), (.int p3)] 4) := fun t k => castTop (ef_1_0 m (0 : Int32) a1 p2 p3) k
 have pre62 : own_P p e below s₁ (mkF m 2 #[vI 0, vR a1, vI p2, vI p3] [(.ref a1), (.int 0)]) s₁ (entryFrame m #[(.int 0), (.ref a1), (.int p2), (.int p3)] 4) := by
  intro t k
  refine pre0 t ?_
  refine XS.iloadN X0.here hx rfl (hb hby d1_0) rfl ?_
  refine XS.aloadN X0.here hx rfl (hb hby d1_1) rfl rfl ?_
  exact k
 obtain ⟨cq63, kq63, q63a, q63b, q63c⟩ := isOf hZ e0 E_a1
 obtain ⟨_, _, ⟨T63, L63, k63, n63⟩, -, X63, ⟨Lc63, hQ63, l63, y63, z63⟩, st63⟩ := X0.virtualBack hx (y := (⟨"java/lang/String", "length", "()I"⟩ : MethodName)) (z := (⟨"java/lang/String", "length", "()I"⟩ : MethodName)) hown (mvT hZ (own_w hw 12 rfl)) (mvT hZ (own_w hw 13 rfl)) (notFace_of_selects (args := #[]) (mvT hZ (own_w hw 15 rfl))) (mvT hZ (own_w hw 15 rfl)) (mvT hZ (own_w hw 14 rfl)) (by decide) (StrChars.Road.lenW (W := 1) hZ (own_wordsLen hw) (kI := 4) (own_w hw 2 rfl) E_a1 F_value_a1 F_coder_a1 B_t (own_hcdG hp) (own_up _ hp) S_COMPACT_STRINGS P5 h4 (by decide) (by decide)) q63a q63c (g := (mkF m 2 #[vI 0, vR a1, vI p2, vI p3] [(.ref a1), (.int 0)])) rfl (by rw [hml]; rfl) (Steps.refl _) (argsL := []) (rest := [(.int 0)]) (lenOf pd_2 rfl) rfl (by show 2 * 0 + _ ≤ _; exact Nat.le_of_eq rfl) (hb hby d1_2) (fun _ _ => ⟨rfl, e0, (by decide : 0 + 0 ≤ _), (by decide : 0 + 0 ≤ _)⟩)
 dsimp only [Pt.U, Pt.locs, Pt.cells, Pt.slots] at X63 l63 y63 z63 st63 hQ63
 subst l63 y63 z63
 obtain ⟨rfl, rfl, e63⟩ := hQ63
 try rw [List.append_nil] at X63
 have pre64 : own_P p e below T63 (mkF m 5 #[vI 0, vR a1, vI p2, vI p3] [(.int (Int32.ofNat (cs : List Int32).length)), (.int 0)]) s₁ (entryFrame m #[(.int 0), (.ref a1), (.int p2), (.int p3)] 4) := fun t k => pre62 t (st63.trans k)
 by_cases hc5_65 : (0 : Int32) < (Int32.ofNat (cs : List Int32).length)
 ·
  have pre66 : ∀ t, Steps p.tables e below (T63.setTop (mkF m 15 #[vI 0, vR a1, vI p2, vI p3] [(.int (((p3.toUInt32 >>> ((2 : Int32) &&& 31).toUInt32).toInt32) &&& (1 : Int32)))])) t → Steps p.tables e below (s₁.setTop (entryFrame m #[(.int 0), (.ref a1), (.int p2), (.int p3)] 4)) t := by
   intro t k
   refine pre64 t ?_
   refine XS.icmpNo X63.here hx rfl (hb hby d1_5) rfl (tlt hc5_65).2.1 ?_
   refine XS.iloadN X63.here hx rfl (hb hby d1_8) rfl ?_
   refine XS.iconst X63.here hx rfl (hb hby d1_9) ?_
   refine XS.iloadN X63.here hx rfl (hb hby d1_10) rfl ?_
   refine XS.iadd X63.here hx rfl (hb hby d1_11) rfl ?_
   refine XS.iushr X63.here hx rfl (hb hby d1_12) rfl ?_
   refine XS.iconst X63.here hx rfl (hb hby d1_13) ?_
   refine XS.iand X63.here hx rfl (hb hby d1_14) rfl ?_
   exact k
  by_cases hc15_67 : (((p3.toUInt32 >>> ((2 : Int32) &&& 31).toUInt32).toInt32) &&& (1 : Int32)) = (0 : Int32)
  ·
   have pre68 : ∀ t, Steps p.tables e below (T63.setTop (mkF m 20 #[vI 0, vR a1, vI p2, vI p3] [(.int 0), (.ref a1)])) t → Steps p.tables e below (s₁.setTop (entryFrame m #[(.int 0), (.ref a1), (.int p2), (.int p3)] 4)) t := by
    intro t k
    refine pre66 t ?_
    refine XS.ifNo X63.here hx rfl (hb hby d1_15) rfl ((if0 _ _).trans (teq hc15_67).2) ?_
    refine XS.aloadN X63.here hx rfl (hb hby d1_18) rfl rfl ?_
    refine XS.iloadN X63.here hx rfl (hb hby d1_19) rfl ?_
    exact k
   obtain ⟨cq69, kq69, q69a, q69b, q69c⟩ := isOf hZ e63 E_a1
   obtain ⟨_, _, ⟨T69, L69, k69, n69⟩, -, X69, ⟨Lc69, hQ69, l69, y69, z69⟩, st69⟩ := X63.virtualBack hx (y := (⟨"java/lang/String", "charAt", "(I)C"⟩ : MethodName)) (z := (⟨"java/lang/String", "charAt", "(I)C"⟩ : MethodName)) hown (mvT hZ (own_w hw 94 rfl)) (mvT hZ (own_w hw 95 rfl)) (notFace_of_selects (args := #[]) (mvT hZ (own_w hw 97 rfl))) (mvT hZ (own_w hw 97 rfl)) (mvT hZ (own_w hw 96 rfl)) (by decide) (StrChars.Road.chN (W := 0) hZ (own_wordsChN hw) (kI := 4) (own_w hw 2 rfl) E_a1 F_value_a1 F_coder_a1 B_t (own_hcdG hp) (own_up _ hp) S_COMPACT_STRINGS P5 S_SIOOBE_FORMATTER rG3 h4 (i := 0) (own_ilen h4 (by decide) hc5_65) (j := (0 : Int32)) rfl (by decide) (by decide)) q69a q69c (g := (mkF m 20 #[vI 0, vR a1, vI p2, vI p3] [(.int 0), (.ref a1)])) rfl (by rw [hml]; rfl) (Steps.refl _) (argsL := [(.int 0)]) (rest := []) (lenOf pd_1 rfl) rfl (by show 2 * 0 + _ ≤ _; exact Nat.le_of_eq rfl) (hb hby d1_20) (fun _ _ => ⟨rfl, e63, (by decide : 0 + 0 ≤ _), (by decide : 0 + 0 ≤ _)⟩)
   dsimp only [Pt.U, Pt.locs, Pt.cells, Pt.slots] at X69 l69 y69 z69 st69 hQ69
   subst l69 y69 z69
   obtain ⟨rfl, rfl, e69⟩ := hQ69
   try rw [List.append_nil] at X69
   have pre70 : own_P p e below T69 (mkF m 23 #[vI 0, vR a1, vI p2, vI p3] [(.int ((cs : List Int32).getD 0 0))]) s₁ (entryFrame m #[(.int 0), (.ref a1), (.int p2), (.int p3)] 4) := fun t k => pre68 t (st69.trans k)
   obtain ⟨fs, hr, hrun, hended, hRW⟩ := X69.leaveW (s := s) (vm₁ := s.vm) hS0 (by rw [e69]; first | exact (Nat.zero_le _) | exact Nat.le_refl _) (v := some (.int (nar .char ((cs : List Int32).getD 0 0)))) (fun h => by rw [Bd.returns] at h; cases h)
   refine ⟨_, _, pre70 _ ?_, hrun, hended, _, _, rfl, ?_, ?_, hRW.1, hRW.2.1, hRW.2.2.1, hRW.2.2.2.mono (by decide) (by decide)⟩
   ·
    exact retN X69 hx (t := .char) Bd.returns (by simp) (hb hby d1_23) hr
   ·
    show Q1_0 Z a1 p2 p3 cs gc1 gf3 t k_t h0 n0 _ T69.heap _
    rw [e69]
    exact ⟨by unfold f1_0; rw [if_pos hc5_65, if_pos hc15_67], N0, (Keep.refl h0 [])⟩
   ·
    have q := hCR0.trans (CHv.at X69 hZ hEL hCR0.1)
    rw [hh]
    show CHr _ _ _ _ T69.vm T69.heap
    rw [e69]
    exact q
  ·
   have pre71 : ∀ t, Steps p.tables e below (T63.setTop (mkF m 25 #[vI 0, vR a1, vI p2, vI p3] [(.int p2)])) t → Steps p.tables e below (s₁.setTop (entryFrame m #[(.int 0), (.ref a1), (.int p2), (.int p3)] 4)) t := by
    intro t k
    refine pre66 t ?_
    refine XS.ifYes X63.here hx rfl (pc0 := 15) (pc' := 24) rfl (hb hby d1_15) rfl ((if0 _ _).trans (feq hc15_67).2) (by decide) (by decide) ?_
    refine XS.iloadN X63.here hx rfl (hb hby d1_24) rfl ?_
    exact k
   obtain ⟨_, _, ⟨T72, L72, k72, n72⟩, -, X72r, hS72r, hg72r, ⟨Lc72, hQ72, l72, y72, z72, hC72⟩, st72⟩ := callSS X63 hx (y := (⟨"com/example/timely_exodus/timelyexodus/plan/LpSolverFromNamePinLaw", "pick", "(I)C"⟩ : MethodName)) hown (mvT hZ (own_w hw 25 rfl)) (mvT hZ (own_w hw 26 rfl)) (mvT hZ (own_w hw 10 rfl)) (mvT hZ (own_w hw 27 rfl)) (by decide) (backOfSH (W := 0) (rm4 l Z ar0 hw [] p2 gc1 gf3 h0 n0 Z0 P5 rG3 S_COMPACT_STRINGS S_SIOOBE_FORMATTER) hZ (own_w hw 27 rfl) (own_w hw 10 rfl) (by decide) (by decide) hEL hCR0.1) (g := (mkF m 25 #[vI 0, vR a1, vI p2, vI p3] [(.int p2)])) rfl (by rw [hml]; rfl) (argsL := [(.int p2)]) (rest := []) (lenOf pd_1 rfl) rfl (by show 2 * 0 + _ ≤ _; exact Nat.le_of_eq rfl) (hb hby d1_25) (fun _ _ => ⟨rfl, e63, (by decide : 0 + 2 ≤ _), (by decide : 0 + 28 ≤ _)⟩)
   dsimp only [Pt.U, Pt.locs, Pt.cells, Pt.slots] at X72r hS72r hg72r l72 y72 z72 st72 hQ72 hC72
   subst l72 y72 z72
   obtain ⟨X72, hS72, hZ72, ho72⟩ := rebS (s := s) (vm0 := s.vm) (n1 := T63.heap.size) hS0 (by rw [e63]; first | exact (Nat.zero_le _) | exact Nat.le_refl _) X72r hS72r hg72r hZ hown
   obtain ⟨h72, e72⟩ : ∃ h, T72.heap = h := ⟨_, rfl⟩
   rw [e72] at hQ72
   obtain ⟨rfl, N72q, K72q⟩ := hQ72
   have N72 := Fr.app N0 N72q
   have Z72 : n0 ≤ h72.size := Nat.le_trans Z0 K72q.1
   have K72 : Keep h0 h72 [] := (Keep.refl h0 []).trans K72q (fun x hx => absurd hx List.not_mem_nil)
   have Sf73 : Sta Z h72 "java/lang/String" "COMPACT_STRINGS" "Z" (.int gc1) := own_sta_keep0 S_COMPACT_STRINGS K72q
   have Sf74 : Sta Z h72 "jdk/internal/util/Preconditions" "SIOOBE_FORMATTER" "Ljava/util/function/BiFunction;" gf3 := own_sta_keep0 S_SIOOBE_FORMATTER K72q
   have Ef75 : Exa Z h72 a1 "java/lang/String" := (E_a1).keep K72q
   have Ff76 : Fld Z h72 a1 "java/lang/String" "value" "[B" (.ref t) := (F_value_a1).keep K72q List.not_mem_nil
   have Ff77 : Fld Z h72 a1 "java/lang/String" "coder" "B" (.int 0) := (F_coder_a1).keep K72q List.not_mem_nil
   have Vf78 : Arv Z h72 t k_t .byte (Int32.ofNat cs.length) (((cs : List Int32).map (fun c => c.toInt8.toInt32)).map Value.int) (.int 0) := (B_t).keep K72q List.not_mem_nil
   rw [e72] at hC72
   have CR72 := hCR0.trans hC72
   have hk72 : T72.heap.size ≤ h72.size := by rw [e72]; exact Nat.le_refl _
   have pre79 : own_P p e below T72 (mkF m 28 #[vI 0, vR a1, vI p2, vI p3] [(.int (f4 p2))]) s₁ (entryFrame m #[(.int 0), (.ref a1), (.int p2), (.int p3)] 4) := fun t k => pre71 t (st72.trans k)
   obtain ⟨fs, hr, hrun, hended, hRW⟩ := X72.leaveW (s := s) (vm₁ := T72.vm) hS72 (by rw [e72]; first | exact hk72 | exact Nat.le_refl _) (v := some (.int (nar .char (f4 p2)))) (fun h => by rw [Bd.returns] at h; cases h)
   refine ⟨_, _, pre79 _ ?_, hrun, hended, _, _, rfl, ?_, ?_, hRW.1, hRW.2.1, hRW.2.2.1, hRW.2.2.2.mono (by decide) (by decide)⟩
   ·
    exact retN X72 hx (t := .char) Bd.returns (by simp) (hb hby d1_28) hr
   ·
    show Q1_0 Z a1 p2 p3 cs gc1 gf3 t k_t h0 n0 _ T72.heap _
    rw [e72]
    exact ⟨by unfold f1_0; rw [if_pos hc5_65, if_neg hc15_67], N72, K72⟩
   ·
    have q := CR72.trans (CHv.at X72 hZ72 hEL CR72.1)
    rw [hh]
    show CHr _ _ _ _ T72.vm T72.heap
    rw [e72]
    exact q
 ·
  have pre80 : ∀ t, Steps p.tables e below (T63.setTop (mkF m 25 #[vI 0, vR a1, vI p2, vI p3] [(.int p2)])) t → Steps p.tables e below (s₁.setTop (entryFrame m #[(.int 0), (.ref a1), (.int p2), (.int p3)] 4)) t := by
   intro t k
   refine pre64 t ?_
   refine XS.icmpYes X63.here hx rfl (pc0 := 5) (pc' := 24) rfl (hb hby d1_5) rfl (flt hc5_65).2.1 (by decide) (by decide) ?_
   refine XS.iloadN X63.here hx rfl (hb hby d1_24) rfl ?_
   exact k
  obtain ⟨_, _, ⟨T81, L81, k81, n81⟩, -, X81r, hS81r, hg81r, ⟨Lc81, hQ81, l81, y81, z81, hC81⟩, st81⟩ := callSS X63 hx (y := (⟨"com/example/timely_exodus/timelyexodus/plan/LpSolverFromNamePinLaw", "pick", "(I)C"⟩ : MethodName)) hown (mvT hZ (own_w hw 25 rfl)) (mvT hZ (own_w hw 26 rfl)) (mvT hZ (own_w hw 10 rfl)) (mvT hZ (own_w hw 27 rfl)) (by decide) (backOfSH (W := 0) (rm4 l Z ar0 hw [] p2 gc1 gf3 h0 n0 Z0 P5 rG3 S_COMPACT_STRINGS S_SIOOBE_FORMATTER) hZ (own_w hw 27 rfl) (own_w hw 10 rfl) (by decide) (by decide) hEL hCR0.1) (g := (mkF m 25 #[vI 0, vR a1, vI p2, vI p3] [(.int p2)])) rfl (by rw [hml]; rfl) (argsL := [(.int p2)]) (rest := []) (lenOf pd_1 rfl) rfl (by show 2 * 0 + _ ≤ _; exact Nat.le_of_eq rfl) (hb hby d1_25) (fun _ _ => ⟨rfl, e63, (by decide : 0 + 2 ≤ _), (by decide : 0 + 28 ≤ _)⟩)
  dsimp only [Pt.U, Pt.locs, Pt.cells, Pt.slots] at X81r hS81r hg81r l81 y81 z81 st81 hQ81 hC81
  subst l81 y81 z81
  obtain ⟨X81, hS81, hZ81, ho81⟩ := rebS (s := s) (vm0 := s.vm) (n1 := T63.heap.size) hS0 (by rw [e63]; first | exact (Nat.zero_le _) | exact Nat.le_refl _) X81r hS81r hg81r hZ hown
  obtain ⟨h81, e81⟩ : ∃ h, T81.heap = h := ⟨_, rfl⟩
  rw [e81] at hQ81
  obtain ⟨rfl, N81q, K81q⟩ := hQ81
  have N81 := Fr.app N0 N81q
  have Z81 : n0 ≤ h81.size := Nat.le_trans Z0 K81q.1
  have K81 : Keep h0 h81 [] := (Keep.refl h0 []).trans K81q (fun x hx => absurd hx List.not_mem_nil)
  have Sf82 : Sta Z h81 "java/lang/String" "COMPACT_STRINGS" "Z" (.int gc1) := own_sta_keep0 S_COMPACT_STRINGS K81q
  have Sf83 : Sta Z h81 "jdk/internal/util/Preconditions" "SIOOBE_FORMATTER" "Ljava/util/function/BiFunction;" gf3 := own_sta_keep0 S_SIOOBE_FORMATTER K81q
  have Ef84 : Exa Z h81 a1 "java/lang/String" := (E_a1).keep K81q
  have Ff85 : Fld Z h81 a1 "java/lang/String" "value" "[B" (.ref t) := (F_value_a1).keep K81q List.not_mem_nil
  have Ff86 : Fld Z h81 a1 "java/lang/String" "coder" "B" (.int 0) := (F_coder_a1).keep K81q List.not_mem_nil
  have Vf87 : Arv Z h81 t k_t .byte (Int32.ofNat cs.length) (((cs : List Int32).map (fun c => c.toInt8.toInt32)).map Value.int) (.int 0) := (B_t).keep K81q List.not_mem_nil
  rw [e81] at hC81
  have CR81 := hCR0.trans hC81
  have hk81 : T81.heap.size ≤ h81.size := by rw [e81]; exact Nat.le_refl _
  have pre88 : own_P p e below T81 (mkF m 28 #[vI 0, vR a1, vI p2, vI p3] [(.int (f4 p2))]) s₁ (entryFrame m #[(.int 0), (.ref a1), (.int p2), (.int p3)] 4) := fun t k => pre80 t (st81.trans k)
  obtain ⟨fs, hr, hrun, hended, hRW⟩ := X81.leaveW (s := s) (vm₁ := T81.vm) hS81 (by rw [e81]; first | exact hk81 | exact Nat.le_refl _) (v := some (.int (nar .char (f4 p2)))) (fun h => by rw [Bd.returns] at h; cases h)
  refine ⟨_, _, pre88 _ ?_, hrun, hended, _, _, rfl, ?_, ?_, hRW.1, hRW.2.1, hRW.2.2.1, hRW.2.2.2.mono (by decide) (by decide)⟩
  ·
   exact retN X81 hx (t := .char) Bd.returns (by simp) (hb hby d1_28) hr
  ·
   show Q1_0 Z a1 p2 p3 cs gc1 gf3 t k_t h0 n0 _ T81.heap _
   rw [e81]
   exact ⟨by unfold f1_0; rw [if_neg hc5_65], N81, K81⟩
  ·
   have q := CR81.trans (CHv.at X81 hZ81 hEL CR81.1)
   rw [hh]
   show CHr _ _ _ _ T81.vm T81.heap
   rw [e81]
   exact q
theorem own_Rf1_0 {p2 : Int32} {p3 : Int32} {cs : List Int32} (h : ∀ x ∈ cs, own_R x) : own_R (f1_0 p2 p3 cs) := by
 unfold f1_0; repeat' split
 all_goals first | (rw [own_nar (own_RgetD h _)]; exact own_RgetD h _) | (rw [own_nar (own_Rpick _)]; exact own_Rpick _)
theorem ef_1_1 (m : MethodId) (x0 : Int32) (x1 : Addr) (x2 : Int32) (x3 : Int32) : entryFrame m #[(.int x0), (.ref x1), (.int x2), (.int x3)] 4 = mkF m 0 #[vI x0, vR x1, vI x2, vI x3] [] := by first | (simp [entryFrame, mkF, argsToLocals, Value.category]; done) | rfl
def f1_1 (p2 : Int32) (p3 : Int32) (cs : List Int32) : Int32 := (if (1 : Int32) < (Int32.ofNat (cs : List Int32).length) then (if (((p3.toUInt32 >>> ((3 : Int32) &&& 31).toUInt32).toInt32) &&& (1 : Int32)) = (0 : Int32) then (nar .char ((cs : List Int32).getD 1 0)) else (nar .char (f4 p2))) else (nar .char (f4 p2)))
def Q1_1 (Z : State) (a1 : Addr) (p2 : Int32) (p3 : Int32) (cs : List Int32) (gc1 : Int32) (gf3 : Value) (t : Addr) (k_t : ClassId) (h0 : Heap) (n0 : Nat) (v : Option Value) (h : Heap) (L : List Loc) : Prop := v = some (.int (f1_1 p2 p3 cs)) ∧ Fr n0 L ∧ Keep h0 h []
set_option maxRecDepth 65536 in
set_option maxHeartbeats 40000000 in
theorem rm1_1 (l : Launch) (Z : State) (ar0 : Array Value) (hw : ∀ d ∈ tables_1, d.before ar0 Z = true) (ws : List Jvm.Cond) (a1 : Addr) (p2 : Int32) (p3 : Int32) (cs : List Int32) (gc1 : Int32) (gf3 : Value) (t : Addr) (k_t : ClassId) (h0 : Heap) (n0 : Nat) (Z0 : n0 ≤ h0.size) (P5 : ¬ (gc1 = (0 : Int32))) (rG3 : gf3.isRef = true) (hp : ∀ x ∈ cs, ¬ x < 0 ∧ ¬ (255 : Int32) < x) (h4 : cs.length ≤ 4000) (S_COMPACT_STRINGS : Sta Z h0 "java/lang/String" "COMPACT_STRINGS" "Z" (.int gc1)) (S_SIOOBE_FORMATTER : Sta Z h0 "jdk/internal/util/Preconditions" "SIOOBE_FORMATTER" "Ljava/util/function/BiFunction;" gf3) (E_a1 : Exa Z h0 a1 "java/lang/String") (F_value_a1 : Fld Z h0 a1 "java/lang/String" "value" "[B" (.ref t)) (F_coder_a1 : Fld Z h0 a1 "java/lang/String" "coder" "B" (.int 0)) (B_t : Arv Z h0 t k_t .byte (Int32.ofNat cs.length) (((cs : List Int32).map (fun c => c.toInt8.toInt32)).map Value.int) (.int 0)) :
  MetFree l (⟨"com/example/timely_exodus/timelyexodus/plan/LpSolverFromNamePinLaw", "ch", "(ILjava/lang/String;II)C"⟩ : MethodName) (head1 (Jvm.Cond.code (⟨"com/example/timely_exodus/timelyexodus/plan/LpSolverFromNamePinLaw", "ch", "(ILjava/lang/String;II)C"⟩ : MethodName) method_4_code 4 (some .char) :: ws) ({ frames := 5, cells := 2, slots := 28, locals := 66 } : Room)) (fun a U => a = #[(.int 1), (.ref a1), (.int p2), (.int p3)] ∧ Z.Warmed39 U.vm ∧ U.heap = h0 ∧ CHv Z own_EL U.vm h0) (fun _ _ _ _ _ => True) (fun _ U o U' => ∃ v L, o = .returned v ∧ Q1_1 Z a1 p2 p3 cs gc1 gf3 t k_t h0 n0 v U'.heap L ∧ CHr Z own_EL U.vm U.heap U'.vm U'.heap ∧ ReturnedEndW U o U' L ({ frames := 5, cells := 2, slots := 28, locals := 66 } : Room).cells ({ frames := 5, cells := 2, slots := 28, locals := 66 } : Room).slots) := by
 refine MetFree.of_bodySF (plainFor_of_name pn_1) hisR ?_
 intro p e s m args below meth c s₁ Bd hml0 hP hK
 obtain ⟨rfl, hZ, hh, hC0⟩ := hP
 have hx := Bd.exec
 have hby := Bd.bytes
 have hml : c.maxLocals = 4 := hml0
 have hown : s.vm.findClass "com/example/timely_exodus/timelyexodus/plan/LpSolverFromNamePinLaw" = some m.cls := by have q := findClass_of_methodNamed Bd.named; exact q
 have hnm := (name_of_methodNamed Bd.named Bd.method).1
 have X0 : Stand p l e ({ frames := 5, cells := 2, slots := 28, locals := 66 } : Room) s m #[(.int 1), (.ref a1), (.int p2), (.int p3)] below meth c s₁ [] 0 0 := Stand.of_body Bd
 have e0 : s₁.heap = h0 := by rw [← hh, Bd.state]; rfl
 have N0 := Fr.nil n0
 have hS0 : s.Since s.vm 0 := own_since0 s
 have hCR0 : CHr Z own_EL s.vm h0 s.vm h0 := CHr.refl hC0
 have hEL : EW Z ar0 own_EL := own_EW hw
 have pre0 : own_P p e below s₁ (mkF m 0 #[vI 1, vR a1, vI p2, vI p3] []) s₁ (entryFrame m #[(.int 1), (.ref a1), (.int p2), (.int p3)] 4) := fun t k => castTop (ef_1_1 m (1 : Int32) a1 p2 p3) k
 have pre89 : own_P p e below s₁ (mkF m 2 #[vI 1, vR a1, vI p2, vI p3] [(.ref a1), (.int 1)]) s₁ (entryFrame m #[(.int 1), (.ref a1), (.int p2), (.int p3)] 4) := by
  intro t k
  refine pre0 t ?_
  refine XS.iloadN X0.here hx rfl (hb hby d1_0) rfl ?_
  refine XS.aloadN X0.here hx rfl (hb hby d1_1) rfl rfl ?_
  exact k
 obtain ⟨cq90, kq90, q90a, q90b, q90c⟩ := isOf hZ e0 E_a1
 obtain ⟨_, _, ⟨T90, L90, k90, n90⟩, -, X90, ⟨Lc90, hQ90, l90, y90, z90⟩, st90⟩ := X0.virtualBack hx (y := (⟨"java/lang/String", "length", "()I"⟩ : MethodName)) (z := (⟨"java/lang/String", "length", "()I"⟩ : MethodName)) hown (mvT hZ (own_w hw 12 rfl)) (mvT hZ (own_w hw 13 rfl)) (notFace_of_selects (args := #[]) (mvT hZ (own_w hw 15 rfl))) (mvT hZ (own_w hw 15 rfl)) (mvT hZ (own_w hw 14 rfl)) (by decide) (StrChars.Road.lenW (W := 1) hZ (own_wordsLen hw) (kI := 4) (own_w hw 2 rfl) E_a1 F_value_a1 F_coder_a1 B_t (own_hcdG hp) (own_up _ hp) S_COMPACT_STRINGS P5 h4 (by decide) (by decide)) q90a q90c (g := (mkF m 2 #[vI 1, vR a1, vI p2, vI p3] [(.ref a1), (.int 1)])) rfl (by rw [hml]; rfl) (Steps.refl _) (argsL := []) (rest := [(.int 1)]) (lenOf pd_2 rfl) rfl (by show 2 * 0 + _ ≤ _; exact Nat.le_of_eq rfl) (hb hby d1_2) (fun _ _ => ⟨rfl, e0, (by decide : 0 + 0 ≤ _), (by decide : 0 + 0 ≤ _)⟩)
 dsimp only [Pt.U, Pt.locs, Pt.cells, Pt.slots] at X90 l90 y90 z90 st90 hQ90
 subst l90 y90 z90
 obtain ⟨rfl, rfl, e90⟩ := hQ90
 try rw [List.append_nil] at X90
 have pre91 : own_P p e below T90 (mkF m 5 #[vI 1, vR a1, vI p2, vI p3] [(.int (Int32.ofNat (cs : List Int32).length)), (.int 1)]) s₁ (entryFrame m #[(.int 1), (.ref a1), (.int p2), (.int p3)] 4) := fun t k => pre89 t (st90.trans k)
 by_cases hc5_92 : (1 : Int32) < (Int32.ofNat (cs : List Int32).length)
 ·
  have pre93 : ∀ t, Steps p.tables e below (T90.setTop (mkF m 15 #[vI 1, vR a1, vI p2, vI p3] [(.int (((p3.toUInt32 >>> ((3 : Int32) &&& 31).toUInt32).toInt32) &&& (1 : Int32)))])) t → Steps p.tables e below (s₁.setTop (entryFrame m #[(.int 1), (.ref a1), (.int p2), (.int p3)] 4)) t := by
   intro t k
   refine pre91 t ?_
   refine XS.icmpNo X90.here hx rfl (hb hby d1_5) rfl (tlt hc5_92).2.1 ?_
   refine XS.iloadN X90.here hx rfl (hb hby d1_8) rfl ?_
   refine XS.iconst X90.here hx rfl (hb hby d1_9) ?_
   refine XS.iloadN X90.here hx rfl (hb hby d1_10) rfl ?_
   refine XS.iadd X90.here hx rfl (hb hby d1_11) rfl ?_
   refine XS.iushr X90.here hx rfl (hb hby d1_12) rfl ?_
   refine XS.iconst X90.here hx rfl (hb hby d1_13) ?_
   refine XS.iand X90.here hx rfl (hb hby d1_14) rfl ?_
   exact k
  by_cases hc15_94 : (((p3.toUInt32 >>> ((3 : Int32) &&& 31).toUInt32).toInt32) &&& (1 : Int32)) = (0 : Int32)
  ·
   have pre95 : ∀ t, Steps p.tables e below (T90.setTop (mkF m 20 #[vI 1, vR a1, vI p2, vI p3] [(.int 1), (.ref a1)])) t → Steps p.tables e below (s₁.setTop (entryFrame m #[(.int 1), (.ref a1), (.int p2), (.int p3)] 4)) t := by
    intro t k
    refine pre93 t ?_
    refine XS.ifNo X90.here hx rfl (hb hby d1_15) rfl ((if0 _ _).trans (teq hc15_94).2) ?_
    refine XS.aloadN X90.here hx rfl (hb hby d1_18) rfl rfl ?_
    refine XS.iloadN X90.here hx rfl (hb hby d1_19) rfl ?_
    exact k
   obtain ⟨cq96, kq96, q96a, q96b, q96c⟩ := isOf hZ e90 E_a1
   obtain ⟨_, _, ⟨T96, L96, k96, n96⟩, -, X96, ⟨Lc96, hQ96, l96, y96, z96⟩, st96⟩ := X90.virtualBack hx (y := (⟨"java/lang/String", "charAt", "(I)C"⟩ : MethodName)) (z := (⟨"java/lang/String", "charAt", "(I)C"⟩ : MethodName)) hown (mvT hZ (own_w hw 94 rfl)) (mvT hZ (own_w hw 95 rfl)) (notFace_of_selects (args := #[]) (mvT hZ (own_w hw 97 rfl))) (mvT hZ (own_w hw 97 rfl)) (mvT hZ (own_w hw 96 rfl)) (by decide) (StrChars.Road.chN (W := 0) hZ (own_wordsChN hw) (kI := 4) (own_w hw 2 rfl) E_a1 F_value_a1 F_coder_a1 B_t (own_hcdG hp) (own_up _ hp) S_COMPACT_STRINGS P5 S_SIOOBE_FORMATTER rG3 h4 (i := 1) (own_ilen h4 (by decide) hc5_92) (j := (1 : Int32)) rfl (by decide) (by decide)) q96a q96c (g := (mkF m 20 #[vI 1, vR a1, vI p2, vI p3] [(.int 1), (.ref a1)])) rfl (by rw [hml]; rfl) (Steps.refl _) (argsL := [(.int 1)]) (rest := []) (lenOf pd_1 rfl) rfl (by show 2 * 0 + _ ≤ _; exact Nat.le_of_eq rfl) (hb hby d1_20) (fun _ _ => ⟨rfl, e90, (by decide : 0 + 0 ≤ _), (by decide : 0 + 0 ≤ _)⟩)
   dsimp only [Pt.U, Pt.locs, Pt.cells, Pt.slots] at X96 l96 y96 z96 st96 hQ96
   subst l96 y96 z96
   obtain ⟨rfl, rfl, e96⟩ := hQ96
   try rw [List.append_nil] at X96
   have pre97 : own_P p e below T96 (mkF m 23 #[vI 1, vR a1, vI p2, vI p3] [(.int ((cs : List Int32).getD 1 0))]) s₁ (entryFrame m #[(.int 1), (.ref a1), (.int p2), (.int p3)] 4) := fun t k => pre95 t (st96.trans k)
   obtain ⟨fs, hr, hrun, hended, hRW⟩ := X96.leaveW (s := s) (vm₁ := s.vm) hS0 (by rw [e96]; first | exact (Nat.zero_le _) | exact Nat.le_refl _) (v := some (.int (nar .char ((cs : List Int32).getD 1 0)))) (fun h => by rw [Bd.returns] at h; cases h)
   refine ⟨_, _, pre97 _ ?_, hrun, hended, _, _, rfl, ?_, ?_, hRW.1, hRW.2.1, hRW.2.2.1, hRW.2.2.2.mono (by decide) (by decide)⟩
   ·
    exact retN X96 hx (t := .char) Bd.returns (by simp) (hb hby d1_23) hr
   ·
    show Q1_1 Z a1 p2 p3 cs gc1 gf3 t k_t h0 n0 _ T96.heap _
    rw [e96]
    exact ⟨by unfold f1_1; rw [if_pos hc5_92, if_pos hc15_94], N0, (Keep.refl h0 [])⟩
   ·
    have q := hCR0.trans (CHv.at X96 hZ hEL hCR0.1)
    rw [hh]
    show CHr _ _ _ _ T96.vm T96.heap
    rw [e96]
    exact q
  ·
   have pre98 : ∀ t, Steps p.tables e below (T90.setTop (mkF m 25 #[vI 1, vR a1, vI p2, vI p3] [(.int p2)])) t → Steps p.tables e below (s₁.setTop (entryFrame m #[(.int 1), (.ref a1), (.int p2), (.int p3)] 4)) t := by
    intro t k
    refine pre93 t ?_
    refine XS.ifYes X90.here hx rfl (pc0 := 15) (pc' := 24) rfl (hb hby d1_15) rfl ((if0 _ _).trans (feq hc15_94).2) (by decide) (by decide) ?_
    refine XS.iloadN X90.here hx rfl (hb hby d1_24) rfl ?_
    exact k
   obtain ⟨_, _, ⟨T99, L99, k99, n99⟩, -, X99r, hS99r, hg99r, ⟨Lc99, hQ99, l99, y99, z99, hC99⟩, st99⟩ := callSS X90 hx (y := (⟨"com/example/timely_exodus/timelyexodus/plan/LpSolverFromNamePinLaw", "pick", "(I)C"⟩ : MethodName)) hown (mvT hZ (own_w hw 25 rfl)) (mvT hZ (own_w hw 26 rfl)) (mvT hZ (own_w hw 10 rfl)) (mvT hZ (own_w hw 27 rfl)) (by decide) (backOfSH (W := 0) (rm4 l Z ar0 hw [] p2 gc1 gf3 h0 n0 Z0 P5 rG3 S_COMPACT_STRINGS S_SIOOBE_FORMATTER) hZ (own_w hw 27 rfl) (own_w hw 10 rfl) (by decide) (by decide) hEL hCR0.1) (g := (mkF m 25 #[vI 1, vR a1, vI p2, vI p3] [(.int p2)])) rfl (by rw [hml]; rfl) (argsL := [(.int p2)]) (rest := []) (lenOf pd_1 rfl) rfl (by show 2 * 0 + _ ≤ _; exact Nat.le_of_eq rfl) (hb hby d1_25) (fun _ _ => ⟨rfl, e90, (by decide : 0 + 2 ≤ _), (by decide : 0 + 28 ≤ _)⟩)
   dsimp only [Pt.U, Pt.locs, Pt.cells, Pt.slots] at X99r hS99r hg99r l99 y99 z99 st99 hQ99 hC99
   subst l99 y99 z99
   obtain ⟨X99, hS99, hZ99, ho99⟩ := rebS (s := s) (vm0 := s.vm) (n1 := T90.heap.size) hS0 (by rw [e90]; first | exact (Nat.zero_le _) | exact Nat.le_refl _) X99r hS99r hg99r hZ hown
   obtain ⟨h99, e99⟩ : ∃ h, T99.heap = h := ⟨_, rfl⟩
   rw [e99] at hQ99
   obtain ⟨rfl, N99q, K99q⟩ := hQ99
   have N99 := Fr.app N0 N99q
   have Z99 : n0 ≤ h99.size := Nat.le_trans Z0 K99q.1
   have K99 : Keep h0 h99 [] := (Keep.refl h0 []).trans K99q (fun x hx => absurd hx List.not_mem_nil)
   have Sf100 : Sta Z h99 "java/lang/String" "COMPACT_STRINGS" "Z" (.int gc1) := own_sta_keep0 S_COMPACT_STRINGS K99q
   have Sf101 : Sta Z h99 "jdk/internal/util/Preconditions" "SIOOBE_FORMATTER" "Ljava/util/function/BiFunction;" gf3 := own_sta_keep0 S_SIOOBE_FORMATTER K99q
   have Ef102 : Exa Z h99 a1 "java/lang/String" := (E_a1).keep K99q
   have Ff103 : Fld Z h99 a1 "java/lang/String" "value" "[B" (.ref t) := (F_value_a1).keep K99q List.not_mem_nil
   have Ff104 : Fld Z h99 a1 "java/lang/String" "coder" "B" (.int 0) := (F_coder_a1).keep K99q List.not_mem_nil
   have Vf105 : Arv Z h99 t k_t .byte (Int32.ofNat cs.length) (((cs : List Int32).map (fun c => c.toInt8.toInt32)).map Value.int) (.int 0) := (B_t).keep K99q List.not_mem_nil
   rw [e99] at hC99
   have CR99 := hCR0.trans hC99
   have hk99 : T99.heap.size ≤ h99.size := by rw [e99]; exact Nat.le_refl _
   have pre106 : own_P p e below T99 (mkF m 28 #[vI 1, vR a1, vI p2, vI p3] [(.int (f4 p2))]) s₁ (entryFrame m #[(.int 1), (.ref a1), (.int p2), (.int p3)] 4) := fun t k => pre98 t (st99.trans k)
   obtain ⟨fs, hr, hrun, hended, hRW⟩ := X99.leaveW (s := s) (vm₁ := T99.vm) hS99 (by rw [e99]; first | exact hk99 | exact Nat.le_refl _) (v := some (.int (nar .char (f4 p2)))) (fun h => by rw [Bd.returns] at h; cases h)
   refine ⟨_, _, pre106 _ ?_, hrun, hended, _, _, rfl, ?_, ?_, hRW.1, hRW.2.1, hRW.2.2.1, hRW.2.2.2.mono (by decide) (by decide)⟩
   ·
    exact retN X99 hx (t := .char) Bd.returns (by simp) (hb hby d1_28) hr
   ·
    show Q1_1 Z a1 p2 p3 cs gc1 gf3 t k_t h0 n0 _ T99.heap _
    rw [e99]
    exact ⟨by unfold f1_1; rw [if_pos hc5_92, if_neg hc15_94], N99, K99⟩
   ·
    have q := CR99.trans (CHv.at X99 hZ99 hEL CR99.1)
    rw [hh]
    show CHr _ _ _ _ T99.vm T99.heap
    rw [e99]
    exact q
 ·
  have pre107 : ∀ t, Steps p.tables e below (T90.setTop (mkF m 25 #[vI 1, vR a1, vI p2, vI p3] [(.int p2)])) t → Steps p.tables e below (s₁.setTop (entryFrame m #[(.int 1), (.ref a1), (.int p2), (.int p3)] 4)) t := by
   intro t k
   refine pre91 t ?_
   refine XS.icmpYes X90.here hx rfl (pc0 := 5) (pc' := 24) rfl (hb hby d1_5) rfl (flt hc5_92).2.1 (by decide) (by decide) ?_
   refine XS.iloadN X90.here hx rfl (hb hby d1_24) rfl ?_
   exact k
  obtain ⟨_, _, ⟨T108, L108, k108, n108⟩, -, X108r, hS108r, hg108r, ⟨Lc108, hQ108, l108, y108, z108, hC108⟩, st108⟩ := callSS X90 hx (y := (⟨"com/example/timely_exodus/timelyexodus/plan/LpSolverFromNamePinLaw", "pick", "(I)C"⟩ : MethodName)) hown (mvT hZ (own_w hw 25 rfl)) (mvT hZ (own_w hw 26 rfl)) (mvT hZ (own_w hw 10 rfl)) (mvT hZ (own_w hw 27 rfl)) (by decide) (backOfSH (W := 0) (rm4 l Z ar0 hw [] p2 gc1 gf3 h0 n0 Z0 P5 rG3 S_COMPACT_STRINGS S_SIOOBE_FORMATTER) hZ (own_w hw 27 rfl) (own_w hw 10 rfl) (by decide) (by decide) hEL hCR0.1) (g := (mkF m 25 #[vI 1, vR a1, vI p2, vI p3] [(.int p2)])) rfl (by rw [hml]; rfl) (argsL := [(.int p2)]) (rest := []) (lenOf pd_1 rfl) rfl (by show 2 * 0 + _ ≤ _; exact Nat.le_of_eq rfl) (hb hby d1_25) (fun _ _ => ⟨rfl, e90, (by decide : 0 + 2 ≤ _), (by decide : 0 + 28 ≤ _)⟩)
  dsimp only [Pt.U, Pt.locs, Pt.cells, Pt.slots] at X108r hS108r hg108r l108 y108 z108 st108 hQ108 hC108
  subst l108 y108 z108
  obtain ⟨X108, hS108, hZ108, ho108⟩ := rebS (s := s) (vm0 := s.vm) (n1 := T90.heap.size) hS0 (by rw [e90]; first | exact (Nat.zero_le _) | exact Nat.le_refl _) X108r hS108r hg108r hZ hown
  obtain ⟨h108, e108⟩ : ∃ h, T108.heap = h := ⟨_, rfl⟩
  rw [e108] at hQ108
  obtain ⟨rfl, N108q, K108q⟩ := hQ108
  have N108 := Fr.app N0 N108q
  have Z108 : n0 ≤ h108.size := Nat.le_trans Z0 K108q.1
  have K108 : Keep h0 h108 [] := (Keep.refl h0 []).trans K108q (fun x hx => absurd hx List.not_mem_nil)
  have Sf109 : Sta Z h108 "java/lang/String" "COMPACT_STRINGS" "Z" (.int gc1) := own_sta_keep0 S_COMPACT_STRINGS K108q
  have Sf110 : Sta Z h108 "jdk/internal/util/Preconditions" "SIOOBE_FORMATTER" "Ljava/util/function/BiFunction;" gf3 := own_sta_keep0 S_SIOOBE_FORMATTER K108q
  have Ef111 : Exa Z h108 a1 "java/lang/String" := (E_a1).keep K108q
  have Ff112 : Fld Z h108 a1 "java/lang/String" "value" "[B" (.ref t) := (F_value_a1).keep K108q List.not_mem_nil
  have Ff113 : Fld Z h108 a1 "java/lang/String" "coder" "B" (.int 0) := (F_coder_a1).keep K108q List.not_mem_nil
  have Vf114 : Arv Z h108 t k_t .byte (Int32.ofNat cs.length) (((cs : List Int32).map (fun c => c.toInt8.toInt32)).map Value.int) (.int 0) := (B_t).keep K108q List.not_mem_nil
  rw [e108] at hC108
  have CR108 := hCR0.trans hC108
  have hk108 : T108.heap.size ≤ h108.size := by rw [e108]; exact Nat.le_refl _
  have pre115 : own_P p e below T108 (mkF m 28 #[vI 1, vR a1, vI p2, vI p3] [(.int (f4 p2))]) s₁ (entryFrame m #[(.int 1), (.ref a1), (.int p2), (.int p3)] 4) := fun t k => pre107 t (st108.trans k)
  obtain ⟨fs, hr, hrun, hended, hRW⟩ := X108.leaveW (s := s) (vm₁ := T108.vm) hS108 (by rw [e108]; first | exact hk108 | exact Nat.le_refl _) (v := some (.int (nar .char (f4 p2)))) (fun h => by rw [Bd.returns] at h; cases h)
  refine ⟨_, _, pre115 _ ?_, hrun, hended, _, _, rfl, ?_, ?_, hRW.1, hRW.2.1, hRW.2.2.1, hRW.2.2.2.mono (by decide) (by decide)⟩
  ·
   exact retN X108 hx (t := .char) Bd.returns (by simp) (hb hby d1_28) hr
  ·
   show Q1_1 Z a1 p2 p3 cs gc1 gf3 t k_t h0 n0 _ T108.heap _
   rw [e108]
   exact ⟨by unfold f1_1; rw [if_neg hc5_92], N108, K108⟩
  ·
   have q := CR108.trans (CHv.at X108 hZ108 hEL CR108.1)
   rw [hh]
   show CHr _ _ _ _ T108.vm T108.heap
   rw [e108]
   exact q
theorem own_Rf1_1 {p2 : Int32} {p3 : Int32} {cs : List Int32} (h : ∀ x ∈ cs, own_R x) : own_R (f1_1 p2 p3 cs) := by
 unfold f1_1; repeat' split
 all_goals first | (rw [own_nar (own_RgetD h _)]; exact own_RgetD h _) | (rw [own_nar (own_Rpick _)]; exact own_Rpick _)
theorem ef_1_2 (m : MethodId) (x0 : Int32) (x1 : Addr) (x2 : Int32) (x3 : Int32) : entryFrame m #[(.int x0), (.ref x1), (.int x2), (.int x3)] 4 = mkF m 0 #[vI x0, vR x1, vI x2, vI x3] [] := by first | (simp [entryFrame, mkF, argsToLocals, Value.category]; done) | rfl
def f1_2 (p2 : Int32) (p3 : Int32) (cs : List Int32) : Int32 := (if (2 : Int32) < (Int32.ofNat (cs : List Int32).length) then (if (((p3.toUInt32 >>> ((4 : Int32) &&& 31).toUInt32).toInt32) &&& (1 : Int32)) = (0 : Int32) then (nar .char ((cs : List Int32).getD 2 0)) else (nar .char (f4 p2))) else (nar .char (f4 p2)))
def Q1_2 (Z : State) (a1 : Addr) (p2 : Int32) (p3 : Int32) (cs : List Int32) (gc1 : Int32) (gf3 : Value) (t : Addr) (k_t : ClassId) (h0 : Heap) (n0 : Nat) (v : Option Value) (h : Heap) (L : List Loc) : Prop := v = some (.int (f1_2 p2 p3 cs)) ∧ Fr n0 L ∧ Keep h0 h []
set_option maxRecDepth 65536 in
set_option maxHeartbeats 40000000 in
theorem rm1_2 (l : Launch) (Z : State) (ar0 : Array Value) (hw : ∀ d ∈ tables_1, d.before ar0 Z = true) (ws : List Jvm.Cond) (a1 : Addr) (p2 : Int32) (p3 : Int32) (cs : List Int32) (gc1 : Int32) (gf3 : Value) (t : Addr) (k_t : ClassId) (h0 : Heap) (n0 : Nat) (Z0 : n0 ≤ h0.size) (P5 : ¬ (gc1 = (0 : Int32))) (rG3 : gf3.isRef = true) (hp : ∀ x ∈ cs, ¬ x < 0 ∧ ¬ (255 : Int32) < x) (h4 : cs.length ≤ 4000) (S_COMPACT_STRINGS : Sta Z h0 "java/lang/String" "COMPACT_STRINGS" "Z" (.int gc1)) (S_SIOOBE_FORMATTER : Sta Z h0 "jdk/internal/util/Preconditions" "SIOOBE_FORMATTER" "Ljava/util/function/BiFunction;" gf3) (E_a1 : Exa Z h0 a1 "java/lang/String") (F_value_a1 : Fld Z h0 a1 "java/lang/String" "value" "[B" (.ref t)) (F_coder_a1 : Fld Z h0 a1 "java/lang/String" "coder" "B" (.int 0)) (B_t : Arv Z h0 t k_t .byte (Int32.ofNat cs.length) (((cs : List Int32).map (fun c => c.toInt8.toInt32)).map Value.int) (.int 0)) :
  MetFree l (⟨"com/example/timely_exodus/timelyexodus/plan/LpSolverFromNamePinLaw", "ch", "(ILjava/lang/String;II)C"⟩ : MethodName) (head1 (Jvm.Cond.code (⟨"com/example/timely_exodus/timelyexodus/plan/LpSolverFromNamePinLaw", "ch", "(ILjava/lang/String;II)C"⟩ : MethodName) method_4_code 4 (some .char) :: ws) ({ frames := 5, cells := 2, slots := 28, locals := 66 } : Room)) (fun a U => a = #[(.int 2), (.ref a1), (.int p2), (.int p3)] ∧ Z.Warmed39 U.vm ∧ U.heap = h0 ∧ CHv Z own_EL U.vm h0) (fun _ _ _ _ _ => True) (fun _ U o U' => ∃ v L, o = .returned v ∧ Q1_2 Z a1 p2 p3 cs gc1 gf3 t k_t h0 n0 v U'.heap L ∧ CHr Z own_EL U.vm U.heap U'.vm U'.heap ∧ ReturnedEndW U o U' L ({ frames := 5, cells := 2, slots := 28, locals := 66 } : Room).cells ({ frames := 5, cells := 2, slots := 28, locals := 66 } : Room).slots) := by
 refine MetFree.of_bodySF (plainFor_of_name pn_1) hisR ?_
 intro p e s m args below meth c s₁ Bd hml0 hP hK
 obtain ⟨rfl, hZ, hh, hC0⟩ := hP
 have hx := Bd.exec
 have hby := Bd.bytes
 have hml : c.maxLocals = 4 := hml0
 have hown : s.vm.findClass "com/example/timely_exodus/timelyexodus/plan/LpSolverFromNamePinLaw" = some m.cls := by have q := findClass_of_methodNamed Bd.named; exact q
 have hnm := (name_of_methodNamed Bd.named Bd.method).1
 have X0 : Stand p l e ({ frames := 5, cells := 2, slots := 28, locals := 66 } : Room) s m #[(.int 2), (.ref a1), (.int p2), (.int p3)] below meth c s₁ [] 0 0 := Stand.of_body Bd
 have e0 : s₁.heap = h0 := by rw [← hh, Bd.state]; rfl
 have N0 := Fr.nil n0
 have hS0 : s.Since s.vm 0 := own_since0 s
 have hCR0 : CHr Z own_EL s.vm h0 s.vm h0 := CHr.refl hC0
 have hEL : EW Z ar0 own_EL := own_EW hw
 have pre0 : own_P p e below s₁ (mkF m 0 #[vI 2, vR a1, vI p2, vI p3] []) s₁ (entryFrame m #[(.int 2), (.ref a1), (.int p2), (.int p3)] 4) := fun t k => castTop (ef_1_2 m (2 : Int32) a1 p2 p3) k
 have pre116 : own_P p e below s₁ (mkF m 2 #[vI 2, vR a1, vI p2, vI p3] [(.ref a1), (.int 2)]) s₁ (entryFrame m #[(.int 2), (.ref a1), (.int p2), (.int p3)] 4) := by
  intro t k
  refine pre0 t ?_
  refine XS.iloadN X0.here hx rfl (hb hby d1_0) rfl ?_
  refine XS.aloadN X0.here hx rfl (hb hby d1_1) rfl rfl ?_
  exact k
 obtain ⟨cq117, kq117, q117a, q117b, q117c⟩ := isOf hZ e0 E_a1
 obtain ⟨_, _, ⟨T117, L117, k117, n117⟩, -, X117, ⟨Lc117, hQ117, l117, y117, z117⟩, st117⟩ := X0.virtualBack hx (y := (⟨"java/lang/String", "length", "()I"⟩ : MethodName)) (z := (⟨"java/lang/String", "length", "()I"⟩ : MethodName)) hown (mvT hZ (own_w hw 12 rfl)) (mvT hZ (own_w hw 13 rfl)) (notFace_of_selects (args := #[]) (mvT hZ (own_w hw 15 rfl))) (mvT hZ (own_w hw 15 rfl)) (mvT hZ (own_w hw 14 rfl)) (by decide) (StrChars.Road.lenW (W := 1) hZ (own_wordsLen hw) (kI := 4) (own_w hw 2 rfl) E_a1 F_value_a1 F_coder_a1 B_t (own_hcdG hp) (own_up _ hp) S_COMPACT_STRINGS P5 h4 (by decide) (by decide)) q117a q117c (g := (mkF m 2 #[vI 2, vR a1, vI p2, vI p3] [(.ref a1), (.int 2)])) rfl (by rw [hml]; rfl) (Steps.refl _) (argsL := []) (rest := [(.int 2)]) (lenOf pd_2 rfl) rfl (by show 2 * 0 + _ ≤ _; exact Nat.le_of_eq rfl) (hb hby d1_2) (fun _ _ => ⟨rfl, e0, (by decide : 0 + 0 ≤ _), (by decide : 0 + 0 ≤ _)⟩)
 dsimp only [Pt.U, Pt.locs, Pt.cells, Pt.slots] at X117 l117 y117 z117 st117 hQ117
 subst l117 y117 z117
 obtain ⟨rfl, rfl, e117⟩ := hQ117
 try rw [List.append_nil] at X117
 have pre118 : own_P p e below T117 (mkF m 5 #[vI 2, vR a1, vI p2, vI p3] [(.int (Int32.ofNat (cs : List Int32).length)), (.int 2)]) s₁ (entryFrame m #[(.int 2), (.ref a1), (.int p2), (.int p3)] 4) := fun t k => pre116 t (st117.trans k)
 by_cases hc5_119 : (2 : Int32) < (Int32.ofNat (cs : List Int32).length)
 ·
  have pre120 : ∀ t, Steps p.tables e below (T117.setTop (mkF m 15 #[vI 2, vR a1, vI p2, vI p3] [(.int (((p3.toUInt32 >>> ((4 : Int32) &&& 31).toUInt32).toInt32) &&& (1 : Int32)))])) t → Steps p.tables e below (s₁.setTop (entryFrame m #[(.int 2), (.ref a1), (.int p2), (.int p3)] 4)) t := by
   intro t k
   refine pre118 t ?_
   refine XS.icmpNo X117.here hx rfl (hb hby d1_5) rfl (tlt hc5_119).2.1 ?_
   refine XS.iloadN X117.here hx rfl (hb hby d1_8) rfl ?_
   refine XS.iconst X117.here hx rfl (hb hby d1_9) ?_
   refine XS.iloadN X117.here hx rfl (hb hby d1_10) rfl ?_
   refine XS.iadd X117.here hx rfl (hb hby d1_11) rfl ?_
   refine XS.iushr X117.here hx rfl (hb hby d1_12) rfl ?_
   refine XS.iconst X117.here hx rfl (hb hby d1_13) ?_
   refine XS.iand X117.here hx rfl (hb hby d1_14) rfl ?_
   exact k
  by_cases hc15_121 : (((p3.toUInt32 >>> ((4 : Int32) &&& 31).toUInt32).toInt32) &&& (1 : Int32)) = (0 : Int32)
  ·
   have pre122 : ∀ t, Steps p.tables e below (T117.setTop (mkF m 20 #[vI 2, vR a1, vI p2, vI p3] [(.int 2), (.ref a1)])) t → Steps p.tables e below (s₁.setTop (entryFrame m #[(.int 2), (.ref a1), (.int p2), (.int p3)] 4)) t := by
    intro t k
    refine pre120 t ?_
    refine XS.ifNo X117.here hx rfl (hb hby d1_15) rfl ((if0 _ _).trans (teq hc15_121).2) ?_
    refine XS.aloadN X117.here hx rfl (hb hby d1_18) rfl rfl ?_
    refine XS.iloadN X117.here hx rfl (hb hby d1_19) rfl ?_
    exact k
   obtain ⟨cq123, kq123, q123a, q123b, q123c⟩ := isOf hZ e117 E_a1
   obtain ⟨_, _, ⟨T123, L123, k123, n123⟩, -, X123, ⟨Lc123, hQ123, l123, y123, z123⟩, st123⟩ := X117.virtualBack hx (y := (⟨"java/lang/String", "charAt", "(I)C"⟩ : MethodName)) (z := (⟨"java/lang/String", "charAt", "(I)C"⟩ : MethodName)) hown (mvT hZ (own_w hw 94 rfl)) (mvT hZ (own_w hw 95 rfl)) (notFace_of_selects (args := #[]) (mvT hZ (own_w hw 97 rfl))) (mvT hZ (own_w hw 97 rfl)) (mvT hZ (own_w hw 96 rfl)) (by decide) (StrChars.Road.chN (W := 0) hZ (own_wordsChN hw) (kI := 4) (own_w hw 2 rfl) E_a1 F_value_a1 F_coder_a1 B_t (own_hcdG hp) (own_up _ hp) S_COMPACT_STRINGS P5 S_SIOOBE_FORMATTER rG3 h4 (i := 2) (own_ilen h4 (by decide) hc5_119) (j := (2 : Int32)) rfl (by decide) (by decide)) q123a q123c (g := (mkF m 20 #[vI 2, vR a1, vI p2, vI p3] [(.int 2), (.ref a1)])) rfl (by rw [hml]; rfl) (Steps.refl _) (argsL := [(.int 2)]) (rest := []) (lenOf pd_1 rfl) rfl (by show 2 * 0 + _ ≤ _; exact Nat.le_of_eq rfl) (hb hby d1_20) (fun _ _ => ⟨rfl, e117, (by decide : 0 + 0 ≤ _), (by decide : 0 + 0 ≤ _)⟩)
   dsimp only [Pt.U, Pt.locs, Pt.cells, Pt.slots] at X123 l123 y123 z123 st123 hQ123
   subst l123 y123 z123
   obtain ⟨rfl, rfl, e123⟩ := hQ123
   try rw [List.append_nil] at X123
   have pre124 : own_P p e below T123 (mkF m 23 #[vI 2, vR a1, vI p2, vI p3] [(.int ((cs : List Int32).getD 2 0))]) s₁ (entryFrame m #[(.int 2), (.ref a1), (.int p2), (.int p3)] 4) := fun t k => pre122 t (st123.trans k)
   obtain ⟨fs, hr, hrun, hended, hRW⟩ := X123.leaveW (s := s) (vm₁ := s.vm) hS0 (by rw [e123]; first | exact (Nat.zero_le _) | exact Nat.le_refl _) (v := some (.int (nar .char ((cs : List Int32).getD 2 0)))) (fun h => by rw [Bd.returns] at h; cases h)
   refine ⟨_, _, pre124 _ ?_, hrun, hended, _, _, rfl, ?_, ?_, hRW.1, hRW.2.1, hRW.2.2.1, hRW.2.2.2.mono (by decide) (by decide)⟩
   ·
    exact retN X123 hx (t := .char) Bd.returns (by simp) (hb hby d1_23) hr
   ·
    show Q1_2 Z a1 p2 p3 cs gc1 gf3 t k_t h0 n0 _ T123.heap _
    rw [e123]
    exact ⟨by unfold f1_2; rw [if_pos hc5_119, if_pos hc15_121], N0, (Keep.refl h0 [])⟩
   ·
    have q := hCR0.trans (CHv.at X123 hZ hEL hCR0.1)
    rw [hh]
    show CHr _ _ _ _ T123.vm T123.heap
    rw [e123]
    exact q
  ·
   have pre125 : ∀ t, Steps p.tables e below (T117.setTop (mkF m 25 #[vI 2, vR a1, vI p2, vI p3] [(.int p2)])) t → Steps p.tables e below (s₁.setTop (entryFrame m #[(.int 2), (.ref a1), (.int p2), (.int p3)] 4)) t := by
    intro t k
    refine pre120 t ?_
    refine XS.ifYes X117.here hx rfl (pc0 := 15) (pc' := 24) rfl (hb hby d1_15) rfl ((if0 _ _).trans (feq hc15_121).2) (by decide) (by decide) ?_
    refine XS.iloadN X117.here hx rfl (hb hby d1_24) rfl ?_
    exact k
   obtain ⟨_, _, ⟨T126, L126, k126, n126⟩, -, X126r, hS126r, hg126r, ⟨Lc126, hQ126, l126, y126, z126, hC126⟩, st126⟩ := callSS X117 hx (y := (⟨"com/example/timely_exodus/timelyexodus/plan/LpSolverFromNamePinLaw", "pick", "(I)C"⟩ : MethodName)) hown (mvT hZ (own_w hw 25 rfl)) (mvT hZ (own_w hw 26 rfl)) (mvT hZ (own_w hw 10 rfl)) (mvT hZ (own_w hw 27 rfl)) (by decide) (backOfSH (W := 0) (rm4 l Z ar0 hw [] p2 gc1 gf3 h0 n0 Z0 P5 rG3 S_COMPACT_STRINGS S_SIOOBE_FORMATTER) hZ (own_w hw 27 rfl) (own_w hw 10 rfl) (by decide) (by decide) hEL hCR0.1) (g := (mkF m 25 #[vI 2, vR a1, vI p2, vI p3] [(.int p2)])) rfl (by rw [hml]; rfl) (argsL := [(.int p2)]) (rest := []) (lenOf pd_1 rfl) rfl (by show 2 * 0 + _ ≤ _; exact Nat.le_of_eq rfl) (hb hby d1_25) (fun _ _ => ⟨rfl, e117, (by decide : 0 + 2 ≤ _), (by decide : 0 + 28 ≤ _)⟩)
   dsimp only [Pt.U, Pt.locs, Pt.cells, Pt.slots] at X126r hS126r hg126r l126 y126 z126 st126 hQ126 hC126
   subst l126 y126 z126
   obtain ⟨X126, hS126, hZ126, ho126⟩ := rebS (s := s) (vm0 := s.vm) (n1 := T117.heap.size) hS0 (by rw [e117]; first | exact (Nat.zero_le _) | exact Nat.le_refl _) X126r hS126r hg126r hZ hown
   obtain ⟨h126, e126⟩ : ∃ h, T126.heap = h := ⟨_, rfl⟩
   rw [e126] at hQ126
   obtain ⟨rfl, N126q, K126q⟩ := hQ126
   have N126 := Fr.app N0 N126q
   have Z126 : n0 ≤ h126.size := Nat.le_trans Z0 K126q.1
   have K126 : Keep h0 h126 [] := (Keep.refl h0 []).trans K126q (fun x hx => absurd hx List.not_mem_nil)
   have Sf127 : Sta Z h126 "java/lang/String" "COMPACT_STRINGS" "Z" (.int gc1) := own_sta_keep0 S_COMPACT_STRINGS K126q
   have Sf128 : Sta Z h126 "jdk/internal/util/Preconditions" "SIOOBE_FORMATTER" "Ljava/util/function/BiFunction;" gf3 := own_sta_keep0 S_SIOOBE_FORMATTER K126q
   have Ef129 : Exa Z h126 a1 "java/lang/String" := (E_a1).keep K126q
   have Ff130 : Fld Z h126 a1 "java/lang/String" "value" "[B" (.ref t) := (F_value_a1).keep K126q List.not_mem_nil
   have Ff131 : Fld Z h126 a1 "java/lang/String" "coder" "B" (.int 0) := (F_coder_a1).keep K126q List.not_mem_nil
   have Vf132 : Arv Z h126 t k_t .byte (Int32.ofNat cs.length) (((cs : List Int32).map (fun c => c.toInt8.toInt32)).map Value.int) (.int 0) := (B_t).keep K126q List.not_mem_nil
   rw [e126] at hC126
   have CR126 := hCR0.trans hC126
   have hk126 : T126.heap.size ≤ h126.size := by rw [e126]; exact Nat.le_refl _
   have pre133 : own_P p e below T126 (mkF m 28 #[vI 2, vR a1, vI p2, vI p3] [(.int (f4 p2))]) s₁ (entryFrame m #[(.int 2), (.ref a1), (.int p2), (.int p3)] 4) := fun t k => pre125 t (st126.trans k)
   obtain ⟨fs, hr, hrun, hended, hRW⟩ := X126.leaveW (s := s) (vm₁ := T126.vm) hS126 (by rw [e126]; first | exact hk126 | exact Nat.le_refl _) (v := some (.int (nar .char (f4 p2)))) (fun h => by rw [Bd.returns] at h; cases h)
   refine ⟨_, _, pre133 _ ?_, hrun, hended, _, _, rfl, ?_, ?_, hRW.1, hRW.2.1, hRW.2.2.1, hRW.2.2.2.mono (by decide) (by decide)⟩
   ·
    exact retN X126 hx (t := .char) Bd.returns (by simp) (hb hby d1_28) hr
   ·
    show Q1_2 Z a1 p2 p3 cs gc1 gf3 t k_t h0 n0 _ T126.heap _
    rw [e126]
    exact ⟨by unfold f1_2; rw [if_pos hc5_119, if_neg hc15_121], N126, K126⟩
   ·
    have q := CR126.trans (CHv.at X126 hZ126 hEL CR126.1)
    rw [hh]
    show CHr _ _ _ _ T126.vm T126.heap
    rw [e126]
    exact q
 ·
  have pre134 : ∀ t, Steps p.tables e below (T117.setTop (mkF m 25 #[vI 2, vR a1, vI p2, vI p3] [(.int p2)])) t → Steps p.tables e below (s₁.setTop (entryFrame m #[(.int 2), (.ref a1), (.int p2), (.int p3)] 4)) t := by
   intro t k
   refine pre118 t ?_
   refine XS.icmpYes X117.here hx rfl (pc0 := 5) (pc' := 24) rfl (hb hby d1_5) rfl (flt hc5_119).2.1 (by decide) (by decide) ?_
   refine XS.iloadN X117.here hx rfl (hb hby d1_24) rfl ?_
   exact k
  obtain ⟨_, _, ⟨T135, L135, k135, n135⟩, -, X135r, hS135r, hg135r, ⟨Lc135, hQ135, l135, y135, z135, hC135⟩, st135⟩ := callSS X117 hx (y := (⟨"com/example/timely_exodus/timelyexodus/plan/LpSolverFromNamePinLaw", "pick", "(I)C"⟩ : MethodName)) hown (mvT hZ (own_w hw 25 rfl)) (mvT hZ (own_w hw 26 rfl)) (mvT hZ (own_w hw 10 rfl)) (mvT hZ (own_w hw 27 rfl)) (by decide) (backOfSH (W := 0) (rm4 l Z ar0 hw [] p2 gc1 gf3 h0 n0 Z0 P5 rG3 S_COMPACT_STRINGS S_SIOOBE_FORMATTER) hZ (own_w hw 27 rfl) (own_w hw 10 rfl) (by decide) (by decide) hEL hCR0.1) (g := (mkF m 25 #[vI 2, vR a1, vI p2, vI p3] [(.int p2)])) rfl (by rw [hml]; rfl) (argsL := [(.int p2)]) (rest := []) (lenOf pd_1 rfl) rfl (by show 2 * 0 + _ ≤ _; exact Nat.le_of_eq rfl) (hb hby d1_25) (fun _ _ => ⟨rfl, e117, (by decide : 0 + 2 ≤ _), (by decide : 0 + 28 ≤ _)⟩)
  dsimp only [Pt.U, Pt.locs, Pt.cells, Pt.slots] at X135r hS135r hg135r l135 y135 z135 st135 hQ135 hC135
  subst l135 y135 z135
  obtain ⟨X135, hS135, hZ135, ho135⟩ := rebS (s := s) (vm0 := s.vm) (n1 := T117.heap.size) hS0 (by rw [e117]; first | exact (Nat.zero_le _) | exact Nat.le_refl _) X135r hS135r hg135r hZ hown
  obtain ⟨h135, e135⟩ : ∃ h, T135.heap = h := ⟨_, rfl⟩
  rw [e135] at hQ135
  obtain ⟨rfl, N135q, K135q⟩ := hQ135
  have N135 := Fr.app N0 N135q
  have Z135 : n0 ≤ h135.size := Nat.le_trans Z0 K135q.1
  have K135 : Keep h0 h135 [] := (Keep.refl h0 []).trans K135q (fun x hx => absurd hx List.not_mem_nil)
  have Sf136 : Sta Z h135 "java/lang/String" "COMPACT_STRINGS" "Z" (.int gc1) := own_sta_keep0 S_COMPACT_STRINGS K135q
  have Sf137 : Sta Z h135 "jdk/internal/util/Preconditions" "SIOOBE_FORMATTER" "Ljava/util/function/BiFunction;" gf3 := own_sta_keep0 S_SIOOBE_FORMATTER K135q
  have Ef138 : Exa Z h135 a1 "java/lang/String" := (E_a1).keep K135q
  have Ff139 : Fld Z h135 a1 "java/lang/String" "value" "[B" (.ref t) := (F_value_a1).keep K135q List.not_mem_nil
  have Ff140 : Fld Z h135 a1 "java/lang/String" "coder" "B" (.int 0) := (F_coder_a1).keep K135q List.not_mem_nil
  have Vf141 : Arv Z h135 t k_t .byte (Int32.ofNat cs.length) (((cs : List Int32).map (fun c => c.toInt8.toInt32)).map Value.int) (.int 0) := (B_t).keep K135q List.not_mem_nil
  rw [e135] at hC135
  have CR135 := hCR0.trans hC135
  have hk135 : T135.heap.size ≤ h135.size := by rw [e135]; exact Nat.le_refl _
  have pre142 : own_P p e below T135 (mkF m 28 #[vI 2, vR a1, vI p2, vI p3] [(.int (f4 p2))]) s₁ (entryFrame m #[(.int 2), (.ref a1), (.int p2), (.int p3)] 4) := fun t k => pre134 t (st135.trans k)
  obtain ⟨fs, hr, hrun, hended, hRW⟩ := X135.leaveW (s := s) (vm₁ := T135.vm) hS135 (by rw [e135]; first | exact hk135 | exact Nat.le_refl _) (v := some (.int (nar .char (f4 p2)))) (fun h => by rw [Bd.returns] at h; cases h)
  refine ⟨_, _, pre142 _ ?_, hrun, hended, _, _, rfl, ?_, ?_, hRW.1, hRW.2.1, hRW.2.2.1, hRW.2.2.2.mono (by decide) (by decide)⟩
  ·
   exact retN X135 hx (t := .char) Bd.returns (by simp) (hb hby d1_28) hr
  ·
   show Q1_2 Z a1 p2 p3 cs gc1 gf3 t k_t h0 n0 _ T135.heap _
   rw [e135]
   exact ⟨by unfold f1_2; rw [if_neg hc5_119], N135, K135⟩
  ·
   have q := CR135.trans (CHv.at X135 hZ135 hEL CR135.1)
   rw [hh]
   show CHr _ _ _ _ T135.vm T135.heap
   rw [e135]
   exact q
theorem own_Rf1_2 {p2 : Int32} {p3 : Int32} {cs : List Int32} (h : ∀ x ∈ cs, own_R x) : own_R (f1_2 p2 p3 cs) := by
 unfold f1_2; repeat' split
 all_goals first | (rw [own_nar (own_RgetD h _)]; exact own_RgetD h _) | (rw [own_nar (own_Rpick _)]; exact own_Rpick _)
theorem ef_1_3 (m : MethodId) (x0 : Int32) (x1 : Addr) (x2 : Int32) (x3 : Int32) : entryFrame m #[(.int x0), (.ref x1), (.int x2), (.int x3)] 4 = mkF m 0 #[vI x0, vR x1, vI x2, vI x3] [] := by first | (simp [entryFrame, mkF, argsToLocals, Value.category]; done) | rfl
def f1_3 (p2 : Int32) (p3 : Int32) (cs : List Int32) : Int32 := (if (3 : Int32) < (Int32.ofNat (cs : List Int32).length) then (if (((p3.toUInt32 >>> ((5 : Int32) &&& 31).toUInt32).toInt32) &&& (1 : Int32)) = (0 : Int32) then (nar .char ((cs : List Int32).getD 3 0)) else (nar .char (f4 p2))) else (nar .char (f4 p2)))
def Q1_3 (Z : State) (a1 : Addr) (p2 : Int32) (p3 : Int32) (cs : List Int32) (gc1 : Int32) (gf3 : Value) (t : Addr) (k_t : ClassId) (h0 : Heap) (n0 : Nat) (v : Option Value) (h : Heap) (L : List Loc) : Prop := v = some (.int (f1_3 p2 p3 cs)) ∧ Fr n0 L ∧ Keep h0 h []
set_option maxRecDepth 65536 in
set_option maxHeartbeats 40000000 in
theorem rm1_3 (l : Launch) (Z : State) (ar0 : Array Value) (hw : ∀ d ∈ tables_1, d.before ar0 Z = true) (ws : List Jvm.Cond) (a1 : Addr) (p2 : Int32) (p3 : Int32) (cs : List Int32) (gc1 : Int32) (gf3 : Value) (t : Addr) (k_t : ClassId) (h0 : Heap) (n0 : Nat) (Z0 : n0 ≤ h0.size) (P5 : ¬ (gc1 = (0 : Int32))) (rG3 : gf3.isRef = true) (hp : ∀ x ∈ cs, ¬ x < 0 ∧ ¬ (255 : Int32) < x) (h4 : cs.length ≤ 4000) (S_COMPACT_STRINGS : Sta Z h0 "java/lang/String" "COMPACT_STRINGS" "Z" (.int gc1)) (S_SIOOBE_FORMATTER : Sta Z h0 "jdk/internal/util/Preconditions" "SIOOBE_FORMATTER" "Ljava/util/function/BiFunction;" gf3) (E_a1 : Exa Z h0 a1 "java/lang/String") (F_value_a1 : Fld Z h0 a1 "java/lang/String" "value" "[B" (.ref t)) (F_coder_a1 : Fld Z h0 a1 "java/lang/String" "coder" "B" (.int 0)) (B_t : Arv Z h0 t k_t .byte (Int32.ofNat cs.length) (((cs : List Int32).map (fun c => c.toInt8.toInt32)).map Value.int) (.int 0)) :
  MetFree l (⟨"com/example/timely_exodus/timelyexodus/plan/LpSolverFromNamePinLaw", "ch", "(ILjava/lang/String;II)C"⟩ : MethodName) (head1 (Jvm.Cond.code (⟨"com/example/timely_exodus/timelyexodus/plan/LpSolverFromNamePinLaw", "ch", "(ILjava/lang/String;II)C"⟩ : MethodName) method_4_code 4 (some .char) :: ws) ({ frames := 5, cells := 2, slots := 28, locals := 66 } : Room)) (fun a U => a = #[(.int 3), (.ref a1), (.int p2), (.int p3)] ∧ Z.Warmed39 U.vm ∧ U.heap = h0 ∧ CHv Z own_EL U.vm h0) (fun _ _ _ _ _ => True) (fun _ U o U' => ∃ v L, o = .returned v ∧ Q1_3 Z a1 p2 p3 cs gc1 gf3 t k_t h0 n0 v U'.heap L ∧ CHr Z own_EL U.vm U.heap U'.vm U'.heap ∧ ReturnedEndW U o U' L ({ frames := 5, cells := 2, slots := 28, locals := 66 } : Room).cells ({ frames := 5, cells := 2, slots := 28, locals := 66 } : Room).slots) := by
 refine MetFree.of_bodySF (plainFor_of_name pn_1) hisR ?_
 intro p e s m args below meth c s₁ Bd hml0 hP hK
 obtain ⟨rfl, hZ, hh, hC0⟩ := hP
 have hx := Bd.exec
 have hby := Bd.bytes
 have hml : c.maxLocals = 4 := hml0
 have hown : s.vm.findClass "com/example/timely_exodus/timelyexodus/plan/LpSolverFromNamePinLaw" = some m.cls := by have q := findClass_of_methodNamed Bd.named; exact q
 have hnm := (name_of_methodNamed Bd.named Bd.method).1
 have X0 : Stand p l e ({ frames := 5, cells := 2, slots := 28, locals := 66 } : Room) s m #[(.int 3), (.ref a1), (.int p2), (.int p3)] below meth c s₁ [] 0 0 := Stand.of_body Bd
 have e0 : s₁.heap = h0 := by rw [← hh, Bd.state]; rfl
 have N0 := Fr.nil n0
 have hS0 : s.Since s.vm 0 := own_since0 s
 have hCR0 : CHr Z own_EL s.vm h0 s.vm h0 := CHr.refl hC0
 have hEL : EW Z ar0 own_EL := own_EW hw
 have pre0 : own_P p e below s₁ (mkF m 0 #[vI 3, vR a1, vI p2, vI p3] []) s₁ (entryFrame m #[(.int 3), (.ref a1), (.int p2), (.int p3)] 4) := fun t k => castTop (ef_1_3 m (3 : Int32) a1 p2 p3) k
 have pre143 : own_P p e below s₁ (mkF m 2 #[vI 3, vR a1, vI p2, vI p3] [(.ref a1), (.int 3)]) s₁ (entryFrame m #[(.int 3), (.ref a1), (.int p2), (.int p3)] 4) := by
  intro t k
  refine pre0 t ?_
  refine XS.iloadN X0.here hx rfl (hb hby d1_0) rfl ?_
  refine XS.aloadN X0.here hx rfl (hb hby d1_1) rfl rfl ?_
  exact k
 obtain ⟨cq144, kq144, q144a, q144b, q144c⟩ := isOf hZ e0 E_a1
 obtain ⟨_, _, ⟨T144, L144, k144, n144⟩, -, X144, ⟨Lc144, hQ144, l144, y144, z144⟩, st144⟩ := X0.virtualBack hx (y := (⟨"java/lang/String", "length", "()I"⟩ : MethodName)) (z := (⟨"java/lang/String", "length", "()I"⟩ : MethodName)) hown (mvT hZ (own_w hw 12 rfl)) (mvT hZ (own_w hw 13 rfl)) (notFace_of_selects (args := #[]) (mvT hZ (own_w hw 15 rfl))) (mvT hZ (own_w hw 15 rfl)) (mvT hZ (own_w hw 14 rfl)) (by decide) (StrChars.Road.lenW (W := 1) hZ (own_wordsLen hw) (kI := 4) (own_w hw 2 rfl) E_a1 F_value_a1 F_coder_a1 B_t (own_hcdG hp) (own_up _ hp) S_COMPACT_STRINGS P5 h4 (by decide) (by decide)) q144a q144c (g := (mkF m 2 #[vI 3, vR a1, vI p2, vI p3] [(.ref a1), (.int 3)])) rfl (by rw [hml]; rfl) (Steps.refl _) (argsL := []) (rest := [(.int 3)]) (lenOf pd_2 rfl) rfl (by show 2 * 0 + _ ≤ _; exact Nat.le_of_eq rfl) (hb hby d1_2) (fun _ _ => ⟨rfl, e0, (by decide : 0 + 0 ≤ _), (by decide : 0 + 0 ≤ _)⟩)
 dsimp only [Pt.U, Pt.locs, Pt.cells, Pt.slots] at X144 l144 y144 z144 st144 hQ144
 subst l144 y144 z144
 obtain ⟨rfl, rfl, e144⟩ := hQ144
 try rw [List.append_nil] at X144
 have pre145 : own_P p e below T144 (mkF m 5 #[vI 3, vR a1, vI p2, vI p3] [(.int (Int32.ofNat (cs : List Int32).length)), (.int 3)]) s₁ (entryFrame m #[(.int 3), (.ref a1), (.int p2), (.int p3)] 4) := fun t k => pre143 t (st144.trans k)
 by_cases hc5_146 : (3 : Int32) < (Int32.ofNat (cs : List Int32).length)
 ·
  have pre147 : ∀ t, Steps p.tables e below (T144.setTop (mkF m 15 #[vI 3, vR a1, vI p2, vI p3] [(.int (((p3.toUInt32 >>> ((5 : Int32) &&& 31).toUInt32).toInt32) &&& (1 : Int32)))])) t → Steps p.tables e below (s₁.setTop (entryFrame m #[(.int 3), (.ref a1), (.int p2), (.int p3)] 4)) t := by
   intro t k
   refine pre145 t ?_
   refine XS.icmpNo X144.here hx rfl (hb hby d1_5) rfl (tlt hc5_146).2.1 ?_
   refine XS.iloadN X144.here hx rfl (hb hby d1_8) rfl ?_
   refine XS.iconst X144.here hx rfl (hb hby d1_9) ?_
   refine XS.iloadN X144.here hx rfl (hb hby d1_10) rfl ?_
   refine XS.iadd X144.here hx rfl (hb hby d1_11) rfl ?_
   refine XS.iushr X144.here hx rfl (hb hby d1_12) rfl ?_
   refine XS.iconst X144.here hx rfl (hb hby d1_13) ?_
   refine XS.iand X144.here hx rfl (hb hby d1_14) rfl ?_
   exact k
  by_cases hc15_148 : (((p3.toUInt32 >>> ((5 : Int32) &&& 31).toUInt32).toInt32) &&& (1 : Int32)) = (0 : Int32)
  ·
   have pre149 : ∀ t, Steps p.tables e below (T144.setTop (mkF m 20 #[vI 3, vR a1, vI p2, vI p3] [(.int 3), (.ref a1)])) t → Steps p.tables e below (s₁.setTop (entryFrame m #[(.int 3), (.ref a1), (.int p2), (.int p3)] 4)) t := by
    intro t k
    refine pre147 t ?_
    refine XS.ifNo X144.here hx rfl (hb hby d1_15) rfl ((if0 _ _).trans (teq hc15_148).2) ?_
    refine XS.aloadN X144.here hx rfl (hb hby d1_18) rfl rfl ?_
    refine XS.iloadN X144.here hx rfl (hb hby d1_19) rfl ?_
    exact k
   obtain ⟨cq150, kq150, q150a, q150b, q150c⟩ := isOf hZ e144 E_a1
   obtain ⟨_, _, ⟨T150, L150, k150, n150⟩, -, X150, ⟨Lc150, hQ150, l150, y150, z150⟩, st150⟩ := X144.virtualBack hx (y := (⟨"java/lang/String", "charAt", "(I)C"⟩ : MethodName)) (z := (⟨"java/lang/String", "charAt", "(I)C"⟩ : MethodName)) hown (mvT hZ (own_w hw 94 rfl)) (mvT hZ (own_w hw 95 rfl)) (notFace_of_selects (args := #[]) (mvT hZ (own_w hw 97 rfl))) (mvT hZ (own_w hw 97 rfl)) (mvT hZ (own_w hw 96 rfl)) (by decide) (StrChars.Road.chN (W := 0) hZ (own_wordsChN hw) (kI := 4) (own_w hw 2 rfl) E_a1 F_value_a1 F_coder_a1 B_t (own_hcdG hp) (own_up _ hp) S_COMPACT_STRINGS P5 S_SIOOBE_FORMATTER rG3 h4 (i := 3) (own_ilen h4 (by decide) hc5_146) (j := (3 : Int32)) rfl (by decide) (by decide)) q150a q150c (g := (mkF m 20 #[vI 3, vR a1, vI p2, vI p3] [(.int 3), (.ref a1)])) rfl (by rw [hml]; rfl) (Steps.refl _) (argsL := [(.int 3)]) (rest := []) (lenOf pd_1 rfl) rfl (by show 2 * 0 + _ ≤ _; exact Nat.le_of_eq rfl) (hb hby d1_20) (fun _ _ => ⟨rfl, e144, (by decide : 0 + 0 ≤ _), (by decide : 0 + 0 ≤ _)⟩)
   dsimp only [Pt.U, Pt.locs, Pt.cells, Pt.slots] at X150 l150 y150 z150 st150 hQ150
   subst l150 y150 z150
   obtain ⟨rfl, rfl, e150⟩ := hQ150
   try rw [List.append_nil] at X150
   have pre151 : own_P p e below T150 (mkF m 23 #[vI 3, vR a1, vI p2, vI p3] [(.int ((cs : List Int32).getD 3 0))]) s₁ (entryFrame m #[(.int 3), (.ref a1), (.int p2), (.int p3)] 4) := fun t k => pre149 t (st150.trans k)
   obtain ⟨fs, hr, hrun, hended, hRW⟩ := X150.leaveW (s := s) (vm₁ := s.vm) hS0 (by rw [e150]; first | exact (Nat.zero_le _) | exact Nat.le_refl _) (v := some (.int (nar .char ((cs : List Int32).getD 3 0)))) (fun h => by rw [Bd.returns] at h; cases h)
   refine ⟨_, _, pre151 _ ?_, hrun, hended, _, _, rfl, ?_, ?_, hRW.1, hRW.2.1, hRW.2.2.1, hRW.2.2.2.mono (by decide) (by decide)⟩
   ·
    exact retN X150 hx (t := .char) Bd.returns (by simp) (hb hby d1_23) hr
   ·
    show Q1_3 Z a1 p2 p3 cs gc1 gf3 t k_t h0 n0 _ T150.heap _
    rw [e150]
    exact ⟨by unfold f1_3; rw [if_pos hc5_146, if_pos hc15_148], N0, (Keep.refl h0 [])⟩
   ·
    have q := hCR0.trans (CHv.at X150 hZ hEL hCR0.1)
    rw [hh]
    show CHr _ _ _ _ T150.vm T150.heap
    rw [e150]
    exact q
  ·
   have pre152 : ∀ t, Steps p.tables e below (T144.setTop (mkF m 25 #[vI 3, vR a1, vI p2, vI p3] [(.int p2)])) t → Steps p.tables e below (s₁.setTop (entryFrame m #[(.int 3), (.ref a1), (.int p2), (.int p3)] 4)) t := by
    intro t k
    refine pre147 t ?_
    refine XS.ifYes X144.here hx rfl (pc0 := 15) (pc' := 24) rfl (hb hby d1_15) rfl ((if0 _ _).trans (feq hc15_148).2) (by decide) (by decide) ?_
    refine XS.iloadN X144.here hx rfl (hb hby d1_24) rfl ?_
    exact k
   obtain ⟨_, _, ⟨T153, L153, k153, n153⟩, -, X153r, hS153r, hg153r, ⟨Lc153, hQ153, l153, y153, z153, hC153⟩, st153⟩ := callSS X144 hx (y := (⟨"com/example/timely_exodus/timelyexodus/plan/LpSolverFromNamePinLaw", "pick", "(I)C"⟩ : MethodName)) hown (mvT hZ (own_w hw 25 rfl)) (mvT hZ (own_w hw 26 rfl)) (mvT hZ (own_w hw 10 rfl)) (mvT hZ (own_w hw 27 rfl)) (by decide) (backOfSH (W := 0) (rm4 l Z ar0 hw [] p2 gc1 gf3 h0 n0 Z0 P5 rG3 S_COMPACT_STRINGS S_SIOOBE_FORMATTER) hZ (own_w hw 27 rfl) (own_w hw 10 rfl) (by decide) (by decide) hEL hCR0.1) (g := (mkF m 25 #[vI 3, vR a1, vI p2, vI p3] [(.int p2)])) rfl (by rw [hml]; rfl) (argsL := [(.int p2)]) (rest := []) (lenOf pd_1 rfl) rfl (by show 2 * 0 + _ ≤ _; exact Nat.le_of_eq rfl) (hb hby d1_25) (fun _ _ => ⟨rfl, e144, (by decide : 0 + 2 ≤ _), (by decide : 0 + 28 ≤ _)⟩)
   dsimp only [Pt.U, Pt.locs, Pt.cells, Pt.slots] at X153r hS153r hg153r l153 y153 z153 st153 hQ153 hC153
   subst l153 y153 z153
   obtain ⟨X153, hS153, hZ153, ho153⟩ := rebS (s := s) (vm0 := s.vm) (n1 := T144.heap.size) hS0 (by rw [e144]; first | exact (Nat.zero_le _) | exact Nat.le_refl _) X153r hS153r hg153r hZ hown
   obtain ⟨h153, e153⟩ : ∃ h, T153.heap = h := ⟨_, rfl⟩
   rw [e153] at hQ153
   obtain ⟨rfl, N153q, K153q⟩ := hQ153
   have N153 := Fr.app N0 N153q
   have Z153 : n0 ≤ h153.size := Nat.le_trans Z0 K153q.1
   have K153 : Keep h0 h153 [] := (Keep.refl h0 []).trans K153q (fun x hx => absurd hx List.not_mem_nil)
   have Sf154 : Sta Z h153 "java/lang/String" "COMPACT_STRINGS" "Z" (.int gc1) := own_sta_keep0 S_COMPACT_STRINGS K153q
   have Sf155 : Sta Z h153 "jdk/internal/util/Preconditions" "SIOOBE_FORMATTER" "Ljava/util/function/BiFunction;" gf3 := own_sta_keep0 S_SIOOBE_FORMATTER K153q
   have Ef156 : Exa Z h153 a1 "java/lang/String" := (E_a1).keep K153q
   have Ff157 : Fld Z h153 a1 "java/lang/String" "value" "[B" (.ref t) := (F_value_a1).keep K153q List.not_mem_nil
   have Ff158 : Fld Z h153 a1 "java/lang/String" "coder" "B" (.int 0) := (F_coder_a1).keep K153q List.not_mem_nil
   have Vf159 : Arv Z h153 t k_t .byte (Int32.ofNat cs.length) (((cs : List Int32).map (fun c => c.toInt8.toInt32)).map Value.int) (.int 0) := (B_t).keep K153q List.not_mem_nil
   rw [e153] at hC153
   have CR153 := hCR0.trans hC153
   have hk153 : T153.heap.size ≤ h153.size := by rw [e153]; exact Nat.le_refl _
   have pre160 : own_P p e below T153 (mkF m 28 #[vI 3, vR a1, vI p2, vI p3] [(.int (f4 p2))]) s₁ (entryFrame m #[(.int 3), (.ref a1), (.int p2), (.int p3)] 4) := fun t k => pre152 t (st153.trans k)
   obtain ⟨fs, hr, hrun, hended, hRW⟩ := X153.leaveW (s := s) (vm₁ := T153.vm) hS153 (by rw [e153]; first | exact hk153 | exact Nat.le_refl _) (v := some (.int (nar .char (f4 p2)))) (fun h => by rw [Bd.returns] at h; cases h)
   refine ⟨_, _, pre160 _ ?_, hrun, hended, _, _, rfl, ?_, ?_, hRW.1, hRW.2.1, hRW.2.2.1, hRW.2.2.2.mono (by decide) (by decide)⟩
   ·
    exact retN X153 hx (t := .char) Bd.returns (by simp) (hb hby d1_28) hr
   ·
    show Q1_3 Z a1 p2 p3 cs gc1 gf3 t k_t h0 n0 _ T153.heap _
    rw [e153]
    exact ⟨by unfold f1_3; rw [if_pos hc5_146, if_neg hc15_148], N153, K153⟩
   ·
    have q := CR153.trans (CHv.at X153 hZ153 hEL CR153.1)
    rw [hh]
    show CHr _ _ _ _ T153.vm T153.heap
    rw [e153]
    exact q
 ·
  have pre161 : ∀ t, Steps p.tables e below (T144.setTop (mkF m 25 #[vI 3, vR a1, vI p2, vI p3] [(.int p2)])) t → Steps p.tables e below (s₁.setTop (entryFrame m #[(.int 3), (.ref a1), (.int p2), (.int p3)] 4)) t := by
   intro t k
   refine pre145 t ?_
   refine XS.icmpYes X144.here hx rfl (pc0 := 5) (pc' := 24) rfl (hb hby d1_5) rfl (flt hc5_146).2.1 (by decide) (by decide) ?_
   refine XS.iloadN X144.here hx rfl (hb hby d1_24) rfl ?_
   exact k
  obtain ⟨_, _, ⟨T162, L162, k162, n162⟩, -, X162r, hS162r, hg162r, ⟨Lc162, hQ162, l162, y162, z162, hC162⟩, st162⟩ := callSS X144 hx (y := (⟨"com/example/timely_exodus/timelyexodus/plan/LpSolverFromNamePinLaw", "pick", "(I)C"⟩ : MethodName)) hown (mvT hZ (own_w hw 25 rfl)) (mvT hZ (own_w hw 26 rfl)) (mvT hZ (own_w hw 10 rfl)) (mvT hZ (own_w hw 27 rfl)) (by decide) (backOfSH (W := 0) (rm4 l Z ar0 hw [] p2 gc1 gf3 h0 n0 Z0 P5 rG3 S_COMPACT_STRINGS S_SIOOBE_FORMATTER) hZ (own_w hw 27 rfl) (own_w hw 10 rfl) (by decide) (by decide) hEL hCR0.1) (g := (mkF m 25 #[vI 3, vR a1, vI p2, vI p3] [(.int p2)])) rfl (by rw [hml]; rfl) (argsL := [(.int p2)]) (rest := []) (lenOf pd_1 rfl) rfl (by show 2 * 0 + _ ≤ _; exact Nat.le_of_eq rfl) (hb hby d1_25) (fun _ _ => ⟨rfl, e144, (by decide : 0 + 2 ≤ _), (by decide : 0 + 28 ≤ _)⟩)
  dsimp only [Pt.U, Pt.locs, Pt.cells, Pt.slots] at X162r hS162r hg162r l162 y162 z162 st162 hQ162 hC162
  subst l162 y162 z162
  obtain ⟨X162, hS162, hZ162, ho162⟩ := rebS (s := s) (vm0 := s.vm) (n1 := T144.heap.size) hS0 (by rw [e144]; first | exact (Nat.zero_le _) | exact Nat.le_refl _) X162r hS162r hg162r hZ hown
  obtain ⟨h162, e162⟩ : ∃ h, T162.heap = h := ⟨_, rfl⟩
  rw [e162] at hQ162
  obtain ⟨rfl, N162q, K162q⟩ := hQ162
  have N162 := Fr.app N0 N162q
  have Z162 : n0 ≤ h162.size := Nat.le_trans Z0 K162q.1
  have K162 : Keep h0 h162 [] := (Keep.refl h0 []).trans K162q (fun x hx => absurd hx List.not_mem_nil)
  have Sf163 : Sta Z h162 "java/lang/String" "COMPACT_STRINGS" "Z" (.int gc1) := own_sta_keep0 S_COMPACT_STRINGS K162q
  have Sf164 : Sta Z h162 "jdk/internal/util/Preconditions" "SIOOBE_FORMATTER" "Ljava/util/function/BiFunction;" gf3 := own_sta_keep0 S_SIOOBE_FORMATTER K162q
  have Ef165 : Exa Z h162 a1 "java/lang/String" := (E_a1).keep K162q
  have Ff166 : Fld Z h162 a1 "java/lang/String" "value" "[B" (.ref t) := (F_value_a1).keep K162q List.not_mem_nil
  have Ff167 : Fld Z h162 a1 "java/lang/String" "coder" "B" (.int 0) := (F_coder_a1).keep K162q List.not_mem_nil
  have Vf168 : Arv Z h162 t k_t .byte (Int32.ofNat cs.length) (((cs : List Int32).map (fun c => c.toInt8.toInt32)).map Value.int) (.int 0) := (B_t).keep K162q List.not_mem_nil
  rw [e162] at hC162
  have CR162 := hCR0.trans hC162
  have hk162 : T162.heap.size ≤ h162.size := by rw [e162]; exact Nat.le_refl _
  have pre169 : own_P p e below T162 (mkF m 28 #[vI 3, vR a1, vI p2, vI p3] [(.int (f4 p2))]) s₁ (entryFrame m #[(.int 3), (.ref a1), (.int p2), (.int p3)] 4) := fun t k => pre161 t (st162.trans k)
  obtain ⟨fs, hr, hrun, hended, hRW⟩ := X162.leaveW (s := s) (vm₁ := T162.vm) hS162 (by rw [e162]; first | exact hk162 | exact Nat.le_refl _) (v := some (.int (nar .char (f4 p2)))) (fun h => by rw [Bd.returns] at h; cases h)
  refine ⟨_, _, pre169 _ ?_, hrun, hended, _, _, rfl, ?_, ?_, hRW.1, hRW.2.1, hRW.2.2.1, hRW.2.2.2.mono (by decide) (by decide)⟩
  ·
   exact retN X162 hx (t := .char) Bd.returns (by simp) (hb hby d1_28) hr
  ·
   show Q1_3 Z a1 p2 p3 cs gc1 gf3 t k_t h0 n0 _ T162.heap _
   rw [e162]
   exact ⟨by unfold f1_3; rw [if_neg hc5_146], N162, K162⟩
  ·
   have q := CR162.trans (CHv.at X162 hZ162 hEL CR162.1)
   rw [hh]
   show CHr _ _ _ _ T162.vm T162.heap
   rw [e162]
   exact q
theorem own_Rf1_3 {p2 : Int32} {p3 : Int32} {cs : List Int32} (h : ∀ x ∈ cs, own_R x) : own_R (f1_3 p2 p3 cs) := by
 unfold f1_3; repeat' split
 all_goals first | (rw [own_nar (own_RgetD h _)]; exact own_RgetD h _) | (rw [own_nar (own_Rpick _)]; exact own_Rpick _)
theorem pd_3 : parseMethodDescriptor "([C)V" = some ⟨[(.array .char)], none⟩ := by decide +kernel
theorem d5_0 : decode method_6_code 0 = .ok (.iload_n 0, 1) := by decide +kernel
theorem d5_1 : decode method_6_code 1 = .ok (.ifCond .ne 14, 3) := by decide +kernel
theorem d5_4 : decode method_6_code 4 = .ok (.new 16, 3) := by decide +kernel
theorem d5_7 : decode method_6_code 7 = .ok (.dup, 1) := by decide +kernel
theorem d5_8 : decode method_6_code 8 = .ok (.iconst 0, 1) := by decide +kernel
theorem d5_9 : decode method_6_code 9 = .ok (.newarray .char, 2) := by decide +kernel
theorem d5_11 : decode method_6_code 11 = .ok (.invokespecial 63, 3) := by decide +kernel
theorem d5_14 : decode method_6_code 14 = .ok (.areturn, 1) := by decide +kernel
theorem d5_15 : decode method_6_code 15 = .ok (.iload_n 0, 1) := by decide +kernel
theorem d5_16 : decode method_6_code 16 = .ok (.iconst 1, 1) := by decide +kernel
theorem d5_17 : decode method_6_code 17 = .ok (.if_icmp .ne 18, 3) := by decide +kernel
theorem d5_20 : decode method_6_code 20 = .ok (.new 16, 3) := by decide +kernel
theorem d5_23 : decode method_6_code 23 = .ok (.dup, 1) := by decide +kernel
theorem d5_24 : decode method_6_code 24 = .ok (.iconst 1, 1) := by decide +kernel
theorem d5_25 : decode method_6_code 25 = .ok (.newarray .char, 2) := by decide +kernel
theorem d5_27 : decode method_6_code 27 = .ok (.dup, 1) := by decide +kernel
theorem d5_28 : decode method_6_code 28 = .ok (.iconst 0, 1) := by decide +kernel
theorem d5_29 : decode method_6_code 29 = .ok (.iload_n 1, 1) := by decide +kernel
theorem d5_30 : decode method_6_code 30 = .ok (.castore, 1) := by decide +kernel
theorem d5_31 : decode method_6_code 31 = .ok (.invokespecial 63, 3) := by decide +kernel
theorem d5_34 : decode method_6_code 34 = .ok (.areturn, 1) := by decide +kernel
theorem d5_35 : decode method_6_code 35 = .ok (.iload_n 0, 1) := by decide +kernel
theorem d5_36 : decode method_6_code 36 = .ok (.iconst 2, 1) := by decide +kernel
theorem d5_37 : decode method_6_code 37 = .ok (.if_icmp .ne 22, 3) := by decide +kernel
theorem d5_40 : decode method_6_code 40 = .ok (.new 16, 3) := by decide +kernel
theorem d5_43 : decode method_6_code 43 = .ok (.dup, 1) := by decide +kernel
theorem d5_44 : decode method_6_code 44 = .ok (.iconst 2, 1) := by decide +kernel
theorem d5_45 : decode method_6_code 45 = .ok (.newarray .char, 2) := by decide +kernel
theorem d5_47 : decode method_6_code 47 = .ok (.dup, 1) := by decide +kernel
theorem d5_48 : decode method_6_code 48 = .ok (.iconst 0, 1) := by decide +kernel
theorem d5_49 : decode method_6_code 49 = .ok (.iload_n 1, 1) := by decide +kernel
theorem d5_50 : decode method_6_code 50 = .ok (.castore, 1) := by decide +kernel
theorem d5_51 : decode method_6_code 51 = .ok (.dup, 1) := by decide +kernel
theorem d5_52 : decode method_6_code 52 = .ok (.iconst 1, 1) := by decide +kernel
theorem d5_53 : decode method_6_code 53 = .ok (.iload_n 2, 1) := by decide +kernel
theorem d5_54 : decode method_6_code 54 = .ok (.castore, 1) := by decide +kernel
theorem d5_55 : decode method_6_code 55 = .ok (.invokespecial 63, 3) := by decide +kernel
theorem d5_58 : decode method_6_code 58 = .ok (.areturn, 1) := by decide +kernel
theorem d5_59 : decode method_6_code 59 = .ok (.iload_n 0, 1) := by decide +kernel
theorem d5_60 : decode method_6_code 60 = .ok (.iconst 3, 1) := by decide +kernel
theorem d5_61 : decode method_6_code 61 = .ok (.if_icmp .ne 26, 3) := by decide +kernel
theorem d5_64 : decode method_6_code 64 = .ok (.new 16, 3) := by decide +kernel
theorem d5_67 : decode method_6_code 67 = .ok (.dup, 1) := by decide +kernel
theorem d5_68 : decode method_6_code 68 = .ok (.iconst 3, 1) := by decide +kernel
theorem d5_69 : decode method_6_code 69 = .ok (.newarray .char, 2) := by decide +kernel
theorem d5_71 : decode method_6_code 71 = .ok (.dup, 1) := by decide +kernel
theorem d5_72 : decode method_6_code 72 = .ok (.iconst 0, 1) := by decide +kernel
theorem d5_73 : decode method_6_code 73 = .ok (.iload_n 1, 1) := by decide +kernel
theorem d5_74 : decode method_6_code 74 = .ok (.castore, 1) := by decide +kernel
theorem d5_75 : decode method_6_code 75 = .ok (.dup, 1) := by decide +kernel
theorem d5_76 : decode method_6_code 76 = .ok (.iconst 1, 1) := by decide +kernel
theorem d5_77 : decode method_6_code 77 = .ok (.iload_n 2, 1) := by decide +kernel
theorem d5_78 : decode method_6_code 78 = .ok (.castore, 1) := by decide +kernel
theorem d5_79 : decode method_6_code 79 = .ok (.dup, 1) := by decide +kernel
theorem d5_80 : decode method_6_code 80 = .ok (.iconst 2, 1) := by decide +kernel
theorem d5_81 : decode method_6_code 81 = .ok (.iload_n 3, 1) := by decide +kernel
theorem d5_82 : decode method_6_code 82 = .ok (.castore, 1) := by decide +kernel
theorem d5_83 : decode method_6_code 83 = .ok (.invokespecial 63, 3) := by decide +kernel
theorem d5_86 : decode method_6_code 86 = .ok (.areturn, 1) := by decide +kernel
theorem d5_87 : decode method_6_code 87 = .ok (.new 16, 3) := by decide +kernel
theorem d5_90 : decode method_6_code 90 = .ok (.dup, 1) := by decide +kernel
theorem d5_91 : decode method_6_code 91 = .ok (.iconst 4, 1) := by decide +kernel
theorem d5_92 : decode method_6_code 92 = .ok (.newarray .char, 2) := by decide +kernel
theorem d5_94 : decode method_6_code 94 = .ok (.dup, 1) := by decide +kernel
theorem d5_95 : decode method_6_code 95 = .ok (.iconst 0, 1) := by decide +kernel
theorem d5_96 : decode method_6_code 96 = .ok (.iload_n 1, 1) := by decide +kernel
theorem d5_97 : decode method_6_code 97 = .ok (.castore, 1) := by decide +kernel
theorem d5_98 : decode method_6_code 98 = .ok (.dup, 1) := by decide +kernel
theorem d5_99 : decode method_6_code 99 = .ok (.iconst 1, 1) := by decide +kernel
theorem d5_100 : decode method_6_code 100 = .ok (.iload_n 2, 1) := by decide +kernel
theorem d5_101 : decode method_6_code 101 = .ok (.castore, 1) := by decide +kernel
theorem d5_102 : decode method_6_code 102 = .ok (.dup, 1) := by decide +kernel
theorem d5_103 : decode method_6_code 103 = .ok (.iconst 2, 1) := by decide +kernel
theorem d5_104 : decode method_6_code 104 = .ok (.iload_n 3, 1) := by decide +kernel
theorem d5_105 : decode method_6_code 105 = .ok (.castore, 1) := by decide +kernel
theorem d5_106 : decode method_6_code 106 = .ok (.dup, 1) := by decide +kernel
theorem d5_107 : decode method_6_code 107 = .ok (.iconst 3, 1) := by decide +kernel
theorem d5_108 : decode method_6_code 108 = .ok (.iload 4, 2) := by decide +kernel
theorem d5_110 : decode method_6_code 110 = .ok (.castore, 1) := by decide +kernel
theorem d5_111 : decode method_6_code 111 = .ok (.invokespecial 63, 3) := by decide +kernel
theorem d5_114 : decode method_6_code 114 = .ok (.areturn, 1) := by decide +kernel
theorem ef_5 (m : MethodId) (x0 : Int32) (x1 : Int32) (x2 : Int32) (x3 : Int32) (x4 : Int32) : entryFrame m #[(.int x0), (.int x1), (.int x2), (.int x3), (.int x4)] 5 = mkF m 0 #[vI x0, vI x1, vI x2, vI x3, vI x4] [] := by first | (simp [entryFrame, mkF, argsToLocals, Value.category]; done) | rfl
def Q5 (Z : State) (p0 : Int32) (p1 : Int32) (p2 : Int32) (p3 : Int32) (p4 : Int32) (gc1 : Int32) (h0 : Heap) (n0 : Nat) (v : Option Value) (h : Heap) (L : List Loc) : Prop := ∃ (o : Addr) (t : Addr) (k_t : ClassId), v = some (.ref o) ∧ Fr n0 L ∧ Keep h0 h [] ∧ h0.size ≤ o ∧ Exa Z h o "java/lang/String" ∧ Fld Z h o "java/lang/String" "value" "[B" (.ref t) ∧ Fld Z h o "java/lang/String" "coder" "B" (.int 0) ∧ Arv Z h t k_t .byte (Int32.ofNat (own_cs p0 p1 p2 p3 p4).length) ((((own_cs p0 p1 p2 p3 p4) : List Int32).map (fun c => c.toInt8.toInt32)).map Value.int) (.int 0)
set_option maxRecDepth 65536 in
set_option maxHeartbeats 40000000 in
theorem rm5 (l : Launch) (Z : State) (ar0 : Array Value) (hw : ∀ d ∈ tables_1, d.before ar0 Z = true) (ws : List Jvm.Cond) (p0 : Int32) (p1 : Int32) (p2 : Int32) (p3 : Int32) (p4 : Int32) (gc1 : Int32) (h0 : Heap) (n0 : Nat) (Z0 : n0 ≤ h0.size) (P5 : ¬ (gc1 = (0 : Int32))) (hq1 : own_R p1) (hq2 : own_R p2) (hq3 : own_R p3) (hq4 : own_R p4) (S_COMPACT_STRINGS : Sta Z h0 "java/lang/String" "COMPACT_STRINGS" "Z" (.int gc1)) :
  MetFree l (⟨"com/example/timely_exodus/timelyexodus/plan/LpSolverFromNamePinLaw", "make", "(ICCCC)Ljava/lang/String;"⟩ : MethodName) (head1 (Jvm.Cond.code (⟨"com/example/timely_exodus/timelyexodus/plan/LpSolverFromNamePinLaw", "make", "(ICCCC)Ljava/lang/String;"⟩ : MethodName) method_6_code 5 (some (.object "java/lang/String")) :: ws) ({ frames := 4, cells := 6, slots := 12, locals := 66 } : Room)) (fun a U => a = #[(.int p0), (.int p1), (.int p2), (.int p3), (.int p4)] ∧ Z.Warmed39 U.vm ∧ U.heap = h0 ∧ CHv Z own_EL U.vm h0) (fun _ _ _ _ _ => True) (fun _ U o U' => ∃ v L, o = .returned v ∧ Q5 Z p0 p1 p2 p3 p4 gc1 h0 n0 v U'.heap L ∧ CHr Z own_EL U.vm U.heap U'.vm U'.heap ∧ ReturnedEndW U o U' L ({ frames := 4, cells := 6, slots := 12, locals := 66 } : Room).cells ({ frames := 4, cells := 6, slots := 12, locals := 66 } : Room).slots) := by
 refine MetFree.of_bodySF (plainFor_of_name pn_1) hisR ?_
 intro p e s m args below meth c s₁ Bd hml0 hP hK
 obtain ⟨rfl, hZ, hh, hC0⟩ := hP
 have hx := Bd.exec
 have hby := Bd.bytes
 have hml : c.maxLocals = 5 := hml0
 have hown : s.vm.findClass "com/example/timely_exodus/timelyexodus/plan/LpSolverFromNamePinLaw" = some m.cls := by have q := findClass_of_methodNamed Bd.named; exact q
 have hnm := (name_of_methodNamed Bd.named Bd.method).1
 have X0 : Stand p l e ({ frames := 4, cells := 6, slots := 12, locals := 66 } : Room) s m #[(.int p0), (.int p1), (.int p2), (.int p3), (.int p4)] below meth c s₁ [] 0 0 := Stand.of_body Bd
 have e0 : s₁.heap = h0 := by rw [← hh, Bd.state]; rfl
 have N0 := Fr.nil n0
 have hS0 : s.Since s.vm 0 := own_since0 s
 have hCR0 : CHr Z own_EL s.vm h0 s.vm h0 := CHr.refl hC0
 have hEL : EW Z ar0 own_EL := own_EW hw
 have pre0 : own_P p e below s₁ (mkF m 0 #[vI p0, vI p1, vI p2, vI p3, vI p4] []) s₁ (entryFrame m #[(.int p0), (.int p1), (.int p2), (.int p3), (.int p4)] 5) := fun t k => castTop (ef_5 m p0 p1 p2 p3 p4) k
 have pre170 : own_P p e below s₁ (mkF m 1 #[vI p0, vI p1, vI p2, vI p3, vI p4] [(.int p0)]) s₁ (entryFrame m #[(.int p0), (.int p1), (.int p2), (.int p3), (.int p4)] 5) := by
  intro t k
  refine pre0 t ?_
  refine XS.iloadN X0.here hx rfl (hb hby d5_0) rfl ?_
  exact k
 by_cases hc1_171 : p0 = (0 : Int32)
 ·
  have pre172 : ∀ t, Steps p.tables e below (s₁.setTop (mkF m 4 #[vI p0, vI p1, vI p2, vI p3, vI p4] [])) t → Steps p.tables e below (s₁.setTop (entryFrame m #[(.int p0), (.int p1), (.int p2), (.int p3), (.int p4)] 5)) t := by
   intro t k
   refine pre170 t ?_
   refine XS.ifNo X0.here hx rfl (hb hby d5_1) rfl ((if0 _ _).trans (teq hc1_171).2) ?_
   exact k
  obtain ⟨T173, h173, X173, e173, E173, A173, D173, -, st173⟩ := newO X0 hx hZ hown (own_w hw 31 rfl) (own_w hw 2 rfl) (own_w hw 1 rfl) e0 (g := (mkF m 4 #[vI p0, vI p1, vI p2, vI p3, vI p4] [])) rfl (hb hby d5_4) (by decide) (by decide)
  obtain ⟨b173, g173⟩ : ∃ z, z = h0.size := ⟨_, rfl⟩
  rw [← g173] at A173 D173 st173
  have g_b173 : n0 ≤ b173 := Nat.le_trans Z0 (Nat.le_of_eq g173.symm)
  have sz_b173 : h0.size ≤ b173 := Nat.le_trans (Keep.refl h0 []).1 (Nat.le_of_eq g173.symm)
  have Z173 : n0 ≤ h173.size := Nat.le_trans Z0 E173.1
  have K173 : Keep h0 h173 [] := (Keep.refl h0 []).ext E173
  have hk173 := Nat.le_trans (Nat.zero_le _) E173.1
  have CR173 := hCR0.trans (CHr.ext E173 hCR0.1)
  have Sf174 : Sta Z h173 "java/lang/String" "COMPACT_STRINGS" "Z" (.int gc1) := (S_COMPACT_STRINGS).ext E173
  have sf_b173 := Safe.ext E173 hCR0.1 (Safe.new (Nat.le_of_eq g173.symm))
  have Fvalue_b173 : Fld Z h173 b173 "java/lang/String" "value" "[B" .null := D173 (Or.inr (own_w hw 4 rfl)) (ty := (.array .byte)) (by decide)
  have Fcoder_b173 : Fld Z h173 b173 "java/lang/String" "coder" "B" (.int 0) := D173 (Or.inr (own_w hw 5 rfl)) (ty := .byte) (by decide)
  have pre175 : own_P p e below T173 (mkF m 7 #[vI p0, vI p1, vI p2, vI p3, vI p4] [(.ref b173)]) s₁ (entryFrame m #[(.int p0), (.int p1), (.int p2), (.int p3), (.int p4)] 5) := fun t k => pre172 t (st173 t k)
  have pre176 : own_P p e below T173 (mkF m 9 #[vI p0, vI p1, vI p2, vI p3, vI p4] [(.int 0), (.ref b173), (.ref b173)]) s₁ (entryFrame m #[(.int p0), (.int p1), (.int p2), (.int p3), (.int p4)] 5) := by
   intro t k
   refine pre175 t ?_
   refine XS.dup X173.here hx rfl (hb hby d5_7) rfl rfl ?_
   refine XS.iconst X173.here hx rfl (hb hby d5_8) ?_
   exact k
  obtain ⟨T177, h177, k177, X177, e177, E177, A177, C177, st177⟩ := newPE X173 hx hZ (own_w hw 32 rfl) e173 (g := (mkF m 9 #[vI p0, vI p1, vI p2, vI p3, vI p4] [(.int 0), (.ref b173), (.ref b173)])) rfl (hb hby d5_9) rfl (by decide) (cap := 0) (by decide) (by decide) (by decide) (by decide) (ad := "[C") rfl
  obtain ⟨b177, g177⟩ : ∃ z, z = h173.size := ⟨_, rfl⟩
  rw [← g177] at A177 C177 st177
  have ne_b173_b177 : b173 ≠ b177 := Nat.ne_of_lt (Nat.lt_of_lt_of_le (A173).lt (Nat.le_of_eq g177.symm))
  have g_b177 : n0 ≤ b177 := Nat.le_trans Z173 (Nat.le_of_eq g177.symm)
  have sz_b177 : h0.size ≤ b177 := Nat.le_trans K173.1 (Nat.le_of_eq g177.symm)
  have Z177 : n0 ≤ h177.size := Nat.le_trans Z173 E177.1
  have K177 : Keep h0 h177 [] := K173.ext E177
  have hk177 := Nat.le_trans hk173 E177.1
  have sf_b173_177 := Safe.ext E177 CR173.1 sf_b173
  have CR177 := CR173.trans (CHr.ext E177 CR173.1)
  have Sf178 : Sta Z h177 "java/lang/String" "COMPACT_STRINGS" "Z" (.int gc1) := (Sf174).ext E177
  have Ef179 : Exa Z h177 b173 "java/lang/String" := (A173).ext E177
  have Ff180 : Fld Z h177 b173 "java/lang/String" "value" "[B" .null := (Fvalue_b173).ext E177
  have Ff181 : Fld Z h177 b173 "java/lang/String" "coder" "B" (.int 0) := (Fcoder_b173).ext E177
  have V_b177 : Arv Z h177 b177 k177 .char (0 : Int32) [] (.int 0) := (Arv.new A177 (by decide)).pad (pad_rep [] (.int 0) 0)
  have pre182 : own_P p e below T177 (mkF m 11 #[vI p0, vI p1, vI p2, vI p3, vI p4] [(.ref b177), (.ref b173), (.ref b173)]) s₁ (entryFrame m #[(.int p0), (.int p1), (.int p2), (.int p3), (.int p4)] 5) := fun t k => pre176 t (st177 t k)
  obtain ⟨_, _, ⟨T183, L183, k183, n183⟩, -, X183r, hS183r, hg183r, ⟨Lc183, hQ183, l183, y183, z183, hC183⟩, st183⟩ := X177.specialBackS hx (y := (⟨"java/lang/String", "<init>", "([C)V"⟩ : MethodName)) rfl hown (mvT hZ (own_w hw 33 rfl)) (mvT hZ (own_w hw 34 rfl)) (mvT hZ (own_w hw 35 rfl)) (by decide) (backOfSH (W := 1) (rm6_0 l Z ar0 hw [] b173 b177 k177 h177 n0 Z177 Ef179 Ff180 Ff181 V_b177 g_b173 ne_b173_b177.symm) hZ (own_w hw 35 rfl) (own_w hw 1 rfl) (by decide) (by decide) hEL CR177.1) (g := (mkF m 11 #[vI p0, vI p1, vI p2, vI p3, vI p4] [(.ref b177), (.ref b173), (.ref b173)])) rfl (by rw [hml]; rfl) (Steps.refl _) (a := b173) (argsL := [(.ref b177)]) (rest := [(.ref b173)]) (lenOf pd_3 rfl) rfl (by show 2 * 0 + _ ≤ _; exact Nat.le_of_eq rfl) (hb hby d5_11) (fun _ _ => ⟨rfl, e177, (by decide : 2 + 4 ≤ _), (by decide : 4 + 8 ≤ _)⟩)
  dsimp only [Pt.U, Pt.locs, Pt.cells, Pt.slots] at X183r hS183r hg183r l183 y183 z183 st183 hQ183 hC183
  subst l183 y183 z183
  obtain ⟨X183, hS183, hZ183, ho183⟩ := rebS (s := s) (vm0 := s.vm) (n1 := T177.heap.size) hS0 (by rw [e177]; first | exact hk177 | exact Nat.le_refl _) X183r hS183r hg183r hZ hown
  obtain ⟨h183, e183⟩ : ∃ h, T183.heap = h := ⟨_, rfl⟩
  rw [e183] at hQ183
  obtain ⟨b183, kb183, rfl, N183q, K183q, Q183_0, Q183_1, Q183_2, Ob183_0⟩ := hQ183
  have N183 := Fr.app N0 N183q
  have Z183 : n0 ≤ h183.size := Nat.le_trans Z177 K183q.1
  have K183 : Keep h0 h183 [] := K177.trans K183q (fun x hx => by cases List.mem_singleton.mp hx; exact Or.inr sz_b173)
  have Sf184 : Sta Z h183 "java/lang/String" "COMPACT_STRINGS" "Z" (.int gc1) := own_sta_keep Sf178 K183q (own_ns1 (own_ns_exa Ef179))
  have Ef185 : Exa Z h183 b173 "java/lang/String" := (Ef179).keep K183q
  have Vf186 : Arv Z h183 b177 k177 .char (0 : Int32) [] (.int 0) := (V_b177).keep K183q (fun q => absurd (List.mem_singleton.mp q) ne_b173_b177.symm)
  have Ef187 : Exa Z h183 b177 "[C" := (C177).keep K183q
  rw [e183] at hC183
  have CR183 := CR177.trans hC183
  have hk183 : T183.heap.size ≤ h183.size := by rw [e183]; exact Nat.le_refl _
  have pre188 : own_P p e below T183 (mkF m 14 #[vI p0, vI p1, vI p2, vI p3, vI p4] [(.ref b173)]) s₁ (entryFrame m #[(.int p0), (.int p1), (.int p2), (.int p3), (.int p4)] 5) := fun t k => pre182 t (st183.trans k)
  have Bm189 : Arv Z h183 b183 kb183 .byte (Int32.ofNat (own_cs p0 p1 p2 p3 p4).length) ((((own_cs p0 p1 p2 p3 p4) : List Int32).map (fun c => c.toInt8.toInt32)).map Value.int) (.int 0) := by rw [own_cs0 hc1_171]; exact Ob183_0
  obtain ⟨fs, hr, hrun, hended, hRW⟩ := X183.leaveW (s := s) (vm₁ := T183.vm) hS183 (by rw [e183]; first | exact hk183 | exact Nat.le_refl _) (v := some (.ref b173)) (fun h => by rw [Bd.returns] at h; cases h)
  refine ⟨_, _, pre188 _ ?_, hrun, hended, _, _, rfl, ?_, ?_, hRW.1, hRW.2.1, hRW.2.2.1, hRW.2.2.2.mono (by decide) (by decide)⟩
  ·
   exact retOut X183 hx Bd.returns rfl (Or.inr (Or.inr (Or.inr (Or.inr ⟨rfl, rfl, rfl⟩)))) (hb hby d5_14) hr
  ·
   show Q5 Z p0 p1 p2 p3 p4 gc1 h0 n0 _ T183.heap _
   rw [e183]
   exact ⟨b173, b183, kb183, rfl, N183, K183, sz_b173, Q183_0, Q183_1, Q183_2, Bm189⟩
  ·
   have q := CR183.trans (CHv.at X183 hZ183 hEL CR183.1)
   rw [hh]
   show CHr _ _ _ _ T183.vm T183.heap
   rw [e183]
   exact q
 ·
  have pre190 : ∀ t, Steps p.tables e below (s₁.setTop (mkF m 17 #[vI p0, vI p1, vI p2, vI p3, vI p4] [(.int 1), (.int p0)])) t → Steps p.tables e below (s₁.setTop (entryFrame m #[(.int p0), (.int p1), (.int p2), (.int p3), (.int p4)] 5)) t := by
   intro t k
   refine pre170 t ?_
   refine XS.ifYes X0.here hx rfl (pc0 := 1) (pc' := 15) rfl (hb hby d5_1) rfl ((if0 _ _).trans (feq hc1_171).2) (by decide) (by decide) ?_
   refine XS.iloadN X0.here hx rfl (hb hby d5_15) rfl ?_
   refine XS.iconst X0.here hx rfl (hb hby d5_16) ?_
   exact k
  by_cases hc17_191 : p0 = (1 : Int32)
  ·
   have pre192 : ∀ t, Steps p.tables e below (s₁.setTop (mkF m 20 #[vI p0, vI p1, vI p2, vI p3, vI p4] [])) t → Steps p.tables e below (s₁.setTop (entryFrame m #[(.int p0), (.int p1), (.int p2), (.int p3), (.int p4)] 5)) t := by
    intro t k
    refine pre190 t ?_
    refine XS.icmpNo X0.here hx rfl (hb hby d5_17) rfl (teq hc17_191).2 ?_
    exact k
   obtain ⟨T193, h193, X193, e193, E193, A193, D193, -, st193⟩ := newO X0 hx hZ hown (own_w hw 31 rfl) (own_w hw 2 rfl) (own_w hw 1 rfl) e0 (g := (mkF m 20 #[vI p0, vI p1, vI p2, vI p3, vI p4] [])) rfl (hb hby d5_20) (by decide) (by decide)
   obtain ⟨b193, g193⟩ : ∃ z, z = h0.size := ⟨_, rfl⟩
   rw [← g193] at A193 D193 st193
   have g_b193 : n0 ≤ b193 := Nat.le_trans Z0 (Nat.le_of_eq g193.symm)
   have sz_b193 : h0.size ≤ b193 := Nat.le_trans (Keep.refl h0 []).1 (Nat.le_of_eq g193.symm)
   have Z193 : n0 ≤ h193.size := Nat.le_trans Z0 E193.1
   have K193 : Keep h0 h193 [] := (Keep.refl h0 []).ext E193
   have hk193 := Nat.le_trans (Nat.zero_le _) E193.1
   have CR193 := hCR0.trans (CHr.ext E193 hCR0.1)
   have Sf194 : Sta Z h193 "java/lang/String" "COMPACT_STRINGS" "Z" (.int gc1) := (S_COMPACT_STRINGS).ext E193
   have sf_b193 := Safe.ext E193 hCR0.1 (Safe.new (Nat.le_of_eq g193.symm))
   have Fvalue_b193 : Fld Z h193 b193 "java/lang/String" "value" "[B" .null := D193 (Or.inr (own_w hw 4 rfl)) (ty := (.array .byte)) (by decide)
   have Fcoder_b193 : Fld Z h193 b193 "java/lang/String" "coder" "B" (.int 0) := D193 (Or.inr (own_w hw 5 rfl)) (ty := .byte) (by decide)
   have pre195 : own_P p e below T193 (mkF m 23 #[vI p0, vI p1, vI p2, vI p3, vI p4] [(.ref b193)]) s₁ (entryFrame m #[(.int p0), (.int p1), (.int p2), (.int p3), (.int p4)] 5) := fun t k => pre192 t (st193 t k)
   have pre196 : own_P p e below T193 (mkF m 25 #[vI p0, vI p1, vI p2, vI p3, vI p4] [(.int 1), (.ref b193), (.ref b193)]) s₁ (entryFrame m #[(.int p0), (.int p1), (.int p2), (.int p3), (.int p4)] 5) := by
    intro t k
    refine pre195 t ?_
    refine XS.dup X193.here hx rfl (hb hby d5_23) rfl rfl ?_
    refine XS.iconst X193.here hx rfl (hb hby d5_24) ?_
    exact k
   obtain ⟨T197, h197, k197, X197, e197, E197, A197, C197, st197⟩ := newPE X193 hx hZ (own_w hw 32 rfl) e193 (g := (mkF m 25 #[vI p0, vI p1, vI p2, vI p3, vI p4] [(.int 1), (.ref b193), (.ref b193)])) rfl (hb hby d5_25) rfl (by decide) (cap := 1) (by decide) (by decide) (by decide) (by decide) (ad := "[C") rfl
   obtain ⟨b197, g197⟩ : ∃ z, z = h193.size := ⟨_, rfl⟩
   rw [← g197] at A197 C197 st197
   have ne_b193_b197 : b193 ≠ b197 := Nat.ne_of_lt (Nat.lt_of_lt_of_le (A193).lt (Nat.le_of_eq g197.symm))
   have g_b197 : n0 ≤ b197 := Nat.le_trans Z193 (Nat.le_of_eq g197.symm)
   have sz_b197 : h0.size ≤ b197 := Nat.le_trans K193.1 (Nat.le_of_eq g197.symm)
   have Z197 : n0 ≤ h197.size := Nat.le_trans Z193 E197.1
   have K197 : Keep h0 h197 [] := K193.ext E197
   have hk197 := Nat.le_trans hk193 E197.1
   have sf_b193_197 := Safe.ext E197 CR193.1 sf_b193
   have CR197 := CR193.trans (CHr.ext E197 CR193.1)
   have Sf198 : Sta Z h197 "java/lang/String" "COMPACT_STRINGS" "Z" (.int gc1) := (Sf194).ext E197
   have Ef199 : Exa Z h197 b193 "java/lang/String" := (A193).ext E197
   have Ff200 : Fld Z h197 b193 "java/lang/String" "value" "[B" .null := (Fvalue_b193).ext E197
   have Ff201 : Fld Z h197 b193 "java/lang/String" "coder" "B" (.int 0) := (Fcoder_b193).ext E197
   have V_b197 : Arv Z h197 b197 k197 .char (1 : Int32) [(.int 0)] (.int 0) := (Arv.new A197 (by decide)).pad (pad_rep [] (.int 0) 1)
   have pre202 : own_P p e below T197 (mkF m 27 #[vI p0, vI p1, vI p2, vI p3, vI p4] [(.ref b197), (.ref b193), (.ref b193)]) s₁ (entryFrame m #[(.int p0), (.int p1), (.int p2), (.int p3), (.int p4)] 5) := fun t k => pre196 t (st197 t k)
   have pre203 : own_P p e below T197 (mkF m 30 #[vI p0, vI p1, vI p2, vI p3, vI p4] [(.int p1), (.int 0), (.ref b197), (.ref b197), (.ref b193), (.ref b193)]) s₁ (entryFrame m #[(.int p0), (.int p1), (.int p2), (.int p3), (.int p4)] 5) := by
    intro t k
    refine pre202 t ?_
    refine XS.dup X197.here hx rfl (hb hby d5_27) rfl rfl ?_
    refine XS.iconst X197.here hx rfl (hb hby d5_28) ?_
    refine XS.iloadN X197.here hx rfl (hb hby d5_29) rfl ?_
    exact k
   obtain ⟨cl204, Ar204, q204, S204, M204, H204, G204⟩ := id V_b197
   have hin204 : ¬ ((0 : Int32) < 0 ∨ cl204.slots.size ≤ ((0 : Int32)).toNatClampNeg) := inb_of S204 ⟨by decide, by decide⟩
   obtain ⟨T204, h204, X204, e204, W204, st204⟩ := stC X197 hx hZ e197 Ar204 (j := (0 : Int32)) hin204 (g := (mkF m 30 #[vI p0, vI p1, vI p2, vI p3, vI p4] [(.int p1), (.int 0), (.ref b197), (.ref b197), (.ref b193), (.ref b193)])) rfl rfl (hb hby d5_30)
   have Z204 : n0 ≤ h204.size := Nat.le_trans Z197 (Keep.of_wr W204).1
   have K204 : Keep h0 h204 [] := K197.wr W204 (Or.inr sz_b197)
   have N204 := Fr.snoc X204 N0 g_b197
   have hk204 := Nat.le_trans hk197 (Keep.of_wr W204).1
   have sf_b193_204 := Safe.wr W204 (Safe.arv hZ.alike V_b197 (by decide)) CR197.1 sf_b193_197
   have CR204 := CR197.trans (CHr.wr W204 (Safe.arv hZ.alike V_b197 (by decide)) CR197.1)
   have Sf205 : Sta Z h204 "java/lang/String" "COMPACT_STRINGS" "Z" (.int gc1) := (Sf198).wr W204
   have Ef206 : Exa Z h204 b193 "java/lang/String" := (Ef199).wr W204
   have Ff207 : Fld Z h204 b193 "java/lang/String" "value" "[B" .null := (Ff200).other W204 (Or.inl ne_b193_b197)
   have Ff208 : Fld Z h204 b193 "java/lang/String" "coder" "B" (.int 0) := (Ff201).other W204 (Or.inl ne_b193_b197)
   have Ef209 : Exa Z h204 b197 "[C" := (C197).wr W204
   have V204 : Arv Z h204 b197 k197 .char (1 : Int32) [(.int (nar .char p1))] (.int 0) := Arv.set Ar204 q204 S204 M204 H204 G204 (fits_nar_char _) W204 0 rfl (Nat.le_of_ble_eq_true rfl)
   have pre210 : own_P p e below T204 (mkF m 31 #[vI p0, vI p1, vI p2, vI p3, vI p4] [(.ref b197), (.ref b193), (.ref b193)]) s₁ (entryFrame m #[(.int p0), (.int p1), (.int p2), (.int p3), (.int p4)] 5) := fun t k => pre203 t (st204 t k)
   have hp212 : ∀ c ∈ ([(nar .char p1)] : List Int32), ¬ c < 0 ∧ ¬ (255 : Int32) < c := own_hpN (own_all1 hq1)
   obtain ⟨_, _, ⟨T211, L211, k211, n211⟩, -, X211, ⟨Lc211, hQ211, l211, y211, z211⟩, st211⟩ := X204.specialBack hx (y := (⟨"java/lang/String", "<init>", "([C)V"⟩ : MethodName)) rfl hown (mvT hZ (own_w hw 33 rfl)) (mvT hZ (own_w hw 34 rfl)) (mvT hZ (own_w hw 35 rfl)) (by decide) (StrChars.Road.backV (W := 1) hZ (own_words hw) (kI := 4) (own_w hw 2 rfl) (cs := ([(nar .char p1)] : List Int32)) (bs := (([(nar .char p1)] : List Int32)).map (fun c => c.toInt8.toInt32)) (n := 1) g_b193 Z204 Ef206 Ff207 Ff208 V204 Sf205 P5 rfl rfl (by decide) (by decide) hp212 rfl (by decide) (by decide)) (g := (mkF m 31 #[vI p0, vI p1, vI p2, vI p3, vI p4] [(.ref b197), (.ref b193), (.ref b193)])) rfl (by rw [hml]; rfl) (Steps.refl _) (a := b193) (argsL := [(.ref b197)]) (rest := [(.ref b193)]) (lenOf pd_3 rfl) rfl (by show 2 * 0 + _ ≤ _; exact Nat.le_of_eq rfl) (hb hby d5_31) (fun _ _ => ⟨rfl, e204, (by decide : 2 + 1 ≤ _), (by decide : 5 + 1 ≤ _)⟩)
   dsimp only [Pt.U, Pt.locs, Pt.cells, Pt.slots] at X211 l211 y211 z211 st211 hQ211
   subst l211 y211 z211
   obtain ⟨h211, e211⟩ : ∃ h, T211.heap = h := ⟨_, rfl⟩
   rw [e211] at hQ211
   obtain ⟨rfl, N211q, K211q, QE211, QC211, t211, kt211, g_t211, y_t211, ne211, QV211, QB211⟩ := hQ211
   have N211 := Fr.app N204 N211q
   have ne_b193_t211 : b193 ≠ t211 := Nat.ne_of_lt (Nat.lt_of_lt_of_le (Ef206).lt y_t211)
   have ne_b197_t211 : b197 ≠ t211 := Nat.ne_of_lt (Nat.lt_of_lt_of_le (Ef209).lt y_t211)
   have sz_t211 : h0.size ≤ t211 := Nat.le_trans K204.1 y_t211
   have Z211 : n0 ≤ h211.size := Nat.le_trans Z204 K211q.1
   have K211 : Keep h0 h211 [] := K204.trans K211q (fun x hx => by cases List.mem_singleton.mp hx; exact Or.inr sz_b193)
   have hk211 := Nat.le_trans hk204 K211q.1
   have sf_b193_211 := Safe.keep K211q (sfS sf_b193_204 sf0) CR204.1 sf_b193_204
   have CR211 := CR204.trans (CHr.keep K211q (sfS sf_b193_204 sf0) CR204.1)
   have Sf213 : Sta Z h211 "java/lang/String" "COMPACT_STRINGS" "Z" (.int gc1) := own_sta_keep Sf205 K211q (own_ns1 (own_ns_exa Ef206))
   have Ef214 : Exa Z h211 b197 "[C" := (Ef209).keep K211q
   have Vf215 : Arv Z h211 b197 k197 .char (1 : Int32) [(.int (nar .char p1))] (.int 0) := (V204).keep K211q (fun q => absurd (List.mem_singleton.mp q) ne_b193_b197.symm)
   have hcd211 : StrChars.Road.CodA ([(nar .char p1)] : List Int32) 0 (1 : Int32) ((([(nar .char p1)] : List Int32).map (fun c => c.toInt8.toInt32)).map Value.int) := StrChars.Road.codOf (n := 1) rfl (fun x hx => (hp212 x hx).2)
   have hbd211 := own_up _ hp212
   have pre216 : own_P p e below T211 (mkF m 34 #[vI p0, vI p1, vI p2, vI p3, vI p4] [(.ref b193)]) s₁ (entryFrame m #[(.int p0), (.int p1), (.int p2), (.int p3), (.int p4)] 5) := fun t k => pre210 t (st211.trans k)
   have Bm217 : Arv Z h211 t211 kt211 .byte (Int32.ofNat (own_cs p0 p1 p2 p3 p4).length) ((((own_cs p0 p1 p2 p3 p4) : List Int32).map (fun c => c.toInt8.toInt32)).map Value.int) (.int 0) := by rw [own_cs1 hc1_171 hc17_191]; have q := QB211; rw [own_nar hq1] at q; exact q
   obtain ⟨fs, hr, hrun, hended, hRW⟩ := X211.leaveW (s := s) (vm₁ := s.vm) hS0 (by rw [e211]; first | exact hk211 | exact Nat.le_refl _) (v := some (.ref b193)) (fun h => by rw [Bd.returns] at h; cases h)
   refine ⟨_, _, pre216 _ ?_, hrun, hended, _, _, rfl, ?_, ?_, hRW.1, hRW.2.1, hRW.2.2.1, hRW.2.2.2.mono (by decide) (by decide)⟩
   ·
    exact retOut X211 hx Bd.returns rfl (Or.inr (Or.inr (Or.inr (Or.inr ⟨rfl, rfl, rfl⟩)))) (hb hby d5_34) hr
   ·
    show Q5 Z p0 p1 p2 p3 p4 gc1 h0 n0 _ T211.heap _
    rw [e211]
    exact ⟨b193, t211, kt211, rfl, N211, K211, sz_b193, QE211, QV211, QC211, Bm217⟩
   ·
    have q := CR211.trans (CHv.at X211 hZ hEL CR211.1)
    rw [hh]
    show CHr _ _ _ _ T211.vm T211.heap
    rw [e211]
    exact q
  ·
   have pre218 : ∀ t, Steps p.tables e below (s₁.setTop (mkF m 37 #[vI p0, vI p1, vI p2, vI p3, vI p4] [(.int 2), (.int p0)])) t → Steps p.tables e below (s₁.setTop (entryFrame m #[(.int p0), (.int p1), (.int p2), (.int p3), (.int p4)] 5)) t := by
    intro t k
    refine pre190 t ?_
    refine XS.icmpYes X0.here hx rfl (pc0 := 17) (pc' := 35) rfl (hb hby d5_17) rfl (feq hc17_191).2 (by decide) (by decide) ?_
    refine XS.iloadN X0.here hx rfl (hb hby d5_35) rfl ?_
    refine XS.iconst X0.here hx rfl (hb hby d5_36) ?_
    exact k
   by_cases hc37_219 : p0 = (2 : Int32)
   ·
    have pre220 : ∀ t, Steps p.tables e below (s₁.setTop (mkF m 40 #[vI p0, vI p1, vI p2, vI p3, vI p4] [])) t → Steps p.tables e below (s₁.setTop (entryFrame m #[(.int p0), (.int p1), (.int p2), (.int p3), (.int p4)] 5)) t := by
     intro t k
     refine pre218 t ?_
     refine XS.icmpNo X0.here hx rfl (hb hby d5_37) rfl (teq hc37_219).2 ?_
     exact k
    obtain ⟨T221, h221, X221, e221, E221, A221, D221, -, st221⟩ := newO X0 hx hZ hown (own_w hw 31 rfl) (own_w hw 2 rfl) (own_w hw 1 rfl) e0 (g := (mkF m 40 #[vI p0, vI p1, vI p2, vI p3, vI p4] [])) rfl (hb hby d5_40) (by decide) (by decide)
    obtain ⟨b221, g221⟩ : ∃ z, z = h0.size := ⟨_, rfl⟩
    rw [← g221] at A221 D221 st221
    have g_b221 : n0 ≤ b221 := Nat.le_trans Z0 (Nat.le_of_eq g221.symm)
    have sz_b221 : h0.size ≤ b221 := Nat.le_trans (Keep.refl h0 []).1 (Nat.le_of_eq g221.symm)
    have Z221 : n0 ≤ h221.size := Nat.le_trans Z0 E221.1
    have K221 : Keep h0 h221 [] := (Keep.refl h0 []).ext E221
    have hk221 := Nat.le_trans (Nat.zero_le _) E221.1
    have CR221 := hCR0.trans (CHr.ext E221 hCR0.1)
    have Sf222 : Sta Z h221 "java/lang/String" "COMPACT_STRINGS" "Z" (.int gc1) := (S_COMPACT_STRINGS).ext E221
    have sf_b221 := Safe.ext E221 hCR0.1 (Safe.new (Nat.le_of_eq g221.symm))
    have Fvalue_b221 : Fld Z h221 b221 "java/lang/String" "value" "[B" .null := D221 (Or.inr (own_w hw 4 rfl)) (ty := (.array .byte)) (by decide)
    have Fcoder_b221 : Fld Z h221 b221 "java/lang/String" "coder" "B" (.int 0) := D221 (Or.inr (own_w hw 5 rfl)) (ty := .byte) (by decide)
    have pre223 : own_P p e below T221 (mkF m 43 #[vI p0, vI p1, vI p2, vI p3, vI p4] [(.ref b221)]) s₁ (entryFrame m #[(.int p0), (.int p1), (.int p2), (.int p3), (.int p4)] 5) := fun t k => pre220 t (st221 t k)
    have pre224 : own_P p e below T221 (mkF m 45 #[vI p0, vI p1, vI p2, vI p3, vI p4] [(.int 2), (.ref b221), (.ref b221)]) s₁ (entryFrame m #[(.int p0), (.int p1), (.int p2), (.int p3), (.int p4)] 5) := by
     intro t k
     refine pre223 t ?_
     refine XS.dup X221.here hx rfl (hb hby d5_43) rfl rfl ?_
     refine XS.iconst X221.here hx rfl (hb hby d5_44) ?_
     exact k
    obtain ⟨T225, h225, k225, X225, e225, E225, A225, C225, st225⟩ := newPE X221 hx hZ (own_w hw 32 rfl) e221 (g := (mkF m 45 #[vI p0, vI p1, vI p2, vI p3, vI p4] [(.int 2), (.ref b221), (.ref b221)])) rfl (hb hby d5_45) rfl (by decide) (cap := 2) (by decide) (by decide) (by decide) (by decide) (ad := "[C") rfl
    obtain ⟨b225, g225⟩ : ∃ z, z = h221.size := ⟨_, rfl⟩
    rw [← g225] at A225 C225 st225
    have ne_b221_b225 : b221 ≠ b225 := Nat.ne_of_lt (Nat.lt_of_lt_of_le (A221).lt (Nat.le_of_eq g225.symm))
    have g_b225 : n0 ≤ b225 := Nat.le_trans Z221 (Nat.le_of_eq g225.symm)
    have sz_b225 : h0.size ≤ b225 := Nat.le_trans K221.1 (Nat.le_of_eq g225.symm)
    have Z225 : n0 ≤ h225.size := Nat.le_trans Z221 E225.1
    have K225 : Keep h0 h225 [] := K221.ext E225
    have hk225 := Nat.le_trans hk221 E225.1
    have sf_b221_225 := Safe.ext E225 CR221.1 sf_b221
    have CR225 := CR221.trans (CHr.ext E225 CR221.1)
    have Sf226 : Sta Z h225 "java/lang/String" "COMPACT_STRINGS" "Z" (.int gc1) := (Sf222).ext E225
    have Ef227 : Exa Z h225 b221 "java/lang/String" := (A221).ext E225
    have Ff228 : Fld Z h225 b221 "java/lang/String" "value" "[B" .null := (Fvalue_b221).ext E225
    have Ff229 : Fld Z h225 b221 "java/lang/String" "coder" "B" (.int 0) := (Fcoder_b221).ext E225
    have V_b225 : Arv Z h225 b225 k225 .char (2 : Int32) [(.int 0), (.int 0)] (.int 0) := (Arv.new A225 (by decide)).pad (pad_rep [] (.int 0) 2)
    have pre230 : own_P p e below T225 (mkF m 47 #[vI p0, vI p1, vI p2, vI p3, vI p4] [(.ref b225), (.ref b221), (.ref b221)]) s₁ (entryFrame m #[(.int p0), (.int p1), (.int p2), (.int p3), (.int p4)] 5) := fun t k => pre224 t (st225 t k)
    have pre231 : own_P p e below T225 (mkF m 50 #[vI p0, vI p1, vI p2, vI p3, vI p4] [(.int p1), (.int 0), (.ref b225), (.ref b225), (.ref b221), (.ref b221)]) s₁ (entryFrame m #[(.int p0), (.int p1), (.int p2), (.int p3), (.int p4)] 5) := by
     intro t k
     refine pre230 t ?_
     refine XS.dup X225.here hx rfl (hb hby d5_47) rfl rfl ?_
     refine XS.iconst X225.here hx rfl (hb hby d5_48) ?_
     refine XS.iloadN X225.here hx rfl (hb hby d5_49) rfl ?_
     exact k
    obtain ⟨cl232, Ar232, q232, S232, M232, H232, G232⟩ := id V_b225
    have hin232 : ¬ ((0 : Int32) < 0 ∨ cl232.slots.size ≤ ((0 : Int32)).toNatClampNeg) := inb_of S232 ⟨by decide, by decide⟩
    obtain ⟨T232, h232, X232, e232, W232, st232⟩ := stC X225 hx hZ e225 Ar232 (j := (0 : Int32)) hin232 (g := (mkF m 50 #[vI p0, vI p1, vI p2, vI p3, vI p4] [(.int p1), (.int 0), (.ref b225), (.ref b225), (.ref b221), (.ref b221)])) rfl rfl (hb hby d5_50)
    have Z232 : n0 ≤ h232.size := Nat.le_trans Z225 (Keep.of_wr W232).1
    have K232 : Keep h0 h232 [] := K225.wr W232 (Or.inr sz_b225)
    have N232 := Fr.snoc X232 N0 g_b225
    have hk232 := Nat.le_trans hk225 (Keep.of_wr W232).1
    have sf_b221_232 := Safe.wr W232 (Safe.arv hZ.alike V_b225 (by decide)) CR225.1 sf_b221_225
    have CR232 := CR225.trans (CHr.wr W232 (Safe.arv hZ.alike V_b225 (by decide)) CR225.1)
    have Sf233 : Sta Z h232 "java/lang/String" "COMPACT_STRINGS" "Z" (.int gc1) := (Sf226).wr W232
    have Ef234 : Exa Z h232 b221 "java/lang/String" := (Ef227).wr W232
    have Ff235 : Fld Z h232 b221 "java/lang/String" "value" "[B" .null := (Ff228).other W232 (Or.inl ne_b221_b225)
    have Ff236 : Fld Z h232 b221 "java/lang/String" "coder" "B" (.int 0) := (Ff229).other W232 (Or.inl ne_b221_b225)
    have Ef237 : Exa Z h232 b225 "[C" := (C225).wr W232
    have V232 : Arv Z h232 b225 k225 .char (2 : Int32) [(.int (nar .char p1)), (.int 0)] (.int 0) := Arv.set Ar232 q232 S232 M232 H232 G232 (fits_nar_char _) W232 0 rfl (Nat.le_of_ble_eq_true rfl)
    have pre238 : own_P p e below T232 (mkF m 51 #[vI p0, vI p1, vI p2, vI p3, vI p4] [(.ref b225), (.ref b221), (.ref b221)]) s₁ (entryFrame m #[(.int p0), (.int p1), (.int p2), (.int p3), (.int p4)] 5) := fun t k => pre231 t (st232 t k)
    have pre239 : own_P p e below T232 (mkF m 54 #[vI p0, vI p1, vI p2, vI p3, vI p4] [(.int p2), (.int 1), (.ref b225), (.ref b225), (.ref b221), (.ref b221)]) s₁ (entryFrame m #[(.int p0), (.int p1), (.int p2), (.int p3), (.int p4)] 5) := by
     intro t k
     refine pre238 t ?_
     refine XS.dup X232.here hx rfl (hb hby d5_51) rfl rfl ?_
     refine XS.iconst X232.here hx rfl (hb hby d5_52) ?_
     refine XS.iloadN X232.here hx rfl (hb hby d5_53) rfl ?_
     exact k
    obtain ⟨cl240, Ar240, q240, S240, M240, H240, G240⟩ := id V232
    have hin240 : ¬ ((1 : Int32) < 0 ∨ cl240.slots.size ≤ ((1 : Int32)).toNatClampNeg) := inb_of S240 ⟨by decide, by decide⟩
    obtain ⟨T240, h240, X240, e240, W240, st240⟩ := stC X232 hx hZ e232 Ar240 (j := (1 : Int32)) hin240 (g := (mkF m 54 #[vI p0, vI p1, vI p2, vI p3, vI p4] [(.int p2), (.int 1), (.ref b225), (.ref b225), (.ref b221), (.ref b221)])) rfl rfl (hb hby d5_54)
    have Z240 : n0 ≤ h240.size := Nat.le_trans Z232 (Keep.of_wr W240).1
    have K240 : Keep h0 h240 [] := K232.wr W240 (Or.inr sz_b225)
    have N240 := Fr.snoc X240 N232 g_b225
    have hk240 := Nat.le_trans hk232 (Keep.of_wr W240).1
    have sf_b221_240 := Safe.wr W240 (Safe.arv hZ.alike V232 (by decide)) CR232.1 sf_b221_232
    have CR240 := CR232.trans (CHr.wr W240 (Safe.arv hZ.alike V232 (by decide)) CR232.1)
    have Sf241 : Sta Z h240 "java/lang/String" "COMPACT_STRINGS" "Z" (.int gc1) := (Sf233).wr W240
    have Ef242 : Exa Z h240 b221 "java/lang/String" := (Ef234).wr W240
    have Ff243 : Fld Z h240 b221 "java/lang/String" "value" "[B" .null := (Ff235).other W240 (Or.inl ne_b221_b225)
    have Ff244 : Fld Z h240 b221 "java/lang/String" "coder" "B" (.int 0) := (Ff236).other W240 (Or.inl ne_b221_b225)
    have Ef245 : Exa Z h240 b225 "[C" := (Ef237).wr W240
    have V240 : Arv Z h240 b225 k225 .char (2 : Int32) [(.int (nar .char p1)), (.int (nar .char p2))] (.int 0) := Arv.set Ar240 q240 S240 M240 H240 G240 (fits_nar_char _) W240 1 rfl (Nat.le_of_ble_eq_true rfl)
    have pre246 : own_P p e below T240 (mkF m 55 #[vI p0, vI p1, vI p2, vI p3, vI p4] [(.ref b225), (.ref b221), (.ref b221)]) s₁ (entryFrame m #[(.int p0), (.int p1), (.int p2), (.int p3), (.int p4)] 5) := fun t k => pre239 t (st240 t k)
    have hp248 : ∀ c ∈ ([(nar .char p1), (nar .char p2)] : List Int32), ¬ c < 0 ∧ ¬ (255 : Int32) < c := own_hpN (own_allS hq1 (own_all1 hq2))
    obtain ⟨_, _, ⟨T247, L247, k247, n247⟩, -, X247, ⟨Lc247, hQ247, l247, y247, z247⟩, st247⟩ := X240.specialBack hx (y := (⟨"java/lang/String", "<init>", "([C)V"⟩ : MethodName)) rfl hown (mvT hZ (own_w hw 33 rfl)) (mvT hZ (own_w hw 34 rfl)) (mvT hZ (own_w hw 35 rfl)) (by decide) (StrChars.Road.backV (W := 1) hZ (own_words hw) (kI := 4) (own_w hw 2 rfl) (cs := ([(nar .char p1), (nar .char p2)] : List Int32)) (bs := (([(nar .char p1), (nar .char p2)] : List Int32)).map (fun c => c.toInt8.toInt32)) (n := 2) g_b221 Z240 Ef242 Ff243 Ff244 V240 Sf241 P5 rfl rfl (by decide) (by decide) hp248 rfl (by decide) (by decide)) (g := (mkF m 55 #[vI p0, vI p1, vI p2, vI p3, vI p4] [(.ref b225), (.ref b221), (.ref b221)])) rfl (by rw [hml]; rfl) (Steps.refl _) (a := b221) (argsL := [(.ref b225)]) (rest := [(.ref b221)]) (lenOf pd_3 rfl) rfl (by show 2 * 0 + _ ≤ _; exact Nat.le_of_eq rfl) (hb hby d5_55) (fun _ _ => ⟨rfl, e240, (by decide : 2 + 1 ≤ _), (by decide : 6 + 2 ≤ _)⟩)
    dsimp only [Pt.U, Pt.locs, Pt.cells, Pt.slots] at X247 l247 y247 z247 st247 hQ247
    subst l247 y247 z247
    obtain ⟨h247, e247⟩ : ∃ h, T247.heap = h := ⟨_, rfl⟩
    rw [e247] at hQ247
    obtain ⟨rfl, N247q, K247q, QE247, QC247, t247, kt247, g_t247, y_t247, ne247, QV247, QB247⟩ := hQ247
    have N247 := Fr.app N240 N247q
    have ne_b221_t247 : b221 ≠ t247 := Nat.ne_of_lt (Nat.lt_of_lt_of_le (Ef242).lt y_t247)
    have ne_b225_t247 : b225 ≠ t247 := Nat.ne_of_lt (Nat.lt_of_lt_of_le (Ef245).lt y_t247)
    have sz_t247 : h0.size ≤ t247 := Nat.le_trans K240.1 y_t247
    have Z247 : n0 ≤ h247.size := Nat.le_trans Z240 K247q.1
    have K247 : Keep h0 h247 [] := K240.trans K247q (fun x hx => by cases List.mem_singleton.mp hx; exact Or.inr sz_b221)
    have hk247 := Nat.le_trans hk240 K247q.1
    have sf_b221_247 := Safe.keep K247q (sfS sf_b221_240 sf0) CR240.1 sf_b221_240
    have CR247 := CR240.trans (CHr.keep K247q (sfS sf_b221_240 sf0) CR240.1)
    have Sf249 : Sta Z h247 "java/lang/String" "COMPACT_STRINGS" "Z" (.int gc1) := own_sta_keep Sf241 K247q (own_ns1 (own_ns_exa Ef242))
    have Ef250 : Exa Z h247 b225 "[C" := (Ef245).keep K247q
    have Vf251 : Arv Z h247 b225 k225 .char (2 : Int32) [(.int (nar .char p1)), (.int (nar .char p2))] (.int 0) := (V240).keep K247q (fun q => absurd (List.mem_singleton.mp q) ne_b221_b225.symm)
    have hcd247 : StrChars.Road.CodA ([(nar .char p1), (nar .char p2)] : List Int32) 0 (2 : Int32) ((([(nar .char p1), (nar .char p2)] : List Int32).map (fun c => c.toInt8.toInt32)).map Value.int) := StrChars.Road.codOf (n := 2) rfl (fun x hx => (hp248 x hx).2)
    have hbd247 := own_up _ hp248
    have pre252 : own_P p e below T247 (mkF m 58 #[vI p0, vI p1, vI p2, vI p3, vI p4] [(.ref b221)]) s₁ (entryFrame m #[(.int p0), (.int p1), (.int p2), (.int p3), (.int p4)] 5) := fun t k => pre246 t (st247.trans k)
    have Bm253 : Arv Z h247 t247 kt247 .byte (Int32.ofNat (own_cs p0 p1 p2 p3 p4).length) ((((own_cs p0 p1 p2 p3 p4) : List Int32).map (fun c => c.toInt8.toInt32)).map Value.int) (.int 0) := by rw [own_cs2 hc1_171 hc17_191 hc37_219]; have q := QB247; rw [own_nar hq1, own_nar hq2] at q; exact q
    obtain ⟨fs, hr, hrun, hended, hRW⟩ := X247.leaveW (s := s) (vm₁ := s.vm) hS0 (by rw [e247]; first | exact hk247 | exact Nat.le_refl _) (v := some (.ref b221)) (fun h => by rw [Bd.returns] at h; cases h)
    refine ⟨_, _, pre252 _ ?_, hrun, hended, _, _, rfl, ?_, ?_, hRW.1, hRW.2.1, hRW.2.2.1, hRW.2.2.2.mono (by decide) (by decide)⟩
    ·
     exact retOut X247 hx Bd.returns rfl (Or.inr (Or.inr (Or.inr (Or.inr ⟨rfl, rfl, rfl⟩)))) (hb hby d5_58) hr
    ·
     show Q5 Z p0 p1 p2 p3 p4 gc1 h0 n0 _ T247.heap _
     rw [e247]
     exact ⟨b221, t247, kt247, rfl, N247, K247, sz_b221, QE247, QV247, QC247, Bm253⟩
    ·
     have q := CR247.trans (CHv.at X247 hZ hEL CR247.1)
     rw [hh]
     show CHr _ _ _ _ T247.vm T247.heap
     rw [e247]
     exact q
   ·
    have pre254 : ∀ t, Steps p.tables e below (s₁.setTop (mkF m 61 #[vI p0, vI p1, vI p2, vI p3, vI p4] [(.int 3), (.int p0)])) t → Steps p.tables e below (s₁.setTop (entryFrame m #[(.int p0), (.int p1), (.int p2), (.int p3), (.int p4)] 5)) t := by
     intro t k
     refine pre218 t ?_
     refine XS.icmpYes X0.here hx rfl (pc0 := 37) (pc' := 59) rfl (hb hby d5_37) rfl (feq hc37_219).2 (by decide) (by decide) ?_
     refine XS.iloadN X0.here hx rfl (hb hby d5_59) rfl ?_
     refine XS.iconst X0.here hx rfl (hb hby d5_60) ?_
     exact k
    by_cases hc61_255 : p0 = (3 : Int32)
    ·
     have pre256 : ∀ t, Steps p.tables e below (s₁.setTop (mkF m 64 #[vI p0, vI p1, vI p2, vI p3, vI p4] [])) t → Steps p.tables e below (s₁.setTop (entryFrame m #[(.int p0), (.int p1), (.int p2), (.int p3), (.int p4)] 5)) t := by
      intro t k
      refine pre254 t ?_
      refine XS.icmpNo X0.here hx rfl (hb hby d5_61) rfl (teq hc61_255).2 ?_
      exact k
     obtain ⟨T257, h257, X257, e257, E257, A257, D257, -, st257⟩ := newO X0 hx hZ hown (own_w hw 31 rfl) (own_w hw 2 rfl) (own_w hw 1 rfl) e0 (g := (mkF m 64 #[vI p0, vI p1, vI p2, vI p3, vI p4] [])) rfl (hb hby d5_64) (by decide) (by decide)
     obtain ⟨b257, g257⟩ : ∃ z, z = h0.size := ⟨_, rfl⟩
     rw [← g257] at A257 D257 st257
     have g_b257 : n0 ≤ b257 := Nat.le_trans Z0 (Nat.le_of_eq g257.symm)
     have sz_b257 : h0.size ≤ b257 := Nat.le_trans (Keep.refl h0 []).1 (Nat.le_of_eq g257.symm)
     have Z257 : n0 ≤ h257.size := Nat.le_trans Z0 E257.1
     have K257 : Keep h0 h257 [] := (Keep.refl h0 []).ext E257
     have hk257 := Nat.le_trans (Nat.zero_le _) E257.1
     have CR257 := hCR0.trans (CHr.ext E257 hCR0.1)
     have Sf258 : Sta Z h257 "java/lang/String" "COMPACT_STRINGS" "Z" (.int gc1) := (S_COMPACT_STRINGS).ext E257
     have sf_b257 := Safe.ext E257 hCR0.1 (Safe.new (Nat.le_of_eq g257.symm))
     have Fvalue_b257 : Fld Z h257 b257 "java/lang/String" "value" "[B" .null := D257 (Or.inr (own_w hw 4 rfl)) (ty := (.array .byte)) (by decide)
     have Fcoder_b257 : Fld Z h257 b257 "java/lang/String" "coder" "B" (.int 0) := D257 (Or.inr (own_w hw 5 rfl)) (ty := .byte) (by decide)
     have pre259 : own_P p e below T257 (mkF m 67 #[vI p0, vI p1, vI p2, vI p3, vI p4] [(.ref b257)]) s₁ (entryFrame m #[(.int p0), (.int p1), (.int p2), (.int p3), (.int p4)] 5) := fun t k => pre256 t (st257 t k)
     have pre260 : own_P p e below T257 (mkF m 69 #[vI p0, vI p1, vI p2, vI p3, vI p4] [(.int 3), (.ref b257), (.ref b257)]) s₁ (entryFrame m #[(.int p0), (.int p1), (.int p2), (.int p3), (.int p4)] 5) := by
      intro t k
      refine pre259 t ?_
      refine XS.dup X257.here hx rfl (hb hby d5_67) rfl rfl ?_
      refine XS.iconst X257.here hx rfl (hb hby d5_68) ?_
      exact k
     obtain ⟨T261, h261, k261, X261, e261, E261, A261, C261, st261⟩ := newPE X257 hx hZ (own_w hw 32 rfl) e257 (g := (mkF m 69 #[vI p0, vI p1, vI p2, vI p3, vI p4] [(.int 3), (.ref b257), (.ref b257)])) rfl (hb hby d5_69) rfl (by decide) (cap := 3) (by decide) (by decide) (by decide) (by decide) (ad := "[C") rfl
     obtain ⟨b261, g261⟩ : ∃ z, z = h257.size := ⟨_, rfl⟩
     rw [← g261] at A261 C261 st261
     have ne_b257_b261 : b257 ≠ b261 := Nat.ne_of_lt (Nat.lt_of_lt_of_le (A257).lt (Nat.le_of_eq g261.symm))
     have g_b261 : n0 ≤ b261 := Nat.le_trans Z257 (Nat.le_of_eq g261.symm)
     have sz_b261 : h0.size ≤ b261 := Nat.le_trans K257.1 (Nat.le_of_eq g261.symm)
     have Z261 : n0 ≤ h261.size := Nat.le_trans Z257 E261.1
     have K261 : Keep h0 h261 [] := K257.ext E261
     have hk261 := Nat.le_trans hk257 E261.1
     have sf_b257_261 := Safe.ext E261 CR257.1 sf_b257
     have CR261 := CR257.trans (CHr.ext E261 CR257.1)
     have Sf262 : Sta Z h261 "java/lang/String" "COMPACT_STRINGS" "Z" (.int gc1) := (Sf258).ext E261
     have Ef263 : Exa Z h261 b257 "java/lang/String" := (A257).ext E261
     have Ff264 : Fld Z h261 b257 "java/lang/String" "value" "[B" .null := (Fvalue_b257).ext E261
     have Ff265 : Fld Z h261 b257 "java/lang/String" "coder" "B" (.int 0) := (Fcoder_b257).ext E261
     have V_b261 : Arv Z h261 b261 k261 .char (3 : Int32) [(.int 0), (.int 0), (.int 0)] (.int 0) := (Arv.new A261 (by decide)).pad (pad_rep [] (.int 0) 3)
     have pre266 : own_P p e below T261 (mkF m 71 #[vI p0, vI p1, vI p2, vI p3, vI p4] [(.ref b261), (.ref b257), (.ref b257)]) s₁ (entryFrame m #[(.int p0), (.int p1), (.int p2), (.int p3), (.int p4)] 5) := fun t k => pre260 t (st261 t k)
     have pre267 : own_P p e below T261 (mkF m 74 #[vI p0, vI p1, vI p2, vI p3, vI p4] [(.int p1), (.int 0), (.ref b261), (.ref b261), (.ref b257), (.ref b257)]) s₁ (entryFrame m #[(.int p0), (.int p1), (.int p2), (.int p3), (.int p4)] 5) := by
      intro t k
      refine pre266 t ?_
      refine XS.dup X261.here hx rfl (hb hby d5_71) rfl rfl ?_
      refine XS.iconst X261.here hx rfl (hb hby d5_72) ?_
      refine XS.iloadN X261.here hx rfl (hb hby d5_73) rfl ?_
      exact k
     obtain ⟨cl268, Ar268, q268, S268, M268, H268, G268⟩ := id V_b261
     have hin268 : ¬ ((0 : Int32) < 0 ∨ cl268.slots.size ≤ ((0 : Int32)).toNatClampNeg) := inb_of S268 ⟨by decide, by decide⟩
     obtain ⟨T268, h268, X268, e268, W268, st268⟩ := stC X261 hx hZ e261 Ar268 (j := (0 : Int32)) hin268 (g := (mkF m 74 #[vI p0, vI p1, vI p2, vI p3, vI p4] [(.int p1), (.int 0), (.ref b261), (.ref b261), (.ref b257), (.ref b257)])) rfl rfl (hb hby d5_74)
     have Z268 : n0 ≤ h268.size := Nat.le_trans Z261 (Keep.of_wr W268).1
     have K268 : Keep h0 h268 [] := K261.wr W268 (Or.inr sz_b261)
     have N268 := Fr.snoc X268 N0 g_b261
     have hk268 := Nat.le_trans hk261 (Keep.of_wr W268).1
     have sf_b257_268 := Safe.wr W268 (Safe.arv hZ.alike V_b261 (by decide)) CR261.1 sf_b257_261
     have CR268 := CR261.trans (CHr.wr W268 (Safe.arv hZ.alike V_b261 (by decide)) CR261.1)
     have Sf269 : Sta Z h268 "java/lang/String" "COMPACT_STRINGS" "Z" (.int gc1) := (Sf262).wr W268
     have Ef270 : Exa Z h268 b257 "java/lang/String" := (Ef263).wr W268
     have Ff271 : Fld Z h268 b257 "java/lang/String" "value" "[B" .null := (Ff264).other W268 (Or.inl ne_b257_b261)
     have Ff272 : Fld Z h268 b257 "java/lang/String" "coder" "B" (.int 0) := (Ff265).other W268 (Or.inl ne_b257_b261)
     have Ef273 : Exa Z h268 b261 "[C" := (C261).wr W268
     have V268 : Arv Z h268 b261 k261 .char (3 : Int32) [(.int (nar .char p1)), (.int 0), (.int 0)] (.int 0) := Arv.set Ar268 q268 S268 M268 H268 G268 (fits_nar_char _) W268 0 rfl (Nat.le_of_ble_eq_true rfl)
     have pre274 : own_P p e below T268 (mkF m 75 #[vI p0, vI p1, vI p2, vI p3, vI p4] [(.ref b261), (.ref b257), (.ref b257)]) s₁ (entryFrame m #[(.int p0), (.int p1), (.int p2), (.int p3), (.int p4)] 5) := fun t k => pre267 t (st268 t k)
     have pre275 : own_P p e below T268 (mkF m 78 #[vI p0, vI p1, vI p2, vI p3, vI p4] [(.int p2), (.int 1), (.ref b261), (.ref b261), (.ref b257), (.ref b257)]) s₁ (entryFrame m #[(.int p0), (.int p1), (.int p2), (.int p3), (.int p4)] 5) := by
      intro t k
      refine pre274 t ?_
      refine XS.dup X268.here hx rfl (hb hby d5_75) rfl rfl ?_
      refine XS.iconst X268.here hx rfl (hb hby d5_76) ?_
      refine XS.iloadN X268.here hx rfl (hb hby d5_77) rfl ?_
      exact k
     obtain ⟨cl276, Ar276, q276, S276, M276, H276, G276⟩ := id V268
     have hin276 : ¬ ((1 : Int32) < 0 ∨ cl276.slots.size ≤ ((1 : Int32)).toNatClampNeg) := inb_of S276 ⟨by decide, by decide⟩
     obtain ⟨T276, h276, X276, e276, W276, st276⟩ := stC X268 hx hZ e268 Ar276 (j := (1 : Int32)) hin276 (g := (mkF m 78 #[vI p0, vI p1, vI p2, vI p3, vI p4] [(.int p2), (.int 1), (.ref b261), (.ref b261), (.ref b257), (.ref b257)])) rfl rfl (hb hby d5_78)
     have Z276 : n0 ≤ h276.size := Nat.le_trans Z268 (Keep.of_wr W276).1
     have K276 : Keep h0 h276 [] := K268.wr W276 (Or.inr sz_b261)
     have N276 := Fr.snoc X276 N268 g_b261
     have hk276 := Nat.le_trans hk268 (Keep.of_wr W276).1
     have sf_b257_276 := Safe.wr W276 (Safe.arv hZ.alike V268 (by decide)) CR268.1 sf_b257_268
     have CR276 := CR268.trans (CHr.wr W276 (Safe.arv hZ.alike V268 (by decide)) CR268.1)
     have Sf277 : Sta Z h276 "java/lang/String" "COMPACT_STRINGS" "Z" (.int gc1) := (Sf269).wr W276
     have Ef278 : Exa Z h276 b257 "java/lang/String" := (Ef270).wr W276
     have Ff279 : Fld Z h276 b257 "java/lang/String" "value" "[B" .null := (Ff271).other W276 (Or.inl ne_b257_b261)
     have Ff280 : Fld Z h276 b257 "java/lang/String" "coder" "B" (.int 0) := (Ff272).other W276 (Or.inl ne_b257_b261)
     have Ef281 : Exa Z h276 b261 "[C" := (Ef273).wr W276
     have V276 : Arv Z h276 b261 k261 .char (3 : Int32) [(.int (nar .char p1)), (.int (nar .char p2)), (.int 0)] (.int 0) := Arv.set Ar276 q276 S276 M276 H276 G276 (fits_nar_char _) W276 1 rfl (Nat.le_of_ble_eq_true rfl)
     have pre282 : own_P p e below T276 (mkF m 79 #[vI p0, vI p1, vI p2, vI p3, vI p4] [(.ref b261), (.ref b257), (.ref b257)]) s₁ (entryFrame m #[(.int p0), (.int p1), (.int p2), (.int p3), (.int p4)] 5) := fun t k => pre275 t (st276 t k)
     have pre283 : own_P p e below T276 (mkF m 82 #[vI p0, vI p1, vI p2, vI p3, vI p4] [(.int p3), (.int 2), (.ref b261), (.ref b261), (.ref b257), (.ref b257)]) s₁ (entryFrame m #[(.int p0), (.int p1), (.int p2), (.int p3), (.int p4)] 5) := by
      intro t k
      refine pre282 t ?_
      refine XS.dup X276.here hx rfl (hb hby d5_79) rfl rfl ?_
      refine XS.iconst X276.here hx rfl (hb hby d5_80) ?_
      refine XS.iloadN X276.here hx rfl (hb hby d5_81) rfl ?_
      exact k
     obtain ⟨cl284, Ar284, q284, S284, M284, H284, G284⟩ := id V276
     have hin284 : ¬ ((2 : Int32) < 0 ∨ cl284.slots.size ≤ ((2 : Int32)).toNatClampNeg) := inb_of S284 ⟨by decide, by decide⟩
     obtain ⟨T284, h284, X284, e284, W284, st284⟩ := stC X276 hx hZ e276 Ar284 (j := (2 : Int32)) hin284 (g := (mkF m 82 #[vI p0, vI p1, vI p2, vI p3, vI p4] [(.int p3), (.int 2), (.ref b261), (.ref b261), (.ref b257), (.ref b257)])) rfl rfl (hb hby d5_82)
     have Z284 : n0 ≤ h284.size := Nat.le_trans Z276 (Keep.of_wr W284).1
     have K284 : Keep h0 h284 [] := K276.wr W284 (Or.inr sz_b261)
     have N284 := Fr.snoc X284 N276 g_b261
     have hk284 := Nat.le_trans hk276 (Keep.of_wr W284).1
     have sf_b257_284 := Safe.wr W284 (Safe.arv hZ.alike V276 (by decide)) CR276.1 sf_b257_276
     have CR284 := CR276.trans (CHr.wr W284 (Safe.arv hZ.alike V276 (by decide)) CR276.1)
     have Sf285 : Sta Z h284 "java/lang/String" "COMPACT_STRINGS" "Z" (.int gc1) := (Sf277).wr W284
     have Ef286 : Exa Z h284 b257 "java/lang/String" := (Ef278).wr W284
     have Ff287 : Fld Z h284 b257 "java/lang/String" "value" "[B" .null := (Ff279).other W284 (Or.inl ne_b257_b261)
     have Ff288 : Fld Z h284 b257 "java/lang/String" "coder" "B" (.int 0) := (Ff280).other W284 (Or.inl ne_b257_b261)
     have Ef289 : Exa Z h284 b261 "[C" := (Ef281).wr W284
     have V284 : Arv Z h284 b261 k261 .char (3 : Int32) [(.int (nar .char p1)), (.int (nar .char p2)), (.int (nar .char p3))] (.int 0) := Arv.set Ar284 q284 S284 M284 H284 G284 (fits_nar_char _) W284 2 rfl (Nat.le_of_ble_eq_true rfl)
     have pre290 : own_P p e below T284 (mkF m 83 #[vI p0, vI p1, vI p2, vI p3, vI p4] [(.ref b261), (.ref b257), (.ref b257)]) s₁ (entryFrame m #[(.int p0), (.int p1), (.int p2), (.int p3), (.int p4)] 5) := fun t k => pre283 t (st284 t k)
     have hp292 : ∀ c ∈ ([(nar .char p1), (nar .char p2), (nar .char p3)] : List Int32), ¬ c < 0 ∧ ¬ (255 : Int32) < c := own_hpN (own_allS hq1 (own_allS hq2 (own_all1 hq3)))
     obtain ⟨_, _, ⟨T291, L291, k291, n291⟩, -, X291, ⟨Lc291, hQ291, l291, y291, z291⟩, st291⟩ := X284.specialBack hx (y := (⟨"java/lang/String", "<init>", "([C)V"⟩ : MethodName)) rfl hown (mvT hZ (own_w hw 33 rfl)) (mvT hZ (own_w hw 34 rfl)) (mvT hZ (own_w hw 35 rfl)) (by decide) (StrChars.Road.backV (W := 1) hZ (own_words hw) (kI := 4) (own_w hw 2 rfl) (cs := ([(nar .char p1), (nar .char p2), (nar .char p3)] : List Int32)) (bs := (([(nar .char p1), (nar .char p2), (nar .char p3)] : List Int32)).map (fun c => c.toInt8.toInt32)) (n := 3) g_b257 Z284 Ef286 Ff287 Ff288 V284 Sf285 P5 rfl rfl (by decide) (by decide) hp292 rfl (by decide) (by decide)) (g := (mkF m 83 #[vI p0, vI p1, vI p2, vI p3, vI p4] [(.ref b261), (.ref b257), (.ref b257)])) rfl (by rw [hml]; rfl) (Steps.refl _) (a := b257) (argsL := [(.ref b261)]) (rest := [(.ref b257)]) (lenOf pd_3 rfl) rfl (by show 2 * 0 + _ ≤ _; exact Nat.le_of_eq rfl) (hb hby d5_83) (fun _ _ => ⟨rfl, e284, (by decide : 2 + 1 ≤ _), (by decide : 7 + 3 ≤ _)⟩)
     dsimp only [Pt.U, Pt.locs, Pt.cells, Pt.slots] at X291 l291 y291 z291 st291 hQ291
     subst l291 y291 z291
     obtain ⟨h291, e291⟩ : ∃ h, T291.heap = h := ⟨_, rfl⟩
     rw [e291] at hQ291
     obtain ⟨rfl, N291q, K291q, QE291, QC291, t291, kt291, g_t291, y_t291, ne291, QV291, QB291⟩ := hQ291
     have N291 := Fr.app N284 N291q
     have ne_b257_t291 : b257 ≠ t291 := Nat.ne_of_lt (Nat.lt_of_lt_of_le (Ef286).lt y_t291)
     have ne_b261_t291 : b261 ≠ t291 := Nat.ne_of_lt (Nat.lt_of_lt_of_le (Ef289).lt y_t291)
     have sz_t291 : h0.size ≤ t291 := Nat.le_trans K284.1 y_t291
     have Z291 : n0 ≤ h291.size := Nat.le_trans Z284 K291q.1
     have K291 : Keep h0 h291 [] := K284.trans K291q (fun x hx => by cases List.mem_singleton.mp hx; exact Or.inr sz_b257)
     have hk291 := Nat.le_trans hk284 K291q.1
     have sf_b257_291 := Safe.keep K291q (sfS sf_b257_284 sf0) CR284.1 sf_b257_284
     have CR291 := CR284.trans (CHr.keep K291q (sfS sf_b257_284 sf0) CR284.1)
     have Sf293 : Sta Z h291 "java/lang/String" "COMPACT_STRINGS" "Z" (.int gc1) := own_sta_keep Sf285 K291q (own_ns1 (own_ns_exa Ef286))
     have Ef294 : Exa Z h291 b261 "[C" := (Ef289).keep K291q
     have Vf295 : Arv Z h291 b261 k261 .char (3 : Int32) [(.int (nar .char p1)), (.int (nar .char p2)), (.int (nar .char p3))] (.int 0) := (V284).keep K291q (fun q => absurd (List.mem_singleton.mp q) ne_b257_b261.symm)
     have hcd291 : StrChars.Road.CodA ([(nar .char p1), (nar .char p2), (nar .char p3)] : List Int32) 0 (3 : Int32) ((([(nar .char p1), (nar .char p2), (nar .char p3)] : List Int32).map (fun c => c.toInt8.toInt32)).map Value.int) := StrChars.Road.codOf (n := 3) rfl (fun x hx => (hp292 x hx).2)
     have hbd291 := own_up _ hp292
     have pre296 : own_P p e below T291 (mkF m 86 #[vI p0, vI p1, vI p2, vI p3, vI p4] [(.ref b257)]) s₁ (entryFrame m #[(.int p0), (.int p1), (.int p2), (.int p3), (.int p4)] 5) := fun t k => pre290 t (st291.trans k)
     have Bm297 : Arv Z h291 t291 kt291 .byte (Int32.ofNat (own_cs p0 p1 p2 p3 p4).length) ((((own_cs p0 p1 p2 p3 p4) : List Int32).map (fun c => c.toInt8.toInt32)).map Value.int) (.int 0) := by rw [own_cs3 hc1_171 hc17_191 hc37_219 hc61_255]; have q := QB291; rw [own_nar hq1, own_nar hq2, own_nar hq3] at q; exact q
     obtain ⟨fs, hr, hrun, hended, hRW⟩ := X291.leaveW (s := s) (vm₁ := s.vm) hS0 (by rw [e291]; first | exact hk291 | exact Nat.le_refl _) (v := some (.ref b257)) (fun h => by rw [Bd.returns] at h; cases h)
     refine ⟨_, _, pre296 _ ?_, hrun, hended, _, _, rfl, ?_, ?_, hRW.1, hRW.2.1, hRW.2.2.1, hRW.2.2.2.mono (by decide) (by decide)⟩
     ·
      exact retOut X291 hx Bd.returns rfl (Or.inr (Or.inr (Or.inr (Or.inr ⟨rfl, rfl, rfl⟩)))) (hb hby d5_86) hr
     ·
      show Q5 Z p0 p1 p2 p3 p4 gc1 h0 n0 _ T291.heap _
      rw [e291]
      exact ⟨b257, t291, kt291, rfl, N291, K291, sz_b257, QE291, QV291, QC291, Bm297⟩
     ·
      have q := CR291.trans (CHv.at X291 hZ hEL CR291.1)
      rw [hh]
      show CHr _ _ _ _ T291.vm T291.heap
      rw [e291]
      exact q
    ·
     have pre298 : ∀ t, Steps p.tables e below (s₁.setTop (mkF m 87 #[vI p0, vI p1, vI p2, vI p3, vI p4] [])) t → Steps p.tables e below (s₁.setTop (entryFrame m #[(.int p0), (.int p1), (.int p2), (.int p3), (.int p4)] 5)) t := by
      intro t k
      refine pre254 t ?_
      refine XS.icmpYes X0.here hx rfl (pc0 := 61) (pc' := 87) rfl (hb hby d5_61) rfl (feq hc61_255).2 (by decide) (by decide) ?_
      exact k
     obtain ⟨T299, h299, X299, e299, E299, A299, D299, -, st299⟩ := newO X0 hx hZ hown (own_w hw 31 rfl) (own_w hw 2 rfl) (own_w hw 1 rfl) e0 (g := (mkF m 87 #[vI p0, vI p1, vI p2, vI p3, vI p4] [])) rfl (hb hby d5_87) (by decide) (by decide)
     obtain ⟨b299, g299⟩ : ∃ z, z = h0.size := ⟨_, rfl⟩
     rw [← g299] at A299 D299 st299
     have g_b299 : n0 ≤ b299 := Nat.le_trans Z0 (Nat.le_of_eq g299.symm)
     have sz_b299 : h0.size ≤ b299 := Nat.le_trans (Keep.refl h0 []).1 (Nat.le_of_eq g299.symm)
     have Z299 : n0 ≤ h299.size := Nat.le_trans Z0 E299.1
     have K299 : Keep h0 h299 [] := (Keep.refl h0 []).ext E299
     have hk299 := Nat.le_trans (Nat.zero_le _) E299.1
     have CR299 := hCR0.trans (CHr.ext E299 hCR0.1)
     have Sf300 : Sta Z h299 "java/lang/String" "COMPACT_STRINGS" "Z" (.int gc1) := (S_COMPACT_STRINGS).ext E299
     have sf_b299 := Safe.ext E299 hCR0.1 (Safe.new (Nat.le_of_eq g299.symm))
     have Fvalue_b299 : Fld Z h299 b299 "java/lang/String" "value" "[B" .null := D299 (Or.inr (own_w hw 4 rfl)) (ty := (.array .byte)) (by decide)
     have Fcoder_b299 : Fld Z h299 b299 "java/lang/String" "coder" "B" (.int 0) := D299 (Or.inr (own_w hw 5 rfl)) (ty := .byte) (by decide)
     have pre301 : own_P p e below T299 (mkF m 90 #[vI p0, vI p1, vI p2, vI p3, vI p4] [(.ref b299)]) s₁ (entryFrame m #[(.int p0), (.int p1), (.int p2), (.int p3), (.int p4)] 5) := fun t k => pre298 t (st299 t k)
     have pre302 : own_P p e below T299 (mkF m 92 #[vI p0, vI p1, vI p2, vI p3, vI p4] [(.int 4), (.ref b299), (.ref b299)]) s₁ (entryFrame m #[(.int p0), (.int p1), (.int p2), (.int p3), (.int p4)] 5) := by
      intro t k
      refine pre301 t ?_
      refine XS.dup X299.here hx rfl (hb hby d5_90) rfl rfl ?_
      refine XS.iconst X299.here hx rfl (hb hby d5_91) ?_
      exact k
     obtain ⟨T303, h303, k303, X303, e303, E303, A303, C303, st303⟩ := newPE X299 hx hZ (own_w hw 32 rfl) e299 (g := (mkF m 92 #[vI p0, vI p1, vI p2, vI p3, vI p4] [(.int 4), (.ref b299), (.ref b299)])) rfl (hb hby d5_92) rfl (by decide) (cap := 4) (by decide) (by decide) (by decide) (by decide) (ad := "[C") rfl
     obtain ⟨b303, g303⟩ : ∃ z, z = h299.size := ⟨_, rfl⟩
     rw [← g303] at A303 C303 st303
     have ne_b299_b303 : b299 ≠ b303 := Nat.ne_of_lt (Nat.lt_of_lt_of_le (A299).lt (Nat.le_of_eq g303.symm))
     have g_b303 : n0 ≤ b303 := Nat.le_trans Z299 (Nat.le_of_eq g303.symm)
     have sz_b303 : h0.size ≤ b303 := Nat.le_trans K299.1 (Nat.le_of_eq g303.symm)
     have Z303 : n0 ≤ h303.size := Nat.le_trans Z299 E303.1
     have K303 : Keep h0 h303 [] := K299.ext E303
     have hk303 := Nat.le_trans hk299 E303.1
     have sf_b299_303 := Safe.ext E303 CR299.1 sf_b299
     have CR303 := CR299.trans (CHr.ext E303 CR299.1)
     have Sf304 : Sta Z h303 "java/lang/String" "COMPACT_STRINGS" "Z" (.int gc1) := (Sf300).ext E303
     have Ef305 : Exa Z h303 b299 "java/lang/String" := (A299).ext E303
     have Ff306 : Fld Z h303 b299 "java/lang/String" "value" "[B" .null := (Fvalue_b299).ext E303
     have Ff307 : Fld Z h303 b299 "java/lang/String" "coder" "B" (.int 0) := (Fcoder_b299).ext E303
     have V_b303 : Arv Z h303 b303 k303 .char (4 : Int32) [(.int 0), (.int 0), (.int 0), (.int 0)] (.int 0) := (Arv.new A303 (by decide)).pad (pad_rep [] (.int 0) 4)
     have pre308 : own_P p e below T303 (mkF m 94 #[vI p0, vI p1, vI p2, vI p3, vI p4] [(.ref b303), (.ref b299), (.ref b299)]) s₁ (entryFrame m #[(.int p0), (.int p1), (.int p2), (.int p3), (.int p4)] 5) := fun t k => pre302 t (st303 t k)
     have pre309 : own_P p e below T303 (mkF m 97 #[vI p0, vI p1, vI p2, vI p3, vI p4] [(.int p1), (.int 0), (.ref b303), (.ref b303), (.ref b299), (.ref b299)]) s₁ (entryFrame m #[(.int p0), (.int p1), (.int p2), (.int p3), (.int p4)] 5) := by
      intro t k
      refine pre308 t ?_
      refine XS.dup X303.here hx rfl (hb hby d5_94) rfl rfl ?_
      refine XS.iconst X303.here hx rfl (hb hby d5_95) ?_
      refine XS.iloadN X303.here hx rfl (hb hby d5_96) rfl ?_
      exact k
     obtain ⟨cl310, Ar310, q310, S310, M310, H310, G310⟩ := id V_b303
     have hin310 : ¬ ((0 : Int32) < 0 ∨ cl310.slots.size ≤ ((0 : Int32)).toNatClampNeg) := inb_of S310 ⟨by decide, by decide⟩
     obtain ⟨T310, h310, X310, e310, W310, st310⟩ := stC X303 hx hZ e303 Ar310 (j := (0 : Int32)) hin310 (g := (mkF m 97 #[vI p0, vI p1, vI p2, vI p3, vI p4] [(.int p1), (.int 0), (.ref b303), (.ref b303), (.ref b299), (.ref b299)])) rfl rfl (hb hby d5_97)
     have Z310 : n0 ≤ h310.size := Nat.le_trans Z303 (Keep.of_wr W310).1
     have K310 : Keep h0 h310 [] := K303.wr W310 (Or.inr sz_b303)
     have N310 := Fr.snoc X310 N0 g_b303
     have hk310 := Nat.le_trans hk303 (Keep.of_wr W310).1
     have sf_b299_310 := Safe.wr W310 (Safe.arv hZ.alike V_b303 (by decide)) CR303.1 sf_b299_303
     have CR310 := CR303.trans (CHr.wr W310 (Safe.arv hZ.alike V_b303 (by decide)) CR303.1)
     have Sf311 : Sta Z h310 "java/lang/String" "COMPACT_STRINGS" "Z" (.int gc1) := (Sf304).wr W310
     have Ef312 : Exa Z h310 b299 "java/lang/String" := (Ef305).wr W310
     have Ff313 : Fld Z h310 b299 "java/lang/String" "value" "[B" .null := (Ff306).other W310 (Or.inl ne_b299_b303)
     have Ff314 : Fld Z h310 b299 "java/lang/String" "coder" "B" (.int 0) := (Ff307).other W310 (Or.inl ne_b299_b303)
     have Ef315 : Exa Z h310 b303 "[C" := (C303).wr W310
     have V310 : Arv Z h310 b303 k303 .char (4 : Int32) [(.int (nar .char p1)), (.int 0), (.int 0), (.int 0)] (.int 0) := Arv.set Ar310 q310 S310 M310 H310 G310 (fits_nar_char _) W310 0 rfl (Nat.le_of_ble_eq_true rfl)
     have pre316 : own_P p e below T310 (mkF m 98 #[vI p0, vI p1, vI p2, vI p3, vI p4] [(.ref b303), (.ref b299), (.ref b299)]) s₁ (entryFrame m #[(.int p0), (.int p1), (.int p2), (.int p3), (.int p4)] 5) := fun t k => pre309 t (st310 t k)
     have pre317 : own_P p e below T310 (mkF m 101 #[vI p0, vI p1, vI p2, vI p3, vI p4] [(.int p2), (.int 1), (.ref b303), (.ref b303), (.ref b299), (.ref b299)]) s₁ (entryFrame m #[(.int p0), (.int p1), (.int p2), (.int p3), (.int p4)] 5) := by
      intro t k
      refine pre316 t ?_
      refine XS.dup X310.here hx rfl (hb hby d5_98) rfl rfl ?_
      refine XS.iconst X310.here hx rfl (hb hby d5_99) ?_
      refine XS.iloadN X310.here hx rfl (hb hby d5_100) rfl ?_
      exact k
     obtain ⟨cl318, Ar318, q318, S318, M318, H318, G318⟩ := id V310
     have hin318 : ¬ ((1 : Int32) < 0 ∨ cl318.slots.size ≤ ((1 : Int32)).toNatClampNeg) := inb_of S318 ⟨by decide, by decide⟩
     obtain ⟨T318, h318, X318, e318, W318, st318⟩ := stC X310 hx hZ e310 Ar318 (j := (1 : Int32)) hin318 (g := (mkF m 101 #[vI p0, vI p1, vI p2, vI p3, vI p4] [(.int p2), (.int 1), (.ref b303), (.ref b303), (.ref b299), (.ref b299)])) rfl rfl (hb hby d5_101)
     have Z318 : n0 ≤ h318.size := Nat.le_trans Z310 (Keep.of_wr W318).1
     have K318 : Keep h0 h318 [] := K310.wr W318 (Or.inr sz_b303)
     have N318 := Fr.snoc X318 N310 g_b303
     have hk318 := Nat.le_trans hk310 (Keep.of_wr W318).1
     have sf_b299_318 := Safe.wr W318 (Safe.arv hZ.alike V310 (by decide)) CR310.1 sf_b299_310
     have CR318 := CR310.trans (CHr.wr W318 (Safe.arv hZ.alike V310 (by decide)) CR310.1)
     have Sf319 : Sta Z h318 "java/lang/String" "COMPACT_STRINGS" "Z" (.int gc1) := (Sf311).wr W318
     have Ef320 : Exa Z h318 b299 "java/lang/String" := (Ef312).wr W318
     have Ff321 : Fld Z h318 b299 "java/lang/String" "value" "[B" .null := (Ff313).other W318 (Or.inl ne_b299_b303)
     have Ff322 : Fld Z h318 b299 "java/lang/String" "coder" "B" (.int 0) := (Ff314).other W318 (Or.inl ne_b299_b303)
     have Ef323 : Exa Z h318 b303 "[C" := (Ef315).wr W318
     have V318 : Arv Z h318 b303 k303 .char (4 : Int32) [(.int (nar .char p1)), (.int (nar .char p2)), (.int 0), (.int 0)] (.int 0) := Arv.set Ar318 q318 S318 M318 H318 G318 (fits_nar_char _) W318 1 rfl (Nat.le_of_ble_eq_true rfl)
     have pre324 : own_P p e below T318 (mkF m 102 #[vI p0, vI p1, vI p2, vI p3, vI p4] [(.ref b303), (.ref b299), (.ref b299)]) s₁ (entryFrame m #[(.int p0), (.int p1), (.int p2), (.int p3), (.int p4)] 5) := fun t k => pre317 t (st318 t k)
     have pre325 : own_P p e below T318 (mkF m 105 #[vI p0, vI p1, vI p2, vI p3, vI p4] [(.int p3), (.int 2), (.ref b303), (.ref b303), (.ref b299), (.ref b299)]) s₁ (entryFrame m #[(.int p0), (.int p1), (.int p2), (.int p3), (.int p4)] 5) := by
      intro t k
      refine pre324 t ?_
      refine XS.dup X318.here hx rfl (hb hby d5_102) rfl rfl ?_
      refine XS.iconst X318.here hx rfl (hb hby d5_103) ?_
      refine XS.iloadN X318.here hx rfl (hb hby d5_104) rfl ?_
      exact k
     obtain ⟨cl326, Ar326, q326, S326, M326, H326, G326⟩ := id V318
     have hin326 : ¬ ((2 : Int32) < 0 ∨ cl326.slots.size ≤ ((2 : Int32)).toNatClampNeg) := inb_of S326 ⟨by decide, by decide⟩
     obtain ⟨T326, h326, X326, e326, W326, st326⟩ := stC X318 hx hZ e318 Ar326 (j := (2 : Int32)) hin326 (g := (mkF m 105 #[vI p0, vI p1, vI p2, vI p3, vI p4] [(.int p3), (.int 2), (.ref b303), (.ref b303), (.ref b299), (.ref b299)])) rfl rfl (hb hby d5_105)
     have Z326 : n0 ≤ h326.size := Nat.le_trans Z318 (Keep.of_wr W326).1
     have K326 : Keep h0 h326 [] := K318.wr W326 (Or.inr sz_b303)
     have N326 := Fr.snoc X326 N318 g_b303
     have hk326 := Nat.le_trans hk318 (Keep.of_wr W326).1
     have sf_b299_326 := Safe.wr W326 (Safe.arv hZ.alike V318 (by decide)) CR318.1 sf_b299_318
     have CR326 := CR318.trans (CHr.wr W326 (Safe.arv hZ.alike V318 (by decide)) CR318.1)
     have Sf327 : Sta Z h326 "java/lang/String" "COMPACT_STRINGS" "Z" (.int gc1) := (Sf319).wr W326
     have Ef328 : Exa Z h326 b299 "java/lang/String" := (Ef320).wr W326
     have Ff329 : Fld Z h326 b299 "java/lang/String" "value" "[B" .null := (Ff321).other W326 (Or.inl ne_b299_b303)
     have Ff330 : Fld Z h326 b299 "java/lang/String" "coder" "B" (.int 0) := (Ff322).other W326 (Or.inl ne_b299_b303)
     have Ef331 : Exa Z h326 b303 "[C" := (Ef323).wr W326
     have V326 : Arv Z h326 b303 k303 .char (4 : Int32) [(.int (nar .char p1)), (.int (nar .char p2)), (.int (nar .char p3)), (.int 0)] (.int 0) := Arv.set Ar326 q326 S326 M326 H326 G326 (fits_nar_char _) W326 2 rfl (Nat.le_of_ble_eq_true rfl)
     have pre332 : own_P p e below T326 (mkF m 106 #[vI p0, vI p1, vI p2, vI p3, vI p4] [(.ref b303), (.ref b299), (.ref b299)]) s₁ (entryFrame m #[(.int p0), (.int p1), (.int p2), (.int p3), (.int p4)] 5) := fun t k => pre325 t (st326 t k)
     have pre333 : own_P p e below T326 (mkF m 110 #[vI p0, vI p1, vI p2, vI p3, vI p4] [(.int p4), (.int 3), (.ref b303), (.ref b303), (.ref b299), (.ref b299)]) s₁ (entryFrame m #[(.int p0), (.int p1), (.int p2), (.int p3), (.int p4)] 5) := by
      intro t k
      refine pre332 t ?_
      refine XS.dup X326.here hx rfl (hb hby d5_106) rfl rfl ?_
      refine XS.iconst X326.here hx rfl (hb hby d5_107) ?_
      refine XS.iload X326.here hx rfl (hb hby d5_108) rfl ?_
      exact k
     obtain ⟨cl334, Ar334, q334, S334, M334, H334, G334⟩ := id V326
     have hin334 : ¬ ((3 : Int32) < 0 ∨ cl334.slots.size ≤ ((3 : Int32)).toNatClampNeg) := inb_of S334 ⟨by decide, by decide⟩
     obtain ⟨T334, h334, X334, e334, W334, st334⟩ := stC X326 hx hZ e326 Ar334 (j := (3 : Int32)) hin334 (g := (mkF m 110 #[vI p0, vI p1, vI p2, vI p3, vI p4] [(.int p4), (.int 3), (.ref b303), (.ref b303), (.ref b299), (.ref b299)])) rfl rfl (hb hby d5_110)
     have Z334 : n0 ≤ h334.size := Nat.le_trans Z326 (Keep.of_wr W334).1
     have K334 : Keep h0 h334 [] := K326.wr W334 (Or.inr sz_b303)
     have N334 := Fr.snoc X334 N326 g_b303
     have hk334 := Nat.le_trans hk326 (Keep.of_wr W334).1
     have sf_b299_334 := Safe.wr W334 (Safe.arv hZ.alike V326 (by decide)) CR326.1 sf_b299_326
     have CR334 := CR326.trans (CHr.wr W334 (Safe.arv hZ.alike V326 (by decide)) CR326.1)
     have Sf335 : Sta Z h334 "java/lang/String" "COMPACT_STRINGS" "Z" (.int gc1) := (Sf327).wr W334
     have Ef336 : Exa Z h334 b299 "java/lang/String" := (Ef328).wr W334
     have Ff337 : Fld Z h334 b299 "java/lang/String" "value" "[B" .null := (Ff329).other W334 (Or.inl ne_b299_b303)
     have Ff338 : Fld Z h334 b299 "java/lang/String" "coder" "B" (.int 0) := (Ff330).other W334 (Or.inl ne_b299_b303)
     have Ef339 : Exa Z h334 b303 "[C" := (Ef331).wr W334
     have V334 : Arv Z h334 b303 k303 .char (4 : Int32) [(.int (nar .char p1)), (.int (nar .char p2)), (.int (nar .char p3)), (.int (nar .char p4))] (.int 0) := Arv.set Ar334 q334 S334 M334 H334 G334 (fits_nar_char _) W334 3 rfl (Nat.le_of_ble_eq_true rfl)
     have pre340 : own_P p e below T334 (mkF m 111 #[vI p0, vI p1, vI p2, vI p3, vI p4] [(.ref b303), (.ref b299), (.ref b299)]) s₁ (entryFrame m #[(.int p0), (.int p1), (.int p2), (.int p3), (.int p4)] 5) := fun t k => pre333 t (st334 t k)
     have hp342 : ∀ c ∈ ([(nar .char p1), (nar .char p2), (nar .char p3), (nar .char p4)] : List Int32), ¬ c < 0 ∧ ¬ (255 : Int32) < c := own_hpN (own_allS hq1 (own_allS hq2 (own_allS hq3 (own_all1 hq4))))
     obtain ⟨_, _, ⟨T341, L341, k341, n341⟩, -, X341, ⟨Lc341, hQ341, l341, y341, z341⟩, st341⟩ := X334.specialBack hx (y := (⟨"java/lang/String", "<init>", "([C)V"⟩ : MethodName)) rfl hown (mvT hZ (own_w hw 33 rfl)) (mvT hZ (own_w hw 34 rfl)) (mvT hZ (own_w hw 35 rfl)) (by decide) (StrChars.Road.backV (W := 1) hZ (own_words hw) (kI := 4) (own_w hw 2 rfl) (cs := ([(nar .char p1), (nar .char p2), (nar .char p3), (nar .char p4)] : List Int32)) (bs := (([(nar .char p1), (nar .char p2), (nar .char p3), (nar .char p4)] : List Int32)).map (fun c => c.toInt8.toInt32)) (n := 4) g_b299 Z334 Ef336 Ff337 Ff338 V334 Sf335 P5 rfl rfl (by decide) (by decide) hp342 rfl (by decide) (by decide)) (g := (mkF m 111 #[vI p0, vI p1, vI p2, vI p3, vI p4] [(.ref b303), (.ref b299), (.ref b299)])) rfl (by rw [hml]; rfl) (Steps.refl _) (a := b299) (argsL := [(.ref b303)]) (rest := [(.ref b299)]) (lenOf pd_3 rfl) rfl (by show 2 * 0 + _ ≤ _; exact Nat.le_of_eq rfl) (hb hby d5_111) (fun _ _ => ⟨rfl, e334, (by decide : 2 + 1 ≤ _), (by decide : 8 + 4 ≤ _)⟩)
     dsimp only [Pt.U, Pt.locs, Pt.cells, Pt.slots] at X341 l341 y341 z341 st341 hQ341
     subst l341 y341 z341
     obtain ⟨h341, e341⟩ : ∃ h, T341.heap = h := ⟨_, rfl⟩
     rw [e341] at hQ341
     obtain ⟨rfl, N341q, K341q, QE341, QC341, t341, kt341, g_t341, y_t341, ne341, QV341, QB341⟩ := hQ341
     have N341 := Fr.app N334 N341q
     have ne_b299_t341 : b299 ≠ t341 := Nat.ne_of_lt (Nat.lt_of_lt_of_le (Ef336).lt y_t341)
     have ne_b303_t341 : b303 ≠ t341 := Nat.ne_of_lt (Nat.lt_of_lt_of_le (Ef339).lt y_t341)
     have sz_t341 : h0.size ≤ t341 := Nat.le_trans K334.1 y_t341
     have Z341 : n0 ≤ h341.size := Nat.le_trans Z334 K341q.1
     have K341 : Keep h0 h341 [] := K334.trans K341q (fun x hx => by cases List.mem_singleton.mp hx; exact Or.inr sz_b299)
     have hk341 := Nat.le_trans hk334 K341q.1
     have sf_b299_341 := Safe.keep K341q (sfS sf_b299_334 sf0) CR334.1 sf_b299_334
     have CR341 := CR334.trans (CHr.keep K341q (sfS sf_b299_334 sf0) CR334.1)
     have Sf343 : Sta Z h341 "java/lang/String" "COMPACT_STRINGS" "Z" (.int gc1) := own_sta_keep Sf335 K341q (own_ns1 (own_ns_exa Ef336))
     have Ef344 : Exa Z h341 b303 "[C" := (Ef339).keep K341q
     have Vf345 : Arv Z h341 b303 k303 .char (4 : Int32) [(.int (nar .char p1)), (.int (nar .char p2)), (.int (nar .char p3)), (.int (nar .char p4))] (.int 0) := (V334).keep K341q (fun q => absurd (List.mem_singleton.mp q) ne_b299_b303.symm)
     have hcd341 : StrChars.Road.CodA ([(nar .char p1), (nar .char p2), (nar .char p3), (nar .char p4)] : List Int32) 0 (4 : Int32) ((([(nar .char p1), (nar .char p2), (nar .char p3), (nar .char p4)] : List Int32).map (fun c => c.toInt8.toInt32)).map Value.int) := StrChars.Road.codOf (n := 4) rfl (fun x hx => (hp342 x hx).2)
     have hbd341 := own_up _ hp342
     have pre346 : own_P p e below T341 (mkF m 114 #[vI p0, vI p1, vI p2, vI p3, vI p4] [(.ref b299)]) s₁ (entryFrame m #[(.int p0), (.int p1), (.int p2), (.int p3), (.int p4)] 5) := fun t k => pre340 t (st341.trans k)
     have Bm347 : Arv Z h341 t341 kt341 .byte (Int32.ofNat (own_cs p0 p1 p2 p3 p4).length) ((((own_cs p0 p1 p2 p3 p4) : List Int32).map (fun c => c.toInt8.toInt32)).map Value.int) (.int 0) := by rw [own_cs4 hc1_171 hc17_191 hc37_219 hc61_255]; have q := QB341; rw [own_nar hq1, own_nar hq2, own_nar hq3, own_nar hq4] at q; exact q
     obtain ⟨fs, hr, hrun, hended, hRW⟩ := X341.leaveW (s := s) (vm₁ := s.vm) hS0 (by rw [e341]; first | exact hk341 | exact Nat.le_refl _) (v := some (.ref b299)) (fun h => by rw [Bd.returns] at h; cases h)
     refine ⟨_, _, pre346 _ ?_, hrun, hended, _, _, rfl, ?_, ?_, hRW.1, hRW.2.1, hRW.2.2.1, hRW.2.2.2.mono (by decide) (by decide)⟩
     ·
      exact retOut X341 hx Bd.returns rfl (Or.inr (Or.inr (Or.inr (Or.inr ⟨rfl, rfl, rfl⟩)))) (hb hby d5_114) hr
     ·
      show Q5 Z p0 p1 p2 p3 p4 gc1 h0 n0 _ T341.heap _
      rw [e341]
      exact ⟨b299, t341, kt341, rfl, N341, K341, sz_b299, QE341, QV341, QC341, Bm347⟩
     ·
      have q := CR341.trans (CHv.at X341 hZ hEL CR341.1)
      rw [hh]
      show CHr _ _ _ _ T341.vm T341.heap
      rw [e341]
      exact q
theorem d12_0 : decode method_3_code 0 = .ok (.aload_n 0, 1) := by decide +kernel
theorem d12_1 : decode method_3_code 1 = .ok (.ifnonnull 5, 3) := by decide +kernel
theorem d12_4 : decode method_3_code 4 = .ok (.aconst_null, 1) := by decide +kernel
theorem d12_5 : decode method_3_code 5 = .ok (.areturn, 1) := by decide +kernel
theorem ef_12_n (m : MethodId)  : entryFrame m #[.null] 1 = mkF m 0 #[.val .null] [] := by first | (simp [entryFrame, mkF, argsToLocals, Value.category]; done) | rfl
def Q12_n (Z : State)  (h0 : Heap) (n0 : Nat) (v : Option Value) (h : Heap) (L : List Loc) : Prop := v = some .null ∧ Fr n0 L ∧ h = h0
set_option maxRecDepth 65536 in
set_option maxHeartbeats 40000000 in
theorem rm12_n (l : Launch) (Z : State) (ar0 : Array Value) (hw : ∀ d ∈ tables_1, d.before ar0 Z = true) (ws : List Jvm.Cond)  (h0 : Heap) (n0 : Nat) (Z0 : n0 ≤ h0.size) :
  MetFree l (⟨"com/example/timely_exodus/timelyexodus/plan/LpSolverFromNamePinLaw", "ref", "(Ljava/lang/String;)Lcom/example/timely_exodus/timelyexodus/plan/LpSolver;"⟩ : MethodName) (head1 (Jvm.Cond.code (⟨"com/example/timely_exodus/timelyexodus/plan/LpSolverFromNamePinLaw", "ref", "(Ljava/lang/String;)Lcom/example/timely_exodus/timelyexodus/plan/LpSolver;"⟩ : MethodName) method_3_code 1 (some (.object "com/example/timely_exodus/timelyexodus/plan/LpSolver")) :: ws) ({ frames := 0, cells := 0, slots := 0, locals := 0 } : Room)) (fun a U => a = #[.null] ∧ Z.Warmed39 U.vm ∧ U.heap = h0) (fun _ _ _ _ _ => True) (fun _ U o U' => ∃ v L, o = .returned v ∧ Q12_n Z  h0 n0 v U'.heap L ∧ FrameEnd U o U' L ({ frames := 0, cells := 0, slots := 0, locals := 0 } : Room).cells ({ frames := 0, cells := 0, slots := 0, locals := 0 } : Room).slots) := by
 refine MetFree.of_bodySF (plainFor_of_name pn_1) hisR ?_
 intro p e s m args below meth c s₁ Bd hml0 hP hK
 obtain ⟨rfl, hZ, hh⟩ := hP
 have hx := Bd.exec
 have hby := Bd.bytes
 have hml : c.maxLocals = 1 := hml0
 have hown : s.vm.findClass "com/example/timely_exodus/timelyexodus/plan/LpSolverFromNamePinLaw" = some m.cls := by have q := findClass_of_methodNamed Bd.named; exact q
 have hnm := (name_of_methodNamed Bd.named Bd.method).1
 have X0 : Stand p l e ({ frames := 0, cells := 0, slots := 0, locals := 0 } : Room) s m #[.null] below meth c s₁ [] 0 0 := Stand.of_body Bd
 have e0 : s₁.heap = h0 := by rw [← hh, Bd.state]; rfl
 have N0 := Fr.nil n0
 have pre0 : own_P p e below s₁ (mkF m 0 #[.val .null] []) s₁ (entryFrame m #[.null] 1) := fun t k => castTop (ef_12_n m ) k
 obtain ⟨fs, hr, hrun, hended, hW, hsame⟩ := X0.leave (v := some .null) (fun h => by rw [Bd.returns] at h; cases h)
 refine ⟨_, _, pre0 _ ?_, hrun, hended, _, _, rfl, ?_, ⟨_, rfl⟩, hW, hsame.mono (by decide) (by decide)⟩
 ·
  refine XS.aloadN X0.here hx rfl (hb hby d12_0) rfl rfl ?_
  refine XS.ifnonnullNo X0.here hx rfl (hb hby d12_1) rfl ?_
  refine XS.aconstNull X0.here hx rfl (hb hby d12_4) ?_
  exact retOut X0 hx Bd.returns rfl (Or.inr (Or.inr (Or.inr (Or.inr ⟨rfl, rfl, rfl⟩)))) (hb hby d12_5) hr
 ·
  show Q12_n Z  h0 n0 _ s₁.heap _
  rw [e0]
  exact ⟨rfl, N0, rfl⟩
theorem pd_4 : parseMethodDescriptor "(Ljava/lang/Object;)Z" = some ⟨[(.object "java/lang/Object")], some .boolean⟩ := by decide +kernel
theorem d12_6 : decode method_3_code 6 = .ok (.aload_n 0, 1) := by decide +kernel
theorem d12_7 : decode method_3_code 7 = .ok (.ldc 7, 2) := by decide +kernel
theorem d12_9 : decode method_3_code 9 = .ok (.invokevirtual 40, 3) := by decide +kernel
theorem d12_12 : decode method_3_code 12 = .ok (.ifCond .eq 7, 3) := by decide +kernel
theorem d12_15 : decode method_3_code 15 = .ok (.getstatic 44, 3) := by decide +kernel
theorem d12_18 : decode method_3_code 18 = .ok (.areturn, 1) := by decide +kernel
theorem d12_19 : decode method_3_code 19 = .ok (.aload_n 0, 1) := by decide +kernel
theorem d12_20 : decode method_3_code 20 = .ok (.ldc 9, 2) := by decide +kernel
theorem d12_22 : decode method_3_code 22 = .ok (.invokevirtual 40, 3) := by decide +kernel
theorem d12_25 : decode method_3_code 25 = .ok (.ifCond .eq 7, 3) := by decide +kernel
theorem d12_28 : decode method_3_code 28 = .ok (.getstatic 48, 3) := by decide +kernel
theorem d12_31 : decode method_3_code 31 = .ok (.areturn, 1) := by decide +kernel
theorem d12_32 : decode method_3_code 32 = .ok (.aload_n 0, 1) := by decide +kernel
theorem d12_33 : decode method_3_code 33 = .ok (.ldc 11, 2) := by decide +kernel
theorem d12_35 : decode method_3_code 35 = .ok (.invokevirtual 40, 3) := by decide +kernel
theorem d12_38 : decode method_3_code 38 = .ok (.ifCond .eq 7, 3) := by decide +kernel
theorem d12_41 : decode method_3_code 41 = .ok (.getstatic 51, 3) := by decide +kernel
theorem d12_44 : decode method_3_code 44 = .ok (.areturn, 1) := by decide +kernel
theorem d12_45 : decode method_3_code 45 = .ok (.aconst_null, 1) := by decide +kernel
theorem d12_46 : decode method_3_code 46 = .ok (.areturn, 1) := by decide +kernel
theorem ef_12 (m : MethodId) (x0 : Addr) : entryFrame m #[(.ref x0)] 1 = mkF m 0 #[vR x0] [] := by first | (simp [entryFrame, mkF, argsToLocals, Value.category]; done) | rfl
def f12_y (cs : List Int32) (s_GLOP : Addr) (s_CLP : Addr) (s_PDLP : Addr) : Value := (if (own_eq cs [103, 108, 111, 112]) = (0 : Int32) then (if (own_eq cs [99, 108, 112]) = (0 : Int32) then (if (own_eq cs [112, 100, 108, 112]) = (0 : Int32) then .null else (.ref s_PDLP)) else (.ref s_CLP)) else (.ref s_GLOP))
def Q12_y (Z : State) (a0 : Addr) (cs : List Int32) (gc1 : Int32) (t : Addr) (k_t : ClassId) (s_GLOP : Addr) (s_CLP : Addr) (s_PDLP : Addr) (h0 : Heap) (n0 : Nat) (v : Option Value) (h : Heap) (L : List Loc) : Prop := v = some (f12_y cs s_GLOP s_CLP s_PDLP) ∧ Fr n0 L ∧ Keep h0 h []
set_option maxRecDepth 65536 in
set_option maxHeartbeats 40000000 in
theorem rm12_y (l : Launch) (Z : State) (ar0 : Array Value) (hw : ∀ d ∈ tables_1, d.before ar0 Z = true) (ws : List Jvm.Cond) (a0 : Addr) (cs : List Int32) (gc1 : Int32) (t : Addr) (k_t : ClassId) (s_GLOP : Addr) (s_CLP : Addr) (s_PDLP : Addr) (h0 : Heap) (n0 : Nat) (Z0 : n0 ≤ h0.size) (P5 : ¬ (gc1 = (0 : Int32))) (hp : ∀ x ∈ cs, ¬ x < 0 ∧ ¬ (255 : Int32) < x) (h4 : cs.length ≤ 4000) (S_COMPACT_STRINGS : Sta Z h0 "java/lang/String" "COMPACT_STRINGS" "Z" (.int gc1)) (E_a0 : Exa Z h0 a0 "java/lang/String") (F_value_a0 : Fld Z h0 a0 "java/lang/String" "value" "[B" (.ref t)) (F_coder_a0 : Fld Z h0 a0 "java/lang/String" "coder" "B" (.int 0)) (B_t : Arv Z h0 t k_t .byte (Int32.ofNat cs.length) (((cs : List Int32).map (fun c => c.toInt8.toInt32)).map Value.int) (.int 0)) (S_GLOP : Sta Z h0 "com/example/timely_exodus/timelyexodus/plan/LpSolver" "GLOP" "Lcom/example/timely_exodus/timelyexodus/plan/LpSolver;" (.ref s_GLOP)) (S_CLP : Sta Z h0 "com/example/timely_exodus/timelyexodus/plan/LpSolver" "CLP" "Lcom/example/timely_exodus/timelyexodus/plan/LpSolver;" (.ref s_CLP)) (S_PDLP : Sta Z h0 "com/example/timely_exodus/timelyexodus/plan/LpSolver" "PDLP" "Lcom/example/timely_exodus/timelyexodus/plan/LpSolver;" (.ref s_PDLP)) :
  MetFree l (⟨"com/example/timely_exodus/timelyexodus/plan/LpSolverFromNamePinLaw", "ref", "(Ljava/lang/String;)Lcom/example/timely_exodus/timelyexodus/plan/LpSolver;"⟩ : MethodName) (head1 (Jvm.Cond.code (⟨"com/example/timely_exodus/timelyexodus/plan/LpSolverFromNamePinLaw", "ref", "(Ljava/lang/String;)Lcom/example/timely_exodus/timelyexodus/plan/LpSolver;"⟩ : MethodName) method_3_code 1 (some (.object "com/example/timely_exodus/timelyexodus/plan/LpSolver")) :: ws) ({ frames := 2, cells := 6, slots := 56, locals := 28 } : Room)) (fun a U => a = #[(.ref a0)] ∧ Z.Warmed39 U.vm ∧ U.heap = h0 ∧ CHv Z own_EL U.vm h0) (fun _ _ _ _ _ => True) (fun _ U o U' => ∃ v L, o = .returned v ∧ Q12_y Z a0 cs gc1 t k_t s_GLOP s_CLP s_PDLP h0 n0 v U'.heap L ∧ CHr Z own_EL U.vm U.heap U'.vm U'.heap ∧ ReturnedEndW U o U' L ({ frames := 2, cells := 6, slots := 56, locals := 28 } : Room).cells ({ frames := 2, cells := 6, slots := 56, locals := 28 } : Room).slots) := by
 refine MetFree.of_bodySF (plainFor_of_name pn_1) hisR ?_
 intro p e s m args below meth c s₁ Bd hml0 hP hK
 obtain ⟨rfl, hZ, hh, hC0⟩ := hP
 have hx := Bd.exec
 have hby := Bd.bytes
 have hml : c.maxLocals = 1 := hml0
 have hown : s.vm.findClass "com/example/timely_exodus/timelyexodus/plan/LpSolverFromNamePinLaw" = some m.cls := by have q := findClass_of_methodNamed Bd.named; exact q
 have hnm := (name_of_methodNamed Bd.named Bd.method).1
 have X0 : Stand p l e ({ frames := 2, cells := 6, slots := 56, locals := 28 } : Room) s m #[(.ref a0)] below meth c s₁ [] 0 0 := Stand.of_body Bd
 have e0 : s₁.heap = h0 := by rw [← hh, Bd.state]; rfl
 have N0 := Fr.nil n0
 have hS0 : s.Since s.vm 0 := own_since0 s
 have hCR0 : CHr Z own_EL s.vm h0 s.vm h0 := CHr.refl hC0
 have hEL : EW Z ar0 own_EL := own_EW hw
 have pre0 : own_P p e below s₁ (mkF m 0 #[vR a0] []) s₁ (entryFrame m #[(.ref a0)] 1) := fun t k => castTop (ef_12 m a0) k
 have pre348 : own_P p e below s₁ (mkF m 7 #[vR a0] [(.ref a0)]) s₁ (entryFrame m #[(.ref a0)] 1) := by
  intro t k
  refine pre0 t ?_
  refine XS.aloadN X0.here hx rfl (hb hby d12_0) rfl rfl ?_
  refine XS.ifnonnullYes X0.here hx rfl (pc0 := 1) (pc' := 6) rfl (hb hby d12_1) rfl (by decide) (by decide) ?_
  refine XS.aloadN X0.here hx rfl (hb hby d12_6) rfl rfl ?_
  exact k
 obtain ⟨a349, T349, h349, k349, b349, kb349, X349, e349, E349, hS349, hk349, hZ349, ho349, Ea349, Ca349, Va349, Ab349, la349, lb349, hC349, -, hn349, st349⟩ := ldcCH (s := s) (vm0 := s.vm) X0 hx hZ hown (own_w hw 56 rfl) (own_strW hw) e0 hS0 (Nat.zero_le _) hEL (List.mem_of_getElem? (i := 0) rfl) hCR0.1 (vs := [(.int 103), (.int 108), (.int 111), (.int 112)]) (z := (4 : Int32)) ⟨by decide, rfl⟩ (by decide) rfl (g := (mkF m 7 #[vR a0] [(.ref a0)])) rfl (hb hby d12_7) (n := 16) (by decide) (by decide) (by decide) (by decide)
 have CR349 := hCR0.trans hC349
 have Z349 : n0 ≤ h349.size := Nat.le_trans Z0 E349.1
 have K349 : Keep h0 h349 [] := (Keep.refl h0 []).ext E349
 have Sf350 : Sta Z h349 "java/lang/String" "COMPACT_STRINGS" "Z" (.int gc1) := (S_COMPACT_STRINGS).ext E349
 have Ef351 : Exa Z h349 a0 "java/lang/String" := (E_a0).ext E349
 have Ff352 : Fld Z h349 a0 "java/lang/String" "value" "[B" (.ref t) := (F_value_a0).ext E349
 have Ff353 : Fld Z h349 a0 "java/lang/String" "coder" "B" (.int 0) := (F_coder_a0).ext E349
 have Vf354 : Arv Z h349 t k_t .byte (Int32.ofNat cs.length) (((cs : List Int32).map (fun c => c.toInt8.toInt32)).map Value.int) (.int 0) := (B_t).ext E349
 have Sf355 : Sta Z h349 "com/example/timely_exodus/timelyexodus/plan/LpSolver" "GLOP" "Lcom/example/timely_exodus/timelyexodus/plan/LpSolver;" (.ref s_GLOP) := (S_GLOP).ext E349
 have Sf356 : Sta Z h349 "com/example/timely_exodus/timelyexodus/plan/LpSolver" "CLP" "Lcom/example/timely_exodus/timelyexodus/plan/LpSolver;" (.ref s_CLP) := (S_CLP).ext E349
 have Sf357 : Sta Z h349 "com/example/timely_exodus/timelyexodus/plan/LpSolver" "PDLP" "Lcom/example/timely_exodus/timelyexodus/plan/LpSolver;" (.ref s_PDLP) := (S_PDLP).ext E349
 have pre358 : own_P p e below T349 (mkF m 9 #[vR a0] [(.ref a349), (.ref a0)]) s₁ (entryFrame m #[(.ref a0)] 1) := fun t k => pre348 t (st349 t k)
 obtain ⟨cq359, kq359, q359a, q359b, q359c⟩ := isOf hZ349 e349 Ef351
 obtain ⟨_, _, ⟨T359, L359, k359, n359⟩, -, X359, ⟨Lc359, hQ359, l359, y359, z359⟩, st359⟩ := X349.virtualBack hx (y := (⟨"java/lang/String", "equals", "(Ljava/lang/Object;)Z"⟩ : MethodName)) (z := (⟨"java/lang/String", "equals", "(Ljava/lang/Object;)Z"⟩ : MethodName)) ho349 (mvT hZ349 (own_w hw 57 rfl)) (mvT hZ349 (own_w hw 58 rfl)) (notFace_of_selects (args := #[]) (mvT hZ349 (own_w hw 60 rfl))) (mvT hZ349 (own_w hw 60 rfl)) (mvT hZ349 (own_w hw 59 rfl)) (by decide) (StrChars.Road.eqW (W := 0) hZ349 (own_wordsEq hw) (kI := 4) (own_w hw 2 rfl) Ef351 Ff352 Ff353 Vf354 (own_hcdG hp) (own_up _ hp) h4 Ea349 Va349 Ca349 Ab349 (own_hcdG (cs := [103, 108, 111, 112]) (by decide)) (own_up [103, 108, 111, 112] (by decide)) (Nat.le_of_ble_eq_true rfl) Sf350 P5 (by decide) (by decide)) q359a q359c (g := (mkF m 9 #[vR a0] [(.ref a349), (.ref a0)])) rfl (by rw [hml]; rfl) (Steps.refl _) (argsL := [(.ref a349)]) (rest := []) (lenOf pd_4 rfl) rfl (by show 2 * 0 + _ ≤ _; exact Nat.le_of_eq rfl) (hb hby d12_9) (fun _ _ => ⟨rfl, e349, (by decide : 2 + 0 ≤ _), (by decide : 20 + 0 ≤ _)⟩)
 dsimp only [Pt.U, Pt.locs, Pt.cells, Pt.slots] at X359 l359 y359 z359 st359 hQ359
 subst l359 y359 z359
 obtain ⟨q359, rfl, e359⟩ := hQ359
 obtain rfl := own_eqv q359
 try rw [List.append_nil] at X359
 have pre360 : own_P p e below T359 (mkF m 12 #[vR a0] [(.int (own_eq cs [103, 108, 111, 112]))]) s₁ (entryFrame m #[(.ref a0)] 1) := fun t k => pre358 t (st359.trans k)
 by_cases hc12_361 : (own_eq cs [103, 108, 111, 112]) = (0 : Int32)
 ·
  have pre362 : ∀ t, Steps p.tables e below (T359.setTop (mkF m 20 #[vR a0] [(.ref a0)])) t → Steps p.tables e below (s₁.setTop (entryFrame m #[(.ref a0)] 1)) t := by
   intro t k
   refine pre360 t ?_
   refine XS.ifYes X359.here hx rfl (pc0 := 12) (pc' := 19) rfl (hb hby d12_12) rfl ((if0 _ _).trans (teq hc12_361).1) (by decide) (by decide) ?_
   refine XS.aloadN X359.here hx rfl (hb hby d12_19) rfl rfl ?_
   exact k
  obtain ⟨a363, T363, h363, k363, b363, kb363, X363, e363, E363, hS363, hk363, hZ363, ho363, Ea363, Ca363, Va363, Ab363, la363, lb363, hC363, -, hn363, st363⟩ := ldcCH (s := s) (vm0 := T349.vm) X359 hx hZ349 ho349 (own_w hw 67 rfl) (own_strW hw) e359 hS349 hk349 hEL (List.mem_of_getElem? (i := 1) rfl) CR349.1 (vs := [(.int 99), (.int 108), (.int 112)]) (z := (3 : Int32)) ⟨by decide, rfl⟩ (by decide) rfl (g := (mkF m 20 #[vR a0] [(.ref a0)])) rfl (hb hby d12_20) (n := 12) (by decide) (by decide) (by decide) (by decide)
  have CR363 := CR349.trans hC363
  have Z363 : n0 ≤ h363.size := Nat.le_trans Z349 E363.1
  have K363 : Keep h0 h363 [] := K349.ext E363
  have Sf364 : Sta Z h363 "java/lang/String" "COMPACT_STRINGS" "Z" (.int gc1) := (Sf350).ext E363
  have Ef365 : Exa Z h363 a0 "java/lang/String" := (Ef351).ext E363
  have Ff366 : Fld Z h363 a0 "java/lang/String" "value" "[B" (.ref t) := (Ff352).ext E363
  have Ff367 : Fld Z h363 a0 "java/lang/String" "coder" "B" (.int 0) := (Ff353).ext E363
  have Vf368 : Arv Z h363 t k_t .byte (Int32.ofNat cs.length) (((cs : List Int32).map (fun c => c.toInt8.toInt32)).map Value.int) (.int 0) := (Vf354).ext E363
  have Sf369 : Sta Z h363 "com/example/timely_exodus/timelyexodus/plan/LpSolver" "GLOP" "Lcom/example/timely_exodus/timelyexodus/plan/LpSolver;" (.ref s_GLOP) := (Sf355).ext E363
  have Sf370 : Sta Z h363 "com/example/timely_exodus/timelyexodus/plan/LpSolver" "CLP" "Lcom/example/timely_exodus/timelyexodus/plan/LpSolver;" (.ref s_CLP) := (Sf356).ext E363
  have Sf371 : Sta Z h363 "com/example/timely_exodus/timelyexodus/plan/LpSolver" "PDLP" "Lcom/example/timely_exodus/timelyexodus/plan/LpSolver;" (.ref s_PDLP) := (Sf357).ext E363
  have Ef372 : Exa Z h363 a349 "java/lang/String" := (Ea349).ext E363
  have Ff373 : Fld Z h363 a349 "java/lang/String" "coder" "B" (.int 0) := (Ca349).ext E363
  have Ff374 : Fld Z h363 a349 "java/lang/String" "value" "[B" (.ref b349) := (Va349).ext E363
  have Vf375 : Arv Z h363 b349 kb349 .byte (4 : Int32) ((([103, 108, 111, 112] : List Int32).map (fun c => c.toInt8.toInt32)).map Value.int) (.int 0) := (Ab349).ext E363
  have pre376 : own_P p e below T363 (mkF m 22 #[vR a0] [(.ref a363), (.ref a0)]) s₁ (entryFrame m #[(.ref a0)] 1) := fun t k => pre362 t (st363 t k)
  obtain ⟨cq377, kq377, q377a, q377b, q377c⟩ := isOf hZ363 e363 Ef365
  obtain ⟨_, _, ⟨T377, L377, k377, n377⟩, -, X377, ⟨Lc377, hQ377, l377, y377, z377⟩, st377⟩ := X363.virtualBack hx (y := (⟨"java/lang/String", "equals", "(Ljava/lang/Object;)Z"⟩ : MethodName)) (z := (⟨"java/lang/String", "equals", "(Ljava/lang/Object;)Z"⟩ : MethodName)) ho363 (mvT hZ363 (own_w hw 57 rfl)) (mvT hZ363 (own_w hw 58 rfl)) (notFace_of_selects (args := #[]) (mvT hZ363 (own_w hw 60 rfl))) (mvT hZ363 (own_w hw 60 rfl)) (mvT hZ363 (own_w hw 59 rfl)) (by decide) (StrChars.Road.eqW (W := 0) hZ363 (own_wordsEq hw) (kI := 4) (own_w hw 2 rfl) Ef365 Ff366 Ff367 Vf368 (own_hcdG hp) (own_up _ hp) h4 Ea363 Va363 Ca363 Ab363 (own_hcdG (cs := [99, 108, 112]) (by decide)) (own_up [99, 108, 112] (by decide)) (Nat.le_of_ble_eq_true rfl) Sf364 P5 (by decide) (by decide)) q377a q377c (g := (mkF m 22 #[vR a0] [(.ref a363), (.ref a0)])) rfl (by rw [hml]; rfl) (Steps.refl _) (argsL := [(.ref a363)]) (rest := []) (lenOf pd_4 rfl) rfl (by show 2 * 0 + _ ≤ _; exact Nat.le_of_eq rfl) (hb hby d12_22) (fun _ _ => ⟨rfl, e363, (by decide : 4 + 0 ≤ _), (by decide : 36 + 0 ≤ _)⟩)
  dsimp only [Pt.U, Pt.locs, Pt.cells, Pt.slots] at X377 l377 y377 z377 st377 hQ377
  subst l377 y377 z377
  obtain ⟨q377, rfl, e377⟩ := hQ377
  obtain rfl := own_eqv q377
  try rw [List.append_nil] at X377
  have pre378 : own_P p e below T377 (mkF m 25 #[vR a0] [(.int (own_eq cs [99, 108, 112]))]) s₁ (entryFrame m #[(.ref a0)] 1) := fun t k => pre376 t (st377.trans k)
  by_cases hc25_379 : (own_eq cs [99, 108, 112]) = (0 : Int32)
  ·
   have pre380 : ∀ t, Steps p.tables e below (T377.setTop (mkF m 33 #[vR a0] [(.ref a0)])) t → Steps p.tables e below (s₁.setTop (entryFrame m #[(.ref a0)] 1)) t := by
    intro t k
    refine pre378 t ?_
    refine XS.ifYes X377.here hx rfl (pc0 := 25) (pc' := 32) rfl (hb hby d12_25) rfl ((if0 _ _).trans (teq hc25_379).1) (by decide) (by decide) ?_
    refine XS.aloadN X377.here hx rfl (hb hby d12_32) rfl rfl ?_
    exact k
   obtain ⟨a381, T381, h381, k381, b381, kb381, X381, e381, E381, hS381, hk381, hZ381, ho381, Ea381, Ca381, Va381, Ab381, la381, lb381, hC381, -, hn381, st381⟩ := ldcCH (s := s) (vm0 := T363.vm) X377 hx hZ363 ho363 (own_w hw 68 rfl) (own_strW hw) e377 hS363 hk363 hEL (List.mem_of_getElem? (i := 2) rfl) CR363.1 (vs := [(.int 112), (.int 100), (.int 108), (.int 112)]) (z := (4 : Int32)) ⟨by decide, rfl⟩ (by decide) rfl (g := (mkF m 33 #[vR a0] [(.ref a0)])) rfl (hb hby d12_33) (n := 16) (by decide) (by decide) (by decide) (by decide)
   have CR381 := CR363.trans hC381
   have Z381 : n0 ≤ h381.size := Nat.le_trans Z363 E381.1
   have K381 : Keep h0 h381 [] := K363.ext E381
   have Sf382 : Sta Z h381 "java/lang/String" "COMPACT_STRINGS" "Z" (.int gc1) := (Sf364).ext E381
   have Ef383 : Exa Z h381 a0 "java/lang/String" := (Ef365).ext E381
   have Ff384 : Fld Z h381 a0 "java/lang/String" "value" "[B" (.ref t) := (Ff366).ext E381
   have Ff385 : Fld Z h381 a0 "java/lang/String" "coder" "B" (.int 0) := (Ff367).ext E381
   have Vf386 : Arv Z h381 t k_t .byte (Int32.ofNat cs.length) (((cs : List Int32).map (fun c => c.toInt8.toInt32)).map Value.int) (.int 0) := (Vf368).ext E381
   have Sf387 : Sta Z h381 "com/example/timely_exodus/timelyexodus/plan/LpSolver" "GLOP" "Lcom/example/timely_exodus/timelyexodus/plan/LpSolver;" (.ref s_GLOP) := (Sf369).ext E381
   have Sf388 : Sta Z h381 "com/example/timely_exodus/timelyexodus/plan/LpSolver" "CLP" "Lcom/example/timely_exodus/timelyexodus/plan/LpSolver;" (.ref s_CLP) := (Sf370).ext E381
   have Sf389 : Sta Z h381 "com/example/timely_exodus/timelyexodus/plan/LpSolver" "PDLP" "Lcom/example/timely_exodus/timelyexodus/plan/LpSolver;" (.ref s_PDLP) := (Sf371).ext E381
   have Ef390 : Exa Z h381 a349 "java/lang/String" := (Ef372).ext E381
   have Ff391 : Fld Z h381 a349 "java/lang/String" "coder" "B" (.int 0) := (Ff373).ext E381
   have Ff392 : Fld Z h381 a349 "java/lang/String" "value" "[B" (.ref b349) := (Ff374).ext E381
   have Vf393 : Arv Z h381 b349 kb349 .byte (4 : Int32) ((([103, 108, 111, 112] : List Int32).map (fun c => c.toInt8.toInt32)).map Value.int) (.int 0) := (Vf375).ext E381
   have Ef394 : Exa Z h381 a363 "java/lang/String" := (Ea363).ext E381
   have Ff395 : Fld Z h381 a363 "java/lang/String" "coder" "B" (.int 0) := (Ca363).ext E381
   have Ff396 : Fld Z h381 a363 "java/lang/String" "value" "[B" (.ref b363) := (Va363).ext E381
   have Vf397 : Arv Z h381 b363 kb363 .byte (3 : Int32) ((([99, 108, 112] : List Int32).map (fun c => c.toInt8.toInt32)).map Value.int) (.int 0) := (Ab363).ext E381
   have pre398 : own_P p e below T381 (mkF m 35 #[vR a0] [(.ref a381), (.ref a0)]) s₁ (entryFrame m #[(.ref a0)] 1) := fun t k => pre380 t (st381 t k)
   obtain ⟨cq399, kq399, q399a, q399b, q399c⟩ := isOf hZ381 e381 Ef383
   obtain ⟨_, _, ⟨T399, L399, k399, n399⟩, -, X399, ⟨Lc399, hQ399, l399, y399, z399⟩, st399⟩ := X381.virtualBack hx (y := (⟨"java/lang/String", "equals", "(Ljava/lang/Object;)Z"⟩ : MethodName)) (z := (⟨"java/lang/String", "equals", "(Ljava/lang/Object;)Z"⟩ : MethodName)) ho381 (mvT hZ381 (own_w hw 57 rfl)) (mvT hZ381 (own_w hw 58 rfl)) (notFace_of_selects (args := #[]) (mvT hZ381 (own_w hw 60 rfl))) (mvT hZ381 (own_w hw 60 rfl)) (mvT hZ381 (own_w hw 59 rfl)) (by decide) (StrChars.Road.eqW (W := 0) hZ381 (own_wordsEq hw) (kI := 4) (own_w hw 2 rfl) Ef383 Ff384 Ff385 Vf386 (own_hcdG hp) (own_up _ hp) h4 Ea381 Va381 Ca381 Ab381 (own_hcdG (cs := [112, 100, 108, 112]) (by decide)) (own_up [112, 100, 108, 112] (by decide)) (Nat.le_of_ble_eq_true rfl) Sf382 P5 (by decide) (by decide)) q399a q399c (g := (mkF m 35 #[vR a0] [(.ref a381), (.ref a0)])) rfl (by rw [hml]; rfl) (Steps.refl _) (argsL := [(.ref a381)]) (rest := []) (lenOf pd_4 rfl) rfl (by show 2 * 0 + _ ≤ _; exact Nat.le_of_eq rfl) (hb hby d12_35) (fun _ _ => ⟨rfl, e381, (by decide : 6 + 0 ≤ _), (by decide : 56 + 0 ≤ _)⟩)
   dsimp only [Pt.U, Pt.locs, Pt.cells, Pt.slots] at X399 l399 y399 z399 st399 hQ399
   subst l399 y399 z399
   obtain ⟨q399, rfl, e399⟩ := hQ399
   obtain rfl := own_eqv q399
   try rw [List.append_nil] at X399
   have pre400 : own_P p e below T399 (mkF m 38 #[vR a0] [(.int (own_eq cs [112, 100, 108, 112]))]) s₁ (entryFrame m #[(.ref a0)] 1) := fun t k => pre398 t (st399.trans k)
   by_cases hc38_401 : (own_eq cs [112, 100, 108, 112]) = (0 : Int32)
   ·
    obtain ⟨fs, hr, hrun, hended, hRW⟩ := X399.leaveW (s := s) (vm₁ := T381.vm) hS381 (by rw [e399]; first | exact hk381 | exact Nat.le_refl _) (v := some .null) (fun h => by rw [Bd.returns] at h; cases h)
    refine ⟨_, _, pre400 _ ?_, hrun, hended, _, _, rfl, ?_, ?_, hRW.1, hRW.2.1, hRW.2.2.1, hRW.2.2.2.mono (by decide) (by decide)⟩
    ·
     refine XS.ifYes X399.here hx rfl (pc0 := 38) (pc' := 45) rfl (hb hby d12_38) rfl ((if0 _ _).trans (teq hc38_401).1) (by decide) (by decide) ?_
     refine XS.aconstNull X399.here hx rfl (hb hby d12_45) ?_
     exact retOut X399 hx Bd.returns rfl (Or.inr (Or.inr (Or.inr (Or.inr ⟨rfl, rfl, rfl⟩)))) (hb hby d12_46) hr
    ·
     show Q12_y Z a0 cs gc1 t k_t s_GLOP s_CLP s_PDLP h0 n0 _ T399.heap _
     rw [e399]
     exact ⟨by unfold f12_y; rw [if_pos hc12_361, if_pos hc25_379, if_pos hc38_401], N0, K381⟩
    ·
     have q := CR381.trans (CHv.at X399 hZ381 hEL CR381.1)
     rw [hh]
     show CHr _ _ _ _ T399.vm T399.heap
     rw [e399]
     exact q
   ·
    have pre402 : ∀ t, Steps p.tables e below (T399.setTop (mkF m 41 #[vR a0] [])) t → Steps p.tables e below (s₁.setTop (entryFrame m #[(.ref a0)] 1)) t := by
     intro t k
     refine pre400 t ?_
     refine XS.ifNo X399.here hx rfl (hb hby d12_38) rfl ((if0 _ _).trans (feq hc38_401).1) ?_
     exact k
    obtain ⟨T403, X403, e403, st403⟩ := getS2 X399 hx hZ381 ho381 (host := "") (Or.inl (own_w hw 118 rfl)) Via.refl e399 Sf389 (g := (mkF m 41 #[vR a0] [])) rfl (hb hby d12_41)
    have pre404 : own_P p e below T403 (mkF m 44 #[vR a0] [(.ref s_PDLP)]) s₁ (entryFrame m #[(.ref a0)] 1) := fun t k => pre402 t (st403 t k)
    obtain ⟨fs, hr, hrun, hended, hRW⟩ := X403.leaveW (s := s) (vm₁ := T381.vm) hS381 (by rw [e403]; first | exact hk381 | exact Nat.le_refl _) (v := some (.ref s_PDLP)) (fun h => by rw [Bd.returns] at h; cases h)
    refine ⟨_, _, pre404 _ ?_, hrun, hended, _, _, rfl, ?_, ?_, hRW.1, hRW.2.1, hRW.2.2.1, hRW.2.2.2.mono (by decide) (by decide)⟩
    ·
     exact retOut X403 hx Bd.returns rfl (Or.inr (Or.inr (Or.inr (Or.inr ⟨rfl, rfl, rfl⟩)))) (hb hby d12_44) hr
    ·
     show Q12_y Z a0 cs gc1 t k_t s_GLOP s_CLP s_PDLP h0 n0 _ T403.heap _
     rw [e403]
     exact ⟨by unfold f12_y; rw [if_pos hc12_361, if_pos hc25_379, if_neg hc38_401], N0, K381⟩
    ·
     have q := CR381.trans (CHv.at X403 hZ381 hEL CR381.1)
     rw [hh]
     show CHr _ _ _ _ T403.vm T403.heap
     rw [e403]
     exact q
  ·
   have pre405 : ∀ t, Steps p.tables e below (T377.setTop (mkF m 28 #[vR a0] [])) t → Steps p.tables e below (s₁.setTop (entryFrame m #[(.ref a0)] 1)) t := by
    intro t k
    refine pre378 t ?_
    refine XS.ifNo X377.here hx rfl (hb hby d12_25) rfl ((if0 _ _).trans (feq hc25_379).1) ?_
    exact k
   obtain ⟨T406, X406, e406, st406⟩ := getS2 X377 hx hZ363 ho363 (host := "") (Or.inl (own_w hw 116 rfl)) Via.refl e377 Sf370 (g := (mkF m 28 #[vR a0] [])) rfl (hb hby d12_28)
   have pre407 : own_P p e below T406 (mkF m 31 #[vR a0] [(.ref s_CLP)]) s₁ (entryFrame m #[(.ref a0)] 1) := fun t k => pre405 t (st406 t k)
   obtain ⟨fs, hr, hrun, hended, hRW⟩ := X406.leaveW (s := s) (vm₁ := T363.vm) hS363 (by rw [e406]; first | exact hk363 | exact Nat.le_refl _) (v := some (.ref s_CLP)) (fun h => by rw [Bd.returns] at h; cases h)
   refine ⟨_, _, pre407 _ ?_, hrun, hended, _, _, rfl, ?_, ?_, hRW.1, hRW.2.1, hRW.2.2.1, hRW.2.2.2.mono (by decide) (by decide)⟩
   ·
    exact retOut X406 hx Bd.returns rfl (Or.inr (Or.inr (Or.inr (Or.inr ⟨rfl, rfl, rfl⟩)))) (hb hby d12_31) hr
   ·
    show Q12_y Z a0 cs gc1 t k_t s_GLOP s_CLP s_PDLP h0 n0 _ T406.heap _
    rw [e406]
    exact ⟨by unfold f12_y; rw [if_pos hc12_361, if_neg hc25_379], N0, K363⟩
   ·
    have q := CR363.trans (CHv.at X406 hZ363 hEL CR363.1)
    rw [hh]
    show CHr _ _ _ _ T406.vm T406.heap
    rw [e406]
    exact q
 ·
  have pre408 : ∀ t, Steps p.tables e below (T359.setTop (mkF m 15 #[vR a0] [])) t → Steps p.tables e below (s₁.setTop (entryFrame m #[(.ref a0)] 1)) t := by
   intro t k
   refine pre360 t ?_
   refine XS.ifNo X359.here hx rfl (hb hby d12_12) rfl ((if0 _ _).trans (feq hc12_361).1) ?_
   exact k
  obtain ⟨T409, X409, e409, st409⟩ := getS2 X359 hx hZ349 ho349 (host := "") (Or.inl (own_w hw 119 rfl)) Via.refl e359 Sf355 (g := (mkF m 15 #[vR a0] [])) rfl (hb hby d12_15)
  have pre410 : own_P p e below T409 (mkF m 18 #[vR a0] [(.ref s_GLOP)]) s₁ (entryFrame m #[(.ref a0)] 1) := fun t k => pre408 t (st409 t k)
  obtain ⟨fs, hr, hrun, hended, hRW⟩ := X409.leaveW (s := s) (vm₁ := T349.vm) hS349 (by rw [e409]; first | exact hk349 | exact Nat.le_refl _) (v := some (.ref s_GLOP)) (fun h => by rw [Bd.returns] at h; cases h)
  refine ⟨_, _, pre410 _ ?_, hrun, hended, _, _, rfl, ?_, ?_, hRW.1, hRW.2.1, hRW.2.2.1, hRW.2.2.2.mono (by decide) (by decide)⟩
  ·
   exact retOut X409 hx Bd.returns rfl (Or.inr (Or.inr (Or.inr (Or.inr ⟨rfl, rfl, rfl⟩)))) (hb hby d12_18) hr
  ·
   show Q12_y Z a0 cs gc1 t k_t s_GLOP s_CLP s_PDLP h0 n0 _ T409.heap _
   rw [e409]
   exact ⟨by unfold f12_y; rw [if_neg hc12_361], N0, K349⟩
  ·
   have q := CR349.trans (CHv.at X409 hZ349 hEL CR349.1)
   rw [hh]
   show CHr _ _ _ _ T409.vm T409.heap
   rw [e409]
   exact q
theorem own_r_f12_y {cs : List Int32} {s_GLOP : Addr} {s_CLP : Addr} {s_PDLP : Addr} : (f12_y cs s_GLOP s_CLP s_PDLP).isRef = true := by
 unfold f12_y; repeat' split
 all_goals rfl
theorem pn_2 : plainName "com/example/timely_exodus/timelyexodus/plan/LpSolver" = true := by first | (simp [plainName, overriddenIn]; done) | decide +kernel
theorem d16_0 : decode prog_31_method_1_code 0 = .ok (.getstatic 13, 3) := by decide +kernel
theorem d16_3 : decode prog_31_method_1_code 3 = .ok (.invokevirtual 17, 3) := by decide +kernel
theorem d16_6 : decode prog_31_method_1_code 6 = .ok (.checkcast 18, 3) := by decide +kernel
theorem d16_9 : decode prog_31_method_1_code 9 = .ok (.areturn, 1) := by decide +kernel
theorem ef_16 (m : MethodId)  : entryFrame m #[] 0 = mkF m 0 #[] [] := by first | (simp [entryFrame, mkF, argsToLocals, Value.category]; done) | rfl
def Q16 (Z : State) (s__VALUES : Addr) (k__VALUES : ClassId) (s_GLOP : Addr) (s_CLP : Addr) (s_PDLP : Addr) (h0 : Heap) (n0 : Nat) (v : Option Value) (h : Heap) (L : List Loc) : Prop := ∃ (b : Addr) (k_b : ClassId), v = some (.ref b) ∧ Fr n0 L ∧ Keep h0 h [] ∧ h0.size ≤ b ∧ Arv Z h b k_b (.object "com/example/timely_exodus/timelyexodus/plan/LpSolver") (3 : Int32) [(.ref s_GLOP), (.ref s_CLP), (.ref s_PDLP)] .null ∧ Exa Z h b "[Lcom/example/timely_exodus/timelyexodus/plan/LpSolver;"
set_option maxRecDepth 65536 in
set_option maxHeartbeats 40000000 in
theorem rm16 (l : Launch) (Z : State) (ar0 : Array Value) (hw : ∀ d ∈ tables_1, d.before ar0 Z = true) (ws : List Jvm.Cond) (s__VALUES : Addr) (k__VALUES : ClassId) (s_GLOP : Addr) (s_CLP : Addr) (s_PDLP : Addr) (h0 : Heap) (n0 : Nat) (Z0 : n0 ≤ h0.size) (S__VALUES : Sta Z h0 "com/example/timely_exodus/timelyexodus/plan/LpSolver" "$VALUES" "[Lcom/example/timely_exodus/timelyexodus/plan/LpSolver;" (.ref s__VALUES)) (V_s__VALUES : Arv Z h0 s__VALUES k__VALUES (.object "com/example/timely_exodus/timelyexodus/plan/LpSolver") (3 : Int32) [(.ref s_GLOP), (.ref s_CLP), (.ref s_PDLP)] .null) (E_s__VALUES : Exa Z h0 s__VALUES "[Lcom/example/timely_exodus/timelyexodus/plan/LpSolver;") :
  MetFree l (⟨"com/example/timely_exodus/timelyexodus/plan/LpSolver", "values", "()[Lcom/example/timely_exodus/timelyexodus/plan/LpSolver;"⟩ : MethodName) (head1 (Jvm.Cond.code (⟨"com/example/timely_exodus/timelyexodus/plan/LpSolver", "values", "()[Lcom/example/timely_exodus/timelyexodus/plan/LpSolver;"⟩ : MethodName) prog_31_method_1_code 0 (some (.array (.object "com/example/timely_exodus/timelyexodus/plan/LpSolver"))) :: ws) ({ frames := 1, cells := 1, slots := 3, locals := 14 } : Room)) (fun a U => a = #[] ∧ Z.Warmed39 U.vm ∧ U.heap = h0) (fun _ _ _ _ _ => True) (fun _ U o U' => ∃ v L, o = .returned v ∧ Q16 Z s__VALUES k__VALUES s_GLOP s_CLP s_PDLP h0 n0 v U'.heap L ∧ FrameEnd U o U' L ({ frames := 1, cells := 1, slots := 3, locals := 14 } : Room).cells ({ frames := 1, cells := 1, slots := 3, locals := 14 } : Room).slots) := by
 refine MetFree.of_bodySF (plainFor_of_name pn_2) hisR ?_
 intro p e s m args below meth c s₁ Bd hml0 hP hK
 obtain ⟨rfl, hZ, hh⟩ := hP
 have hx := Bd.exec
 have hby := Bd.bytes
 have hml : c.maxLocals = 0 := hml0
 have hown : s.vm.findClass "com/example/timely_exodus/timelyexodus/plan/LpSolver" = some m.cls := by have q := findClass_of_methodNamed Bd.named; exact q
 have hnm := (name_of_methodNamed Bd.named Bd.method).1
 have X0 : Stand p l e ({ frames := 1, cells := 1, slots := 3, locals := 14 } : Room) s m #[] below meth c s₁ [] 0 0 := Stand.of_body Bd
 have e0 : s₁.heap = h0 := by rw [← hh, Bd.state]; rfl
 have N0 := Fr.nil n0
 have pre0 : own_P p e below s₁ (mkF m 0 #[] []) s₁ (entryFrame m #[] 0) := fun t k => castTop (ef_16 m ) k
 obtain ⟨T411, X411, e411, st411⟩ := getS2 X0 hx hZ hown (host := "") (Or.inl (own_w hw 76 rfl)) Via.refl e0 S__VALUES (g := (mkF m 0 #[] [])) rfl (hb hby d16_0)
 have pre412 : own_P p e below T411 (mkF m 3 #[] [(.ref s__VALUES)]) s₁ (entryFrame m #[] 0) := fun t k => pre0 t (st411 t k)
 obtain ⟨T413, h413, X413, e413, E413, A413, C413, st413⟩ := cloneH X411 hx hZ hown (own_w hw 78 rfl) (own_w hw 79 rfl) (own_w hw 83 rfl) (own_w hw 81 rfl) (own_w hw 82 rfl) (own_w hw 84 rfl) e411 (Arv.arh V_s__VALUES) E_s__VALUES (g := (mkF m 3 #[] [(.ref s__VALUES)])) rfl (by rw [hml]; rfl) rfl (hb hby d16_3) (by decide) (W := 0) (cap := 3) (by show 2 * 0 + _ ≤ _; exact Nat.le_of_eq rfl) (by decide) (by decide) (by decide) (by decide)
 obtain ⟨b413, g413⟩ : ∃ z, z = h0.size := ⟨_, rfl⟩
 rw [← g413] at A413 C413 st413
 have ne_s__VALUES_b413 : s__VALUES ≠ b413 := Nat.ne_of_lt (Nat.lt_of_lt_of_le (V_s__VALUES).lt (Nat.le_of_eq g413.symm))
 have g_b413 : n0 ≤ b413 := Nat.le_trans Z0 (Nat.le_of_eq g413.symm)
 have sz_b413 : h0.size ≤ b413 := Nat.le_trans (Keep.refl h0 []).1 (Nat.le_of_eq g413.symm)
 have Z413 : n0 ≤ h413.size := Nat.le_trans Z0 E413.1
 have K413 : Keep h0 h413 [] := (Keep.refl h0 []).ext E413
 have Sf414 : Sta Z h413 "com/example/timely_exodus/timelyexodus/plan/LpSolver" "$VALUES" "[Lcom/example/timely_exodus/timelyexodus/plan/LpSolver;" (.ref s__VALUES) := (S__VALUES).ext E413
 have Vf415 : Arv Z h413 s__VALUES k__VALUES (.object "com/example/timely_exodus/timelyexodus/plan/LpSolver") (3 : Int32) [(.ref s_GLOP), (.ref s_CLP), (.ref s_PDLP)] .null := (V_s__VALUES).ext E413
 have Ef416 : Exa Z h413 s__VALUES "[Lcom/example/timely_exodus/timelyexodus/plan/LpSolver;" := (E_s__VALUES).ext E413
 have V_b413 : Arv Z h413 b413 k__VALUES (.object "com/example/timely_exodus/timelyexodus/plan/LpSolver") (3 : Int32) [(.ref s_GLOP), (.ref s_CLP), (.ref s_PDLP)] .null := A413
 have pre417 : own_P p e below T413 (mkF m 6 #[] [(.ref b413)]) s₁ (entryFrame m #[] 0) := fun t k => pre412 t (st413 t k)
 obtain ⟨T418, X418, e418, st418⟩ := castY X413 hx hZ hown (own_w hw 89 rfl) e413 (Ins.self C413) (g := (mkF m 6 #[] [(.ref b413)])) rfl rfl (hb hby d16_6)
 have pre419 : own_P p e below T418 (mkF m 9 #[] [(.ref b413)]) s₁ (entryFrame m #[] 0) := fun t k => pre417 t (st418 t k)
 obtain ⟨fs, hr, hrun, hended, hW, hsame⟩ := X418.leave (v := some (.ref b413)) (fun h => by rw [Bd.returns] at h; cases h)
 refine ⟨_, _, pre419 _ ?_, hrun, hended, _, _, rfl, ?_, ⟨_, rfl⟩, hW, hsame.mono (by decide) (by decide)⟩
 ·
  exact retOut X418 hx Bd.returns rfl (Or.inr (Or.inr (Or.inr (Or.inr ⟨rfl, rfl, rfl⟩)))) (hb hby d16_9) hr
 ·
  show Q16 Z s__VALUES k__VALUES s_GLOP s_CLP s_PDLP h0 n0 _ T418.heap _
  rw [e418]
  exact ⟨b413, k__VALUES, rfl, N0, K413, sz_b413, V_b413, C413⟩
theorem pd_5 : parseMethodDescriptor "()[Lcom/example/timely_exodus/timelyexodus/plan/LpSolver;" = some ⟨[], some (.array (.object "com/example/timely_exodus/timelyexodus/plan/LpSolver"))⟩ := by decide +kernel
theorem d15_0 : decode prog_31_method_4_code 0 = .ok (.aconst_null, 1) := by decide +kernel
theorem d15_1 : decode prog_31_method_4_code 1 = .ok (.astore_n 1, 1) := by decide +kernel
theorem d15_2 : decode prog_31_method_4_code 2 = .ok (.invokestatic 42, 3) := by decide +kernel
theorem d15_5 : decode prog_31_method_4_code 5 = .ok (.astore_n 2, 1) := by decide +kernel
theorem d15_6 : decode prog_31_method_4_code 6 = .ok (.aload_n 2, 1) := by decide +kernel
theorem d15_7 : decode prog_31_method_4_code 7 = .ok (.arraylength, 1) := by decide +kernel
theorem d15_8 : decode prog_31_method_4_code 8 = .ok (.istore_n 3, 1) := by decide +kernel
theorem d15_9 : decode prog_31_method_4_code 9 = .ok (.iconst 0, 1) := by decide +kernel
theorem d15_10 : decode prog_31_method_4_code 10 = .ok (.istore 4, 2) := by decide +kernel
theorem d15_12 : decode prog_31_method_4_code 12 = .ok (.iload 4, 2) := by decide +kernel
theorem d15_14 : decode prog_31_method_4_code 14 = .ok (.iload_n 3, 1) := by decide +kernel
theorem d15_15 : decode prog_31_method_4_code 15 = .ok (.if_icmp .ge 30, 3) := by decide +kernel
theorem d15_18 : decode prog_31_method_4_code 18 = .ok (.aload_n 2, 1) := by decide +kernel
theorem d15_19 : decode prog_31_method_4_code 19 = .ok (.iload 4, 2) := by decide +kernel
theorem d15_21 : decode prog_31_method_4_code 21 = .ok (.aaload, 1) := by decide +kernel
theorem d15_22 : decode prog_31_method_4_code 22 = .ok (.astore 5, 2) := by decide +kernel
theorem d15_24 : decode prog_31_method_4_code 24 = .ok (.aload 5, 2) := by decide +kernel
theorem d15_26 : decode prog_31_method_4_code 26 = .ok (.getfield 32, 3) := by decide +kernel
theorem d15_29 : decode prog_31_method_4_code 29 = .ok (.aload_n 0, 1) := by decide +kernel
theorem d15_30 : decode prog_31_method_4_code 30 = .ok (.invokevirtual 46, 3) := by decide +kernel
theorem d15_33 : decode prog_31_method_4_code 33 = .ok (.ifCond .eq 6, 3) := by decide +kernel
theorem d15_39 : decode prog_31_method_4_code 39 = .ok (.iinc 4 1, 3) := by decide +kernel
theorem d15_42 : decode prog_31_method_4_code 42 = .ok (.goto (-30), 3) := by decide +kernel
theorem d15_45 : decode prog_31_method_4_code 45 = .ok (.aload_n 1, 1) := by decide +kernel
theorem d15_46 : decode prog_31_method_4_code 46 = .ok (.areturn, 1) := by decide +kernel
theorem ef_15_n (m : MethodId)  : entryFrame m #[.null] 6 = mkF m 0 #[.val .null, .unset, .unset, .unset, .unset, .unset] [] := by first | (simp [entryFrame, mkF, argsToLocals, Value.category]; done) | rfl
def Q15_n (Z : State) (s__VALUES : Addr) (k__VALUES : ClassId) (s_GLOP : Addr) (s_CLP : Addr) (s_PDLP : Addr) (n_GLOP : Addr) (t_GLOP : Addr) (k_t_GLOP : ClassId) (n_CLP : Addr) (t_CLP : Addr) (k_t_CLP : ClassId) (n_PDLP : Addr) (t_PDLP : Addr) (k_t_PDLP : ClassId) (h0 : Heap) (n0 : Nat) (v : Option Value) (h : Heap) (L : List Loc) : Prop := v = some .null ∧ Fr n0 L ∧ Keep h0 h []
set_option maxRecDepth 65536 in
set_option maxHeartbeats 40000000 in
theorem rm15_n (l : Launch) (Z : State) (ar0 : Array Value) (hw : ∀ d ∈ tables_1, d.before ar0 Z = true) (ws : List Jvm.Cond) (s__VALUES : Addr) (k__VALUES : ClassId) (s_GLOP : Addr) (s_CLP : Addr) (s_PDLP : Addr) (n_GLOP : Addr) (t_GLOP : Addr) (k_t_GLOP : ClassId) (n_CLP : Addr) (t_CLP : Addr) (k_t_CLP : ClassId) (n_PDLP : Addr) (t_PDLP : Addr) (k_t_PDLP : ClassId) (h0 : Heap) (n0 : Nat) (Z0 : n0 ≤ h0.size) (S__VALUES : Sta Z h0 "com/example/timely_exodus/timelyexodus/plan/LpSolver" "$VALUES" "[Lcom/example/timely_exodus/timelyexodus/plan/LpSolver;" (.ref s__VALUES)) (V_s__VALUES : Arv Z h0 s__VALUES k__VALUES (.object "com/example/timely_exodus/timelyexodus/plan/LpSolver") (3 : Int32) [(.ref s_GLOP), (.ref s_CLP), (.ref s_PDLP)] .null) (E_s__VALUES : Exa Z h0 s__VALUES "[Lcom/example/timely_exodus/timelyexodus/plan/LpSolver;") (E_s_GLOP : Exa Z h0 s_GLOP "com/example/timely_exodus/timelyexodus/plan/LpSolver") (F_name_s_GLOP : Fld Z h0 s_GLOP "com/example/timely_exodus/timelyexodus/plan/LpSolver" "name" "Ljava/lang/String;" (.ref n_GLOP)) (E_n_GLOP : Exa Z h0 n_GLOP "java/lang/String") (F_value_n_GLOP : Fld Z h0 n_GLOP "java/lang/String" "value" "[B" (.ref t_GLOP)) (F_coder_n_GLOP : Fld Z h0 n_GLOP "java/lang/String" "coder" "B" (.int 0)) (B_t_GLOP : Arv Z h0 t_GLOP k_t_GLOP .byte (4 : Int32) ((([103, 108, 111, 112] : List Int32).map (fun c => c.toInt8.toInt32)).map Value.int) (.int 0)) (E_s_CLP : Exa Z h0 s_CLP "com/example/timely_exodus/timelyexodus/plan/LpSolver") (F_name_s_CLP : Fld Z h0 s_CLP "com/example/timely_exodus/timelyexodus/plan/LpSolver" "name" "Ljava/lang/String;" (.ref n_CLP)) (E_n_CLP : Exa Z h0 n_CLP "java/lang/String") (F_value_n_CLP : Fld Z h0 n_CLP "java/lang/String" "value" "[B" (.ref t_CLP)) (F_coder_n_CLP : Fld Z h0 n_CLP "java/lang/String" "coder" "B" (.int 0)) (B_t_CLP : Arv Z h0 t_CLP k_t_CLP .byte (3 : Int32) ((([99, 108, 112] : List Int32).map (fun c => c.toInt8.toInt32)).map Value.int) (.int 0)) (E_s_PDLP : Exa Z h0 s_PDLP "com/example/timely_exodus/timelyexodus/plan/LpSolver") (F_name_s_PDLP : Fld Z h0 s_PDLP "com/example/timely_exodus/timelyexodus/plan/LpSolver" "name" "Ljava/lang/String;" (.ref n_PDLP)) (E_n_PDLP : Exa Z h0 n_PDLP "java/lang/String") (F_value_n_PDLP : Fld Z h0 n_PDLP "java/lang/String" "value" "[B" (.ref t_PDLP)) (F_coder_n_PDLP : Fld Z h0 n_PDLP "java/lang/String" "coder" "B" (.int 0)) (B_t_PDLP : Arv Z h0 t_PDLP k_t_PDLP .byte (4 : Int32) ((([112, 100, 108, 112] : List Int32).map (fun c => c.toInt8.toInt32)).map Value.int) (.int 0)) :
  MetFree l (⟨"com/example/timely_exodus/timelyexodus/plan/LpSolver", "fromName", "(Ljava/lang/String;)Lcom/example/timely_exodus/timelyexodus/plan/LpSolver;"⟩ : MethodName) (head1 (Jvm.Cond.code (⟨"com/example/timely_exodus/timelyexodus/plan/LpSolver", "fromName", "(Ljava/lang/String;)Lcom/example/timely_exodus/timelyexodus/plan/LpSolver;"⟩ : MethodName) prog_31_method_4_code 6 (some (.object "com/example/timely_exodus/timelyexodus/plan/LpSolver")) :: ws) ({ frames := 2, cells := 1, slots := 3, locals := 25 } : Room)) (fun a U => a = #[.null] ∧ Z.Warmed39 U.vm ∧ U.heap = h0) (fun _ _ _ _ _ => True) (fun _ U o U' => ∃ v L, o = .returned v ∧ Q15_n Z s__VALUES k__VALUES s_GLOP s_CLP s_PDLP n_GLOP t_GLOP k_t_GLOP n_CLP t_CLP k_t_CLP n_PDLP t_PDLP k_t_PDLP h0 n0 v U'.heap L ∧ FrameEnd U o U' L ({ frames := 2, cells := 1, slots := 3, locals := 25 } : Room).cells ({ frames := 2, cells := 1, slots := 3, locals := 25 } : Room).slots) := by
 refine MetFree.of_bodySF (plainFor_of_name pn_2) hisR ?_
 intro p e s m args below meth c s₁ Bd hml0 hP hK
 obtain ⟨rfl, hZ, hh⟩ := hP
 have hx := Bd.exec
 have hby := Bd.bytes
 have hml : c.maxLocals = 6 := hml0
 have hown : s.vm.findClass "com/example/timely_exodus/timelyexodus/plan/LpSolver" = some m.cls := by have q := findClass_of_methodNamed Bd.named; exact q
 have hnm := (name_of_methodNamed Bd.named Bd.method).1
 have X0 : Stand p l e ({ frames := 2, cells := 1, slots := 3, locals := 25 } : Room) s m #[.null] below meth c s₁ [] 0 0 := Stand.of_body Bd
 have e0 : s₁.heap = h0 := by rw [← hh, Bd.state]; rfl
 have N0 := Fr.nil n0
 have pre0 : own_P p e below s₁ (mkF m 0 #[.val .null, .unset, .unset, .unset, .unset, .unset] []) s₁ (entryFrame m #[.null] 6) := fun t k => castTop (ef_15_n m ) k
 have pre420 : own_P p e below s₁ (mkF m 2 #[.val .null, .val .null, .unset, .unset, .unset, .unset] []) s₁ (entryFrame m #[.null] 6) := by
  intro t k
  refine pre0 t ?_
  refine XS.aconstNull X0.here hx rfl (hb hby d15_0) ?_
  refine XS.astoreN X0.here hx rfl (hb hby d15_1) rfl rfl (l' := #[.val .null, .val .null, .unset, .unset, .unset, .unset]) rfl ?_
  exact k
 obtain ⟨_, _, ⟨T421, L421, k421, n421⟩, -, X421, ⟨Lc421, hQ421, l421, y421, z421⟩, st421⟩ := Jvm.LawKit.callS X0 hx (y := (⟨"com/example/timely_exodus/timelyexodus/plan/LpSolver", "values", "()[Lcom/example/timely_exodus/timelyexodus/plan/LpSolver;"⟩ : MethodName)) hown (mvT hZ (own_w hw 73 rfl)) (mvT hZ (own_w hw 74 rfl)) (mvT hZ (own_w hw 71 rfl)) (mvT hZ (own_w hw 75 rfl)) (by decide) (backOf (W := 0) (rm16 l Z ar0 hw [] s__VALUES k__VALUES s_GLOP s_CLP s_PDLP h0 n0 Z0 S__VALUES V_s__VALUES E_s__VALUES) hZ (own_w hw 75 rfl) (own_w hw 71 rfl) (by decide) (by decide)) (g := (mkF m 2 #[.val .null, .val .null, .unset, .unset, .unset, .unset] [])) rfl (by rw [hml]; rfl) (argsL := []) (rest := []) (lenOf pd_5 rfl) rfl (by show 2 * 0 + _ ≤ _; exact Nat.le_of_eq rfl) (hb hby d15_2) (fun _ _ => ⟨rfl, e0, (by decide : 0 + 1 ≤ _), (by decide : 0 + 3 ≤ _)⟩)
 dsimp only [Pt.U, Pt.locs, Pt.cells, Pt.slots] at X421 l421 y421 z421 st421 hQ421
 subst l421 y421 z421
 obtain ⟨h421, e421⟩ : ∃ h, T421.heap = h := ⟨_, rfl⟩
 rw [e421] at hQ421
 obtain ⟨b421, kb421, rfl, N421q, K421q, y_b421, Ob421_0, Ob421_1⟩ := hQ421
 have N421 := Fr.app N0 N421q
 have ne_s__VALUES_b421 : s__VALUES ≠ b421 := Nat.ne_of_lt (Nat.lt_of_lt_of_le (V_s__VALUES).lt y_b421)
 have ne_s_GLOP_b421 : s_GLOP ≠ b421 := Nat.ne_of_lt (Nat.lt_of_lt_of_le (E_s_GLOP).lt y_b421)
 have ne_n_GLOP_b421 : n_GLOP ≠ b421 := Nat.ne_of_lt (Nat.lt_of_lt_of_le (E_n_GLOP).lt y_b421)
 have ne_t_GLOP_b421 : t_GLOP ≠ b421 := Nat.ne_of_lt (Nat.lt_of_lt_of_le (B_t_GLOP).lt y_b421)
 have ne_s_CLP_b421 : s_CLP ≠ b421 := Nat.ne_of_lt (Nat.lt_of_lt_of_le (E_s_CLP).lt y_b421)
 have ne_n_CLP_b421 : n_CLP ≠ b421 := Nat.ne_of_lt (Nat.lt_of_lt_of_le (E_n_CLP).lt y_b421)
 have ne_t_CLP_b421 : t_CLP ≠ b421 := Nat.ne_of_lt (Nat.lt_of_lt_of_le (B_t_CLP).lt y_b421)
 have ne_s_PDLP_b421 : s_PDLP ≠ b421 := Nat.ne_of_lt (Nat.lt_of_lt_of_le (E_s_PDLP).lt y_b421)
 have ne_n_PDLP_b421 : n_PDLP ≠ b421 := Nat.ne_of_lt (Nat.lt_of_lt_of_le (E_n_PDLP).lt y_b421)
 have ne_t_PDLP_b421 : t_PDLP ≠ b421 := Nat.ne_of_lt (Nat.lt_of_lt_of_le (B_t_PDLP).lt y_b421)
 have g_b421 : n0 ≤ b421 := Nat.le_trans Z0 y_b421
 have sz_b421 : h0.size ≤ b421 := Nat.le_trans (Keep.refl h0 []).1 y_b421
 have Z421 : n0 ≤ h421.size := Nat.le_trans Z0 K421q.1
 have K421 : Keep h0 h421 [] := (Keep.refl h0 []).trans K421q (fun x hx => absurd hx List.not_mem_nil)
 have Sf422 : Sta Z h421 "com/example/timely_exodus/timelyexodus/plan/LpSolver" "$VALUES" "[Lcom/example/timely_exodus/timelyexodus/plan/LpSolver;" (.ref s__VALUES) := own_sta_keep0 S__VALUES K421q
 have Vf423 : Arv Z h421 s__VALUES k__VALUES (.object "com/example/timely_exodus/timelyexodus/plan/LpSolver") (3 : Int32) [(.ref s_GLOP), (.ref s_CLP), (.ref s_PDLP)] .null := (V_s__VALUES).keep K421q List.not_mem_nil
 have Ef424 : Exa Z h421 s__VALUES "[Lcom/example/timely_exodus/timelyexodus/plan/LpSolver;" := (E_s__VALUES).keep K421q
 have Ef425 : Exa Z h421 s_GLOP "com/example/timely_exodus/timelyexodus/plan/LpSolver" := (E_s_GLOP).keep K421q
 have Ff426 : Fld Z h421 s_GLOP "com/example/timely_exodus/timelyexodus/plan/LpSolver" "name" "Ljava/lang/String;" (.ref n_GLOP) := (F_name_s_GLOP).keep K421q List.not_mem_nil
 have Ef427 : Exa Z h421 n_GLOP "java/lang/String" := (E_n_GLOP).keep K421q
 have Ff428 : Fld Z h421 n_GLOP "java/lang/String" "value" "[B" (.ref t_GLOP) := (F_value_n_GLOP).keep K421q List.not_mem_nil
 have Ff429 : Fld Z h421 n_GLOP "java/lang/String" "coder" "B" (.int 0) := (F_coder_n_GLOP).keep K421q List.not_mem_nil
 have Vf430 : Arv Z h421 t_GLOP k_t_GLOP .byte (4 : Int32) ((([103, 108, 111, 112] : List Int32).map (fun c => c.toInt8.toInt32)).map Value.int) (.int 0) := (B_t_GLOP).keep K421q List.not_mem_nil
 have Ef431 : Exa Z h421 s_CLP "com/example/timely_exodus/timelyexodus/plan/LpSolver" := (E_s_CLP).keep K421q
 have Ff432 : Fld Z h421 s_CLP "com/example/timely_exodus/timelyexodus/plan/LpSolver" "name" "Ljava/lang/String;" (.ref n_CLP) := (F_name_s_CLP).keep K421q List.not_mem_nil
 have Ef433 : Exa Z h421 n_CLP "java/lang/String" := (E_n_CLP).keep K421q
 have Ff434 : Fld Z h421 n_CLP "java/lang/String" "value" "[B" (.ref t_CLP) := (F_value_n_CLP).keep K421q List.not_mem_nil
 have Ff435 : Fld Z h421 n_CLP "java/lang/String" "coder" "B" (.int 0) := (F_coder_n_CLP).keep K421q List.not_mem_nil
 have Vf436 : Arv Z h421 t_CLP k_t_CLP .byte (3 : Int32) ((([99, 108, 112] : List Int32).map (fun c => c.toInt8.toInt32)).map Value.int) (.int 0) := (B_t_CLP).keep K421q List.not_mem_nil
 have Ef437 : Exa Z h421 s_PDLP "com/example/timely_exodus/timelyexodus/plan/LpSolver" := (E_s_PDLP).keep K421q
 have Ff438 : Fld Z h421 s_PDLP "com/example/timely_exodus/timelyexodus/plan/LpSolver" "name" "Ljava/lang/String;" (.ref n_PDLP) := (F_name_s_PDLP).keep K421q List.not_mem_nil
 have Ef439 : Exa Z h421 n_PDLP "java/lang/String" := (E_n_PDLP).keep K421q
 have Ff440 : Fld Z h421 n_PDLP "java/lang/String" "value" "[B" (.ref t_PDLP) := (F_value_n_PDLP).keep K421q List.not_mem_nil
 have Ff441 : Fld Z h421 n_PDLP "java/lang/String" "coder" "B" (.int 0) := (F_coder_n_PDLP).keep K421q List.not_mem_nil
 have Vf442 : Arv Z h421 t_PDLP k_t_PDLP .byte (4 : Int32) ((([112, 100, 108, 112] : List Int32).map (fun c => c.toInt8.toInt32)).map Value.int) (.int 0) := (B_t_PDLP).keep K421q List.not_mem_nil
 have pre443 : own_P p e below T421 (mkF m 5 #[.val .null, .val .null, .unset, .unset, .unset, .unset] [(.ref b421)]) s₁ (entryFrame m #[.null] 6) := fun t k => pre420 t (st421 t k)
 have pre444 : own_P p e below T421 (mkF m 7 #[.val .null, .val .null, vR b421, .unset, .unset, .unset] [(.ref b421)]) s₁ (entryFrame m #[.null] 6) := by
  intro t k
  refine pre443 t ?_
  refine XS.astoreN X421.here hx rfl (hb hby d15_5) rfl rfl (l' := #[.val .null, .val .null, vR b421, .unset, .unset, .unset]) rfl ?_
  refine XS.aloadN X421.here hx rfl (hb hby d15_6) rfl rfl ?_
  exact k
 obtain ⟨cl445, Ar445, q445, S445, M445, H445, G445⟩ := id Ob421_0
 have pre446 : own_P p e below T421 (mkF m 21 #[.val .null, .val .null, vR b421, vI 3, vI 0, .unset] [(.int 0), (.ref b421)]) s₁ (entryFrame m #[.null] 6) := by
  intro t k
  refine pre444 t ?_
  refine X421.arraylength hx (by rw [e421]; exact Ar445.1) (State.isArrayOf_alike hZ.alike Ar445.2.1) (g := (mkF m 7 #[.val .null, .val .null, vR b421, .unset, .unset, .unset] [(.ref b421)])) rfl rfl (hb hby d15_7) _ ?_
  rw [len_of S445 M445]
  refine XS.istoreN X421.here hx rfl (hb hby d15_8) rfl (l' := #[.val .null, .val .null, vR b421, vI 3, .unset, .unset]) rfl ?_
  refine XS.iconst X421.here hx rfl (hb hby d15_9) ?_
  refine XS.istore X421.here hx rfl (hb hby d15_10) rfl (l' := #[.val .null, .val .null, vR b421, vI 3, vI 0, .unset]) rfl ?_
  refine XS.iload X421.here hx rfl (hb hby d15_12) rfl ?_
  refine XS.iloadN X421.here hx rfl (hb hby d15_14) rfl ?_
  refine XS.icmpNo X421.here hx rfl (hb hby d15_15) rfl (tlt (by decide : (0 : Int32) < (3 : Int32))).2.1 ?_
  refine XS.aloadN X421.here hx rfl (hb hby d15_18) rfl rfl ?_
  refine XS.iload X421.here hx rfl (hb hby d15_19) rfl ?_
  exact k
 obtain ⟨cl447, Ar447, q447, S447, M447, H447, G447⟩ := id Ob421_0
 have hin447 : ¬ ((0 : Int32) < 0 ∨ cl447.slots.size ≤ ((0 : Int32)).toNatClampNeg) := inb_of S447 ⟨by decide, by decide⟩
 have hat447 : cl447.slots[((0 : Int32)).toNatClampNeg]? = some (.ref s_GLOP) := H447.at hin447 rfl
 have pre448 : own_P p e below T421 (mkF m 26 #[.val .null, .val .null, vR b421, vI 3, vI 0, vR s_GLOP] [(.ref s_GLOP)]) s₁ (entryFrame m #[.null] 6) := by
  intro t k
  refine pre446 t ?_
  refine X421.aaload hx (j := (0 : Int32)) (v := (.ref s_GLOP)) (by rw [e421]; exact Ar447.1) (State.isArrayOf_alike hZ.alike Ar447.2.1) rfl Ar447.2.2 hin447 hat447 (g := (mkF m 21 #[.val .null, .val .null, vR b421, vI 3, vI 0, .unset] [(.int 0), (.ref b421)])) rfl rfl (hb hby d15_21) _ ?_
  refine XS.astore X421.here hx rfl (hb hby d15_22) rfl rfl (l' := #[.val .null, .val .null, vR b421, vI 3, vI 0, vR s_GLOP]) rfl ?_
  refine XS.aload X421.here hx rfl (hb hby d15_24) rfl rfl ?_
  exact k
 obtain ⟨T449, X449, e449, st449⟩ := getF X421 hx hZ hown (host := "") (Or.inl (own_w hw 91 rfl)) Via.refl e421 Ff426 (g := (mkF m 26 #[.val .null, .val .null, vR b421, vI 3, vI 0, vR s_GLOP] [(.ref s_GLOP)])) rfl rfl (hb hby d15_26)
 have pre450 : own_P p e below T449 (mkF m 29 #[.val .null, .val .null, vR b421, vI 3, vI 0, vR s_GLOP] [(.ref n_GLOP)]) s₁ (entryFrame m #[.null] 6) := fun t k => pre448 t (st449 t k)
 have pre451 : own_P p e below T449 (mkF m 30 #[.val .null, .val .null, vR b421, vI 3, vI 0, vR s_GLOP] [.null, (.ref n_GLOP)]) s₁ (entryFrame m #[.null] 6) := by
  intro t k
  refine pre450 t ?_
  refine XS.aloadN X449.here hx rfl (hb hby d15_29) rfl rfl ?_
  exact k
 obtain ⟨cq452, kq452, q452a, q452b, q452c⟩ := isOf hZ e449 Ef427
 obtain ⟨_, _, ⟨T452, L452, k452, n452⟩, -, X452, ⟨Lc452, hQ452, l452, y452, z452⟩, st452⟩ := X449.virtualBack hx (y := (⟨"java/lang/String", "equals", "(Ljava/lang/Object;)Z"⟩ : MethodName)) (z := (⟨"java/lang/String", "equals", "(Ljava/lang/Object;)Z"⟩ : MethodName)) hown (mvT hZ (own_w hw 93 rfl)) (mvT hZ (own_w hw 58 rfl)) (notFace_of_selects (args := #[]) (mvT hZ (own_w hw 60 rfl))) (mvT hZ (own_w hw 60 rfl)) (mvT hZ (own_w hw 59 rfl)) (by decide) (backOf (W := 0) (rm13_n l Z ar0 hw [] n_GLOP h421 n0 Z421) hZ (own_w hw 61 rfl) (own_w hw 1 rfl) (by decide) (by decide)) q452a q452c (g := (mkF m 30 #[.val .null, .val .null, vR b421, vI 3, vI 0, vR s_GLOP] [.null, (.ref n_GLOP)])) rfl (by rw [hml]; rfl) (Steps.refl _) (argsL := [.null]) (rest := []) (lenOf pd_4 rfl) rfl (by show 2 * 0 + _ ≤ _; exact Nat.le_of_eq rfl) (hb hby d15_30) (fun _ _ => ⟨rfl, e449, (by decide : 1 + 0 ≤ _), (by decide : 3 + 0 ≤ _)⟩)
 dsimp only [Pt.U, Pt.locs, Pt.cells, Pt.slots] at X452 l452 y452 z452 st452 hQ452
 subst l452 y452 z452
 obtain ⟨rfl, N452q, e452⟩ := hQ452
 have N452 := Fr.app N421 N452q
 have pre453 : own_P p e below T452 (mkF m 33 #[.val .null, .val .null, vR b421, vI 3, vI 0, vR s_GLOP] [(.int 0)]) s₁ (entryFrame m #[.null] 6) := fun t k => pre451 t (st452.trans k)
 have pre454 : own_P p e below T452 (mkF m 21 #[.val .null, .val .null, vR b421, vI 3, vI 1, vR s_GLOP] [(.int 1), (.ref b421)]) s₁ (entryFrame m #[.null] 6) := by
  intro t k
  refine pre453 t ?_
  refine XS.ifYes X452.here hx rfl (pc0 := 33) (pc' := 39) rfl (hb hby d15_33) rfl ((if0 _ _).trans (teq (by decide : (0 : Int32) = (0 : Int32))).1) (by decide) (by decide) ?_
  refine XS.iinc X452.here hx rfl (hb hby d15_39) rfl (l' := #[.val .null, .val .null, vR b421, vI 3, vI 1, vR s_GLOP]) rfl ?_
  refine XS.goto X452.here hx rfl (pc0 := 42) (pc' := 12) rfl (hb hby d15_42) (by decide) (by decide) ?_
  refine XS.iload X452.here hx rfl (hb hby d15_12) rfl ?_
  refine XS.iloadN X452.here hx rfl (hb hby d15_14) rfl ?_
  refine XS.icmpNo X452.here hx rfl (hb hby d15_15) rfl (tlt (by decide : (1 : Int32) < (3 : Int32))).2.1 ?_
  refine XS.aloadN X452.here hx rfl (hb hby d15_18) rfl rfl ?_
  refine XS.iload X452.here hx rfl (hb hby d15_19) rfl ?_
  exact k
 obtain ⟨cl455, Ar455, q455, S455, M455, H455, G455⟩ := id Ob421_0
 have hin455 : ¬ ((1 : Int32) < 0 ∨ cl455.slots.size ≤ ((1 : Int32)).toNatClampNeg) := inb_of S455 ⟨by decide, by decide⟩
 have hat455 : cl455.slots[((1 : Int32)).toNatClampNeg]? = some (.ref s_CLP) := H455.at hin455 rfl
 have pre456 : own_P p e below T452 (mkF m 26 #[.val .null, .val .null, vR b421, vI 3, vI 1, vR s_CLP] [(.ref s_CLP)]) s₁ (entryFrame m #[.null] 6) := by
  intro t k
  refine pre454 t ?_
  refine X452.aaload hx (j := (1 : Int32)) (v := (.ref s_CLP)) (by rw [e452]; exact Ar455.1) (State.isArrayOf_alike hZ.alike Ar455.2.1) rfl Ar455.2.2 hin455 hat455 (g := (mkF m 21 #[.val .null, .val .null, vR b421, vI 3, vI 1, vR s_GLOP] [(.int 1), (.ref b421)])) rfl rfl (hb hby d15_21) _ ?_
  refine XS.astore X452.here hx rfl (hb hby d15_22) rfl rfl (l' := #[.val .null, .val .null, vR b421, vI 3, vI 1, vR s_CLP]) rfl ?_
  refine XS.aload X452.here hx rfl (hb hby d15_24) rfl rfl ?_
  exact k
 obtain ⟨T457, X457, e457, st457⟩ := getF X452 hx hZ hown (host := "") (Or.inl (own_w hw 91 rfl)) Via.refl e452 Ff432 (g := (mkF m 26 #[.val .null, .val .null, vR b421, vI 3, vI 1, vR s_CLP] [(.ref s_CLP)])) rfl rfl (hb hby d15_26)
 have pre458 : own_P p e below T457 (mkF m 29 #[.val .null, .val .null, vR b421, vI 3, vI 1, vR s_CLP] [(.ref n_CLP)]) s₁ (entryFrame m #[.null] 6) := fun t k => pre456 t (st457 t k)
 have pre459 : own_P p e below T457 (mkF m 30 #[.val .null, .val .null, vR b421, vI 3, vI 1, vR s_CLP] [.null, (.ref n_CLP)]) s₁ (entryFrame m #[.null] 6) := by
  intro t k
  refine pre458 t ?_
  refine XS.aloadN X457.here hx rfl (hb hby d15_29) rfl rfl ?_
  exact k
 obtain ⟨cq460, kq460, q460a, q460b, q460c⟩ := isOf hZ e457 Ef433
 obtain ⟨_, _, ⟨T460, L460, k460, n460⟩, -, X460, ⟨Lc460, hQ460, l460, y460, z460⟩, st460⟩ := X457.virtualBack hx (y := (⟨"java/lang/String", "equals", "(Ljava/lang/Object;)Z"⟩ : MethodName)) (z := (⟨"java/lang/String", "equals", "(Ljava/lang/Object;)Z"⟩ : MethodName)) hown (mvT hZ (own_w hw 93 rfl)) (mvT hZ (own_w hw 58 rfl)) (notFace_of_selects (args := #[]) (mvT hZ (own_w hw 60 rfl))) (mvT hZ (own_w hw 60 rfl)) (mvT hZ (own_w hw 59 rfl)) (by decide) (backOf (W := 0) (rm13_n l Z ar0 hw [] n_CLP h421 n0 Z421) hZ (own_w hw 61 rfl) (own_w hw 1 rfl) (by decide) (by decide)) q460a q460c (g := (mkF m 30 #[.val .null, .val .null, vR b421, vI 3, vI 1, vR s_CLP] [.null, (.ref n_CLP)])) rfl (by rw [hml]; rfl) (Steps.refl _) (argsL := [.null]) (rest := []) (lenOf pd_4 rfl) rfl (by show 2 * 0 + _ ≤ _; exact Nat.le_of_eq rfl) (hb hby d15_30) (fun _ _ => ⟨rfl, e457, (by decide : 1 + 0 ≤ _), (by decide : 3 + 0 ≤ _)⟩)
 dsimp only [Pt.U, Pt.locs, Pt.cells, Pt.slots] at X460 l460 y460 z460 st460 hQ460
 subst l460 y460 z460
 obtain ⟨rfl, N460q, e460⟩ := hQ460
 have N460 := Fr.app N452 N460q
 have pre461 : own_P p e below T460 (mkF m 33 #[.val .null, .val .null, vR b421, vI 3, vI 1, vR s_CLP] [(.int 0)]) s₁ (entryFrame m #[.null] 6) := fun t k => pre459 t (st460.trans k)
 have pre462 : own_P p e below T460 (mkF m 21 #[.val .null, .val .null, vR b421, vI 3, vI 2, vR s_CLP] [(.int 2), (.ref b421)]) s₁ (entryFrame m #[.null] 6) := by
  intro t k
  refine pre461 t ?_
  refine XS.ifYes X460.here hx rfl (pc0 := 33) (pc' := 39) rfl (hb hby d15_33) rfl ((if0 _ _).trans (teq (by decide : (0 : Int32) = (0 : Int32))).1) (by decide) (by decide) ?_
  refine XS.iinc X460.here hx rfl (hb hby d15_39) rfl (l' := #[.val .null, .val .null, vR b421, vI 3, vI 2, vR s_CLP]) rfl ?_
  refine XS.goto X460.here hx rfl (pc0 := 42) (pc' := 12) rfl (hb hby d15_42) (by decide) (by decide) ?_
  refine XS.iload X460.here hx rfl (hb hby d15_12) rfl ?_
  refine XS.iloadN X460.here hx rfl (hb hby d15_14) rfl ?_
  refine XS.icmpNo X460.here hx rfl (hb hby d15_15) rfl (tlt (by decide : (2 : Int32) < (3 : Int32))).2.1 ?_
  refine XS.aloadN X460.here hx rfl (hb hby d15_18) rfl rfl ?_
  refine XS.iload X460.here hx rfl (hb hby d15_19) rfl ?_
  exact k
 obtain ⟨cl463, Ar463, q463, S463, M463, H463, G463⟩ := id Ob421_0
 have hin463 : ¬ ((2 : Int32) < 0 ∨ cl463.slots.size ≤ ((2 : Int32)).toNatClampNeg) := inb_of S463 ⟨by decide, by decide⟩
 have hat463 : cl463.slots[((2 : Int32)).toNatClampNeg]? = some (.ref s_PDLP) := H463.at hin463 rfl
 have pre464 : own_P p e below T460 (mkF m 26 #[.val .null, .val .null, vR b421, vI 3, vI 2, vR s_PDLP] [(.ref s_PDLP)]) s₁ (entryFrame m #[.null] 6) := by
  intro t k
  refine pre462 t ?_
  refine X460.aaload hx (j := (2 : Int32)) (v := (.ref s_PDLP)) (by rw [e460]; exact Ar463.1) (State.isArrayOf_alike hZ.alike Ar463.2.1) rfl Ar463.2.2 hin463 hat463 (g := (mkF m 21 #[.val .null, .val .null, vR b421, vI 3, vI 2, vR s_CLP] [(.int 2), (.ref b421)])) rfl rfl (hb hby d15_21) _ ?_
  refine XS.astore X460.here hx rfl (hb hby d15_22) rfl rfl (l' := #[.val .null, .val .null, vR b421, vI 3, vI 2, vR s_PDLP]) rfl ?_
  refine XS.aload X460.here hx rfl (hb hby d15_24) rfl rfl ?_
  exact k
 obtain ⟨T465, X465, e465, st465⟩ := getF X460 hx hZ hown (host := "") (Or.inl (own_w hw 91 rfl)) Via.refl e460 Ff438 (g := (mkF m 26 #[.val .null, .val .null, vR b421, vI 3, vI 2, vR s_PDLP] [(.ref s_PDLP)])) rfl rfl (hb hby d15_26)
 have pre466 : own_P p e below T465 (mkF m 29 #[.val .null, .val .null, vR b421, vI 3, vI 2, vR s_PDLP] [(.ref n_PDLP)]) s₁ (entryFrame m #[.null] 6) := fun t k => pre464 t (st465 t k)
 have pre467 : own_P p e below T465 (mkF m 30 #[.val .null, .val .null, vR b421, vI 3, vI 2, vR s_PDLP] [.null, (.ref n_PDLP)]) s₁ (entryFrame m #[.null] 6) := by
  intro t k
  refine pre466 t ?_
  refine XS.aloadN X465.here hx rfl (hb hby d15_29) rfl rfl ?_
  exact k
 obtain ⟨cq468, kq468, q468a, q468b, q468c⟩ := isOf hZ e465 Ef439
 obtain ⟨_, _, ⟨T468, L468, k468, n468⟩, -, X468, ⟨Lc468, hQ468, l468, y468, z468⟩, st468⟩ := X465.virtualBack hx (y := (⟨"java/lang/String", "equals", "(Ljava/lang/Object;)Z"⟩ : MethodName)) (z := (⟨"java/lang/String", "equals", "(Ljava/lang/Object;)Z"⟩ : MethodName)) hown (mvT hZ (own_w hw 93 rfl)) (mvT hZ (own_w hw 58 rfl)) (notFace_of_selects (args := #[]) (mvT hZ (own_w hw 60 rfl))) (mvT hZ (own_w hw 60 rfl)) (mvT hZ (own_w hw 59 rfl)) (by decide) (backOf (W := 0) (rm13_n l Z ar0 hw [] n_PDLP h421 n0 Z421) hZ (own_w hw 61 rfl) (own_w hw 1 rfl) (by decide) (by decide)) q468a q468c (g := (mkF m 30 #[.val .null, .val .null, vR b421, vI 3, vI 2, vR s_PDLP] [.null, (.ref n_PDLP)])) rfl (by rw [hml]; rfl) (Steps.refl _) (argsL := [.null]) (rest := []) (lenOf pd_4 rfl) rfl (by show 2 * 0 + _ ≤ _; exact Nat.le_of_eq rfl) (hb hby d15_30) (fun _ _ => ⟨rfl, e465, (by decide : 1 + 0 ≤ _), (by decide : 3 + 0 ≤ _)⟩)
 dsimp only [Pt.U, Pt.locs, Pt.cells, Pt.slots] at X468 l468 y468 z468 st468 hQ468
 subst l468 y468 z468
 obtain ⟨rfl, N468q, e468⟩ := hQ468
 have N468 := Fr.app N460 N468q
 have pre469 : own_P p e below T468 (mkF m 33 #[.val .null, .val .null, vR b421, vI 3, vI 2, vR s_PDLP] [(.int 0)]) s₁ (entryFrame m #[.null] 6) := fun t k => pre467 t (st468.trans k)
 obtain ⟨fs, hr, hrun, hended, hW, hsame⟩ := X468.leave (v := some .null) (fun h => by rw [Bd.returns] at h; cases h)
 refine ⟨_, _, pre469 _ ?_, hrun, hended, _, _, rfl, ?_, ⟨_, rfl⟩, hW, hsame.mono (by decide) (by decide)⟩
 ·
  refine XS.ifYes X468.here hx rfl (pc0 := 33) (pc' := 39) rfl (hb hby d15_33) rfl ((if0 _ _).trans (teq (by decide : (0 : Int32) = (0 : Int32))).1) (by decide) (by decide) ?_
  refine XS.iinc X468.here hx rfl (hb hby d15_39) rfl (l' := #[.val .null, .val .null, vR b421, vI 3, vI 3, vR s_PDLP]) rfl ?_
  refine XS.goto X468.here hx rfl (pc0 := 42) (pc' := 12) rfl (hb hby d15_42) (by decide) (by decide) ?_
  refine XS.iload X468.here hx rfl (hb hby d15_12) rfl ?_
  refine XS.iloadN X468.here hx rfl (hb hby d15_14) rfl ?_
  refine XS.icmpYes X468.here hx rfl (pc0 := 15) (pc' := 45) rfl (hb hby d15_15) rfl (flt (by decide : ¬ (3 : Int32) < (3 : Int32))).2.1 (by decide) (by decide) ?_
  refine XS.aloadN X468.here hx rfl (hb hby d15_45) rfl rfl ?_
  exact retOut X468 hx Bd.returns rfl (Or.inr (Or.inr (Or.inr (Or.inr ⟨rfl, rfl, rfl⟩)))) (hb hby d15_46) hr
 ·
  show Q15_n Z s__VALUES k__VALUES s_GLOP s_CLP s_PDLP n_GLOP t_GLOP k_t_GLOP n_CLP t_CLP k_t_CLP n_PDLP t_PDLP k_t_PDLP h0 n0 _ T468.heap _
  rw [e468]
  exact ⟨rfl, N468, K421⟩
theorem d15_36 : decode prog_31_method_4_code 36 = .ok (.aload 5, 2) := by decide +kernel
theorem d15_38 : decode prog_31_method_4_code 38 = .ok (.astore_n 1, 1) := by decide +kernel
theorem ef_15 (m : MethodId) (x0 : Addr) : entryFrame m #[(.ref x0)] 6 = mkF m 0 #[vR x0, .unset, .unset, .unset, .unset, .unset] [] := by first | (simp [entryFrame, mkF, argsToLocals, Value.category]; done) | rfl
def f15_y (cs : List Int32) (s_GLOP : Addr) (s_CLP : Addr) (s_PDLP : Addr) : Value := (if (own_eq [103, 108, 111, 112] cs) = (0 : Int32) then (if (own_eq [99, 108, 112] cs) = (0 : Int32) then (if (own_eq [112, 100, 108, 112] cs) = (0 : Int32) then .null else (.ref s_PDLP)) else (if (own_eq [112, 100, 108, 112] cs) = (0 : Int32) then (.ref s_CLP) else (.ref s_PDLP))) else (if (own_eq [99, 108, 112] cs) = (0 : Int32) then (if (own_eq [112, 100, 108, 112] cs) = (0 : Int32) then (.ref s_GLOP) else (.ref s_PDLP)) else (if (own_eq [112, 100, 108, 112] cs) = (0 : Int32) then (.ref s_CLP) else (.ref s_PDLP))))
def Q15_y (Z : State) (a0 : Addr) (cs : List Int32) (gc1 : Int32) (t : Addr) (k_t : ClassId) (s__VALUES : Addr) (k__VALUES : ClassId) (s_GLOP : Addr) (s_CLP : Addr) (s_PDLP : Addr) (n_GLOP : Addr) (t_GLOP : Addr) (k_t_GLOP : ClassId) (n_CLP : Addr) (t_CLP : Addr) (k_t_CLP : ClassId) (n_PDLP : Addr) (t_PDLP : Addr) (k_t_PDLP : ClassId) (h0 : Heap) (n0 : Nat) (v : Option Value) (h : Heap) (L : List Loc) : Prop := v = some (f15_y cs s_GLOP s_CLP s_PDLP) ∧ Fr n0 L ∧ Keep h0 h []
set_option maxRecDepth 65536 in
set_option maxHeartbeats 40000000 in
theorem rm15_y (l : Launch) (Z : State) (ar0 : Array Value) (hw : ∀ d ∈ tables_1, d.before ar0 Z = true) (ws : List Jvm.Cond) (a0 : Addr) (cs : List Int32) (gc1 : Int32) (t : Addr) (k_t : ClassId) (s__VALUES : Addr) (k__VALUES : ClassId) (s_GLOP : Addr) (s_CLP : Addr) (s_PDLP : Addr) (n_GLOP : Addr) (t_GLOP : Addr) (k_t_GLOP : ClassId) (n_CLP : Addr) (t_CLP : Addr) (k_t_CLP : ClassId) (n_PDLP : Addr) (t_PDLP : Addr) (k_t_PDLP : ClassId) (h0 : Heap) (n0 : Nat) (Z0 : n0 ≤ h0.size) (P5 : ¬ (gc1 = (0 : Int32))) (hp : ∀ x ∈ cs, ¬ x < 0 ∧ ¬ (255 : Int32) < x) (h4 : cs.length ≤ 4000) (S_COMPACT_STRINGS : Sta Z h0 "java/lang/String" "COMPACT_STRINGS" "Z" (.int gc1)) (E_a0 : Exa Z h0 a0 "java/lang/String") (F_value_a0 : Fld Z h0 a0 "java/lang/String" "value" "[B" (.ref t)) (F_coder_a0 : Fld Z h0 a0 "java/lang/String" "coder" "B" (.int 0)) (B_t : Arv Z h0 t k_t .byte (Int32.ofNat cs.length) (((cs : List Int32).map (fun c => c.toInt8.toInt32)).map Value.int) (.int 0)) (S__VALUES : Sta Z h0 "com/example/timely_exodus/timelyexodus/plan/LpSolver" "$VALUES" "[Lcom/example/timely_exodus/timelyexodus/plan/LpSolver;" (.ref s__VALUES)) (V_s__VALUES : Arv Z h0 s__VALUES k__VALUES (.object "com/example/timely_exodus/timelyexodus/plan/LpSolver") (3 : Int32) [(.ref s_GLOP), (.ref s_CLP), (.ref s_PDLP)] .null) (E_s__VALUES : Exa Z h0 s__VALUES "[Lcom/example/timely_exodus/timelyexodus/plan/LpSolver;") (E_s_GLOP : Exa Z h0 s_GLOP "com/example/timely_exodus/timelyexodus/plan/LpSolver") (F_name_s_GLOP : Fld Z h0 s_GLOP "com/example/timely_exodus/timelyexodus/plan/LpSolver" "name" "Ljava/lang/String;" (.ref n_GLOP)) (E_n_GLOP : Exa Z h0 n_GLOP "java/lang/String") (F_value_n_GLOP : Fld Z h0 n_GLOP "java/lang/String" "value" "[B" (.ref t_GLOP)) (F_coder_n_GLOP : Fld Z h0 n_GLOP "java/lang/String" "coder" "B" (.int 0)) (B_t_GLOP : Arv Z h0 t_GLOP k_t_GLOP .byte (4 : Int32) ((([103, 108, 111, 112] : List Int32).map (fun c => c.toInt8.toInt32)).map Value.int) (.int 0)) (E_s_CLP : Exa Z h0 s_CLP "com/example/timely_exodus/timelyexodus/plan/LpSolver") (F_name_s_CLP : Fld Z h0 s_CLP "com/example/timely_exodus/timelyexodus/plan/LpSolver" "name" "Ljava/lang/String;" (.ref n_CLP)) (E_n_CLP : Exa Z h0 n_CLP "java/lang/String") (F_value_n_CLP : Fld Z h0 n_CLP "java/lang/String" "value" "[B" (.ref t_CLP)) (F_coder_n_CLP : Fld Z h0 n_CLP "java/lang/String" "coder" "B" (.int 0)) (B_t_CLP : Arv Z h0 t_CLP k_t_CLP .byte (3 : Int32) ((([99, 108, 112] : List Int32).map (fun c => c.toInt8.toInt32)).map Value.int) (.int 0)) (E_s_PDLP : Exa Z h0 s_PDLP "com/example/timely_exodus/timelyexodus/plan/LpSolver") (F_name_s_PDLP : Fld Z h0 s_PDLP "com/example/timely_exodus/timelyexodus/plan/LpSolver" "name" "Ljava/lang/String;" (.ref n_PDLP)) (E_n_PDLP : Exa Z h0 n_PDLP "java/lang/String") (F_value_n_PDLP : Fld Z h0 n_PDLP "java/lang/String" "value" "[B" (.ref t_PDLP)) (F_coder_n_PDLP : Fld Z h0 n_PDLP "java/lang/String" "coder" "B" (.int 0)) (B_t_PDLP : Arv Z h0 t_PDLP k_t_PDLP .byte (4 : Int32) ((([112, 100, 108, 112] : List Int32).map (fun c => c.toInt8.toInt32)).map Value.int) (.int 0)) :
  MetFree l (⟨"com/example/timely_exodus/timelyexodus/plan/LpSolver", "fromName", "(Ljava/lang/String;)Lcom/example/timely_exodus/timelyexodus/plan/LpSolver;"⟩ : MethodName) (head1 (Jvm.Cond.code (⟨"com/example/timely_exodus/timelyexodus/plan/LpSolver", "fromName", "(Ljava/lang/String;)Lcom/example/timely_exodus/timelyexodus/plan/LpSolver;"⟩ : MethodName) prog_31_method_4_code 6 (some (.object "com/example/timely_exodus/timelyexodus/plan/LpSolver")) :: ws) ({ frames := 2, cells := 1, slots := 3, locals := 28 } : Room)) (fun a U => a = #[(.ref a0)] ∧ Z.Warmed39 U.vm ∧ U.heap = h0) (fun _ _ _ _ _ => True) (fun _ U o U' => ∃ v L, o = .returned v ∧ Q15_y Z a0 cs gc1 t k_t s__VALUES k__VALUES s_GLOP s_CLP s_PDLP n_GLOP t_GLOP k_t_GLOP n_CLP t_CLP k_t_CLP n_PDLP t_PDLP k_t_PDLP h0 n0 v U'.heap L ∧ FrameEnd U o U' L ({ frames := 2, cells := 1, slots := 3, locals := 28 } : Room).cells ({ frames := 2, cells := 1, slots := 3, locals := 28 } : Room).slots) := by
 refine MetFree.of_bodySF (plainFor_of_name pn_2) hisR ?_
 intro p e s m args below meth c s₁ Bd hml0 hP hK
 obtain ⟨rfl, hZ, hh⟩ := hP
 have hx := Bd.exec
 have hby := Bd.bytes
 have hml : c.maxLocals = 6 := hml0
 have hown : s.vm.findClass "com/example/timely_exodus/timelyexodus/plan/LpSolver" = some m.cls := by have q := findClass_of_methodNamed Bd.named; exact q
 have hnm := (name_of_methodNamed Bd.named Bd.method).1
 have X0 : Stand p l e ({ frames := 2, cells := 1, slots := 3, locals := 28 } : Room) s m #[(.ref a0)] below meth c s₁ [] 0 0 := Stand.of_body Bd
 have e0 : s₁.heap = h0 := by rw [← hh, Bd.state]; rfl
 have N0 := Fr.nil n0
 have pre0 : own_P p e below s₁ (mkF m 0 #[vR a0, .unset, .unset, .unset, .unset, .unset] []) s₁ (entryFrame m #[(.ref a0)] 6) := fun t k => castTop (ef_15 m a0) k
 have pre470 : own_P p e below s₁ (mkF m 2 #[vR a0, .val .null, .unset, .unset, .unset, .unset] []) s₁ (entryFrame m #[(.ref a0)] 6) := by
  intro t k
  refine pre0 t ?_
  refine XS.aconstNull X0.here hx rfl (hb hby d15_0) ?_
  refine XS.astoreN X0.here hx rfl (hb hby d15_1) rfl rfl (l' := #[vR a0, .val .null, .unset, .unset, .unset, .unset]) rfl ?_
  exact k
 obtain ⟨_, _, ⟨T471, L471, k471, n471⟩, -, X471, ⟨Lc471, hQ471, l471, y471, z471⟩, st471⟩ := Jvm.LawKit.callS X0 hx (y := (⟨"com/example/timely_exodus/timelyexodus/plan/LpSolver", "values", "()[Lcom/example/timely_exodus/timelyexodus/plan/LpSolver;"⟩ : MethodName)) hown (mvT hZ (own_w hw 73 rfl)) (mvT hZ (own_w hw 74 rfl)) (mvT hZ (own_w hw 71 rfl)) (mvT hZ (own_w hw 75 rfl)) (by decide) (backOf (W := 0) (rm16 l Z ar0 hw [] s__VALUES k__VALUES s_GLOP s_CLP s_PDLP h0 n0 Z0 S__VALUES V_s__VALUES E_s__VALUES) hZ (own_w hw 75 rfl) (own_w hw 71 rfl) (by decide) (by decide)) (g := (mkF m 2 #[vR a0, .val .null, .unset, .unset, .unset, .unset] [])) rfl (by rw [hml]; rfl) (argsL := []) (rest := []) (lenOf pd_5 rfl) rfl (by show 2 * 0 + _ ≤ _; exact Nat.le_of_eq rfl) (hb hby d15_2) (fun _ _ => ⟨rfl, e0, (by decide : 0 + 1 ≤ _), (by decide : 0 + 3 ≤ _)⟩)
 dsimp only [Pt.U, Pt.locs, Pt.cells, Pt.slots] at X471 l471 y471 z471 st471 hQ471
 subst l471 y471 z471
 obtain ⟨h471, e471⟩ : ∃ h, T471.heap = h := ⟨_, rfl⟩
 rw [e471] at hQ471
 obtain ⟨b471, kb471, rfl, N471q, K471q, y_b471, Ob471_0, Ob471_1⟩ := hQ471
 have N471 := Fr.app N0 N471q
 have ne_a0_b471 : a0 ≠ b471 := Nat.ne_of_lt (Nat.lt_of_lt_of_le (E_a0).lt y_b471)
 have ne_t_b471 : t ≠ b471 := Nat.ne_of_lt (Nat.lt_of_lt_of_le (B_t).lt y_b471)
 have ne_s__VALUES_b471 : s__VALUES ≠ b471 := Nat.ne_of_lt (Nat.lt_of_lt_of_le (V_s__VALUES).lt y_b471)
 have ne_s_GLOP_b471 : s_GLOP ≠ b471 := Nat.ne_of_lt (Nat.lt_of_lt_of_le (E_s_GLOP).lt y_b471)
 have ne_n_GLOP_b471 : n_GLOP ≠ b471 := Nat.ne_of_lt (Nat.lt_of_lt_of_le (E_n_GLOP).lt y_b471)
 have ne_t_GLOP_b471 : t_GLOP ≠ b471 := Nat.ne_of_lt (Nat.lt_of_lt_of_le (B_t_GLOP).lt y_b471)
 have ne_s_CLP_b471 : s_CLP ≠ b471 := Nat.ne_of_lt (Nat.lt_of_lt_of_le (E_s_CLP).lt y_b471)
 have ne_n_CLP_b471 : n_CLP ≠ b471 := Nat.ne_of_lt (Nat.lt_of_lt_of_le (E_n_CLP).lt y_b471)
 have ne_t_CLP_b471 : t_CLP ≠ b471 := Nat.ne_of_lt (Nat.lt_of_lt_of_le (B_t_CLP).lt y_b471)
 have ne_s_PDLP_b471 : s_PDLP ≠ b471 := Nat.ne_of_lt (Nat.lt_of_lt_of_le (E_s_PDLP).lt y_b471)
 have ne_n_PDLP_b471 : n_PDLP ≠ b471 := Nat.ne_of_lt (Nat.lt_of_lt_of_le (E_n_PDLP).lt y_b471)
 have ne_t_PDLP_b471 : t_PDLP ≠ b471 := Nat.ne_of_lt (Nat.lt_of_lt_of_le (B_t_PDLP).lt y_b471)
 have g_b471 : n0 ≤ b471 := Nat.le_trans Z0 y_b471
 have sz_b471 : h0.size ≤ b471 := Nat.le_trans (Keep.refl h0 []).1 y_b471
 have Z471 : n0 ≤ h471.size := Nat.le_trans Z0 K471q.1
 have K471 : Keep h0 h471 [] := (Keep.refl h0 []).trans K471q (fun x hx => absurd hx List.not_mem_nil)
 have Sf472 : Sta Z h471 "java/lang/String" "COMPACT_STRINGS" "Z" (.int gc1) := own_sta_keep0 S_COMPACT_STRINGS K471q
 have Ef473 : Exa Z h471 a0 "java/lang/String" := (E_a0).keep K471q
 have Ff474 : Fld Z h471 a0 "java/lang/String" "value" "[B" (.ref t) := (F_value_a0).keep K471q List.not_mem_nil
 have Ff475 : Fld Z h471 a0 "java/lang/String" "coder" "B" (.int 0) := (F_coder_a0).keep K471q List.not_mem_nil
 have Vf476 : Arv Z h471 t k_t .byte (Int32.ofNat cs.length) (((cs : List Int32).map (fun c => c.toInt8.toInt32)).map Value.int) (.int 0) := (B_t).keep K471q List.not_mem_nil
 have Sf477 : Sta Z h471 "com/example/timely_exodus/timelyexodus/plan/LpSolver" "$VALUES" "[Lcom/example/timely_exodus/timelyexodus/plan/LpSolver;" (.ref s__VALUES) := own_sta_keep0 S__VALUES K471q
 have Vf478 : Arv Z h471 s__VALUES k__VALUES (.object "com/example/timely_exodus/timelyexodus/plan/LpSolver") (3 : Int32) [(.ref s_GLOP), (.ref s_CLP), (.ref s_PDLP)] .null := (V_s__VALUES).keep K471q List.not_mem_nil
 have Ef479 : Exa Z h471 s__VALUES "[Lcom/example/timely_exodus/timelyexodus/plan/LpSolver;" := (E_s__VALUES).keep K471q
 have Ef480 : Exa Z h471 s_GLOP "com/example/timely_exodus/timelyexodus/plan/LpSolver" := (E_s_GLOP).keep K471q
 have Ff481 : Fld Z h471 s_GLOP "com/example/timely_exodus/timelyexodus/plan/LpSolver" "name" "Ljava/lang/String;" (.ref n_GLOP) := (F_name_s_GLOP).keep K471q List.not_mem_nil
 have Ef482 : Exa Z h471 n_GLOP "java/lang/String" := (E_n_GLOP).keep K471q
 have Ff483 : Fld Z h471 n_GLOP "java/lang/String" "value" "[B" (.ref t_GLOP) := (F_value_n_GLOP).keep K471q List.not_mem_nil
 have Ff484 : Fld Z h471 n_GLOP "java/lang/String" "coder" "B" (.int 0) := (F_coder_n_GLOP).keep K471q List.not_mem_nil
 have Vf485 : Arv Z h471 t_GLOP k_t_GLOP .byte (4 : Int32) ((([103, 108, 111, 112] : List Int32).map (fun c => c.toInt8.toInt32)).map Value.int) (.int 0) := (B_t_GLOP).keep K471q List.not_mem_nil
 have Ef486 : Exa Z h471 s_CLP "com/example/timely_exodus/timelyexodus/plan/LpSolver" := (E_s_CLP).keep K471q
 have Ff487 : Fld Z h471 s_CLP "com/example/timely_exodus/timelyexodus/plan/LpSolver" "name" "Ljava/lang/String;" (.ref n_CLP) := (F_name_s_CLP).keep K471q List.not_mem_nil
 have Ef488 : Exa Z h471 n_CLP "java/lang/String" := (E_n_CLP).keep K471q
 have Ff489 : Fld Z h471 n_CLP "java/lang/String" "value" "[B" (.ref t_CLP) := (F_value_n_CLP).keep K471q List.not_mem_nil
 have Ff490 : Fld Z h471 n_CLP "java/lang/String" "coder" "B" (.int 0) := (F_coder_n_CLP).keep K471q List.not_mem_nil
 have Vf491 : Arv Z h471 t_CLP k_t_CLP .byte (3 : Int32) ((([99, 108, 112] : List Int32).map (fun c => c.toInt8.toInt32)).map Value.int) (.int 0) := (B_t_CLP).keep K471q List.not_mem_nil
 have Ef492 : Exa Z h471 s_PDLP "com/example/timely_exodus/timelyexodus/plan/LpSolver" := (E_s_PDLP).keep K471q
 have Ff493 : Fld Z h471 s_PDLP "com/example/timely_exodus/timelyexodus/plan/LpSolver" "name" "Ljava/lang/String;" (.ref n_PDLP) := (F_name_s_PDLP).keep K471q List.not_mem_nil
 have Ef494 : Exa Z h471 n_PDLP "java/lang/String" := (E_n_PDLP).keep K471q
 have Ff495 : Fld Z h471 n_PDLP "java/lang/String" "value" "[B" (.ref t_PDLP) := (F_value_n_PDLP).keep K471q List.not_mem_nil
 have Ff496 : Fld Z h471 n_PDLP "java/lang/String" "coder" "B" (.int 0) := (F_coder_n_PDLP).keep K471q List.not_mem_nil
 have Vf497 : Arv Z h471 t_PDLP k_t_PDLP .byte (4 : Int32) ((([112, 100, 108, 112] : List Int32).map (fun c => c.toInt8.toInt32)).map Value.int) (.int 0) := (B_t_PDLP).keep K471q List.not_mem_nil
 have pre498 : own_P p e below T471 (mkF m 5 #[vR a0, .val .null, .unset, .unset, .unset, .unset] [(.ref b471)]) s₁ (entryFrame m #[(.ref a0)] 6) := fun t k => pre470 t (st471 t k)
 have pre499 : own_P p e below T471 (mkF m 7 #[vR a0, .val .null, vR b471, .unset, .unset, .unset] [(.ref b471)]) s₁ (entryFrame m #[(.ref a0)] 6) := by
  intro t k
  refine pre498 t ?_
  refine XS.astoreN X471.here hx rfl (hb hby d15_5) rfl rfl (l' := #[vR a0, .val .null, vR b471, .unset, .unset, .unset]) rfl ?_
  refine XS.aloadN X471.here hx rfl (hb hby d15_6) rfl rfl ?_
  exact k
 obtain ⟨cl500, Ar500, q500, S500, M500, H500, G500⟩ := id Ob471_0
 have pre501 : own_P p e below T471 (mkF m 21 #[vR a0, .val .null, vR b471, vI 3, vI 0, .unset] [(.int 0), (.ref b471)]) s₁ (entryFrame m #[(.ref a0)] 6) := by
  intro t k
  refine pre499 t ?_
  refine X471.arraylength hx (by rw [e471]; exact Ar500.1) (State.isArrayOf_alike hZ.alike Ar500.2.1) (g := (mkF m 7 #[vR a0, .val .null, vR b471, .unset, .unset, .unset] [(.ref b471)])) rfl rfl (hb hby d15_7) _ ?_
  rw [len_of S500 M500]
  refine XS.istoreN X471.here hx rfl (hb hby d15_8) rfl (l' := #[vR a0, .val .null, vR b471, vI 3, .unset, .unset]) rfl ?_
  refine XS.iconst X471.here hx rfl (hb hby d15_9) ?_
  refine XS.istore X471.here hx rfl (hb hby d15_10) rfl (l' := #[vR a0, .val .null, vR b471, vI 3, vI 0, .unset]) rfl ?_
  refine XS.iload X471.here hx rfl (hb hby d15_12) rfl ?_
  refine XS.iloadN X471.here hx rfl (hb hby d15_14) rfl ?_
  refine XS.icmpNo X471.here hx rfl (hb hby d15_15) rfl (tlt (by decide : (0 : Int32) < (3 : Int32))).2.1 ?_
  refine XS.aloadN X471.here hx rfl (hb hby d15_18) rfl rfl ?_
  refine XS.iload X471.here hx rfl (hb hby d15_19) rfl ?_
  exact k
 obtain ⟨cl502, Ar502, q502, S502, M502, H502, G502⟩ := id Ob471_0
 have hin502 : ¬ ((0 : Int32) < 0 ∨ cl502.slots.size ≤ ((0 : Int32)).toNatClampNeg) := inb_of S502 ⟨by decide, by decide⟩
 have hat502 : cl502.slots[((0 : Int32)).toNatClampNeg]? = some (.ref s_GLOP) := H502.at hin502 rfl
 have pre503 : own_P p e below T471 (mkF m 26 #[vR a0, .val .null, vR b471, vI 3, vI 0, vR s_GLOP] [(.ref s_GLOP)]) s₁ (entryFrame m #[(.ref a0)] 6) := by
  intro t k
  refine pre501 t ?_
  refine X471.aaload hx (j := (0 : Int32)) (v := (.ref s_GLOP)) (by rw [e471]; exact Ar502.1) (State.isArrayOf_alike hZ.alike Ar502.2.1) rfl Ar502.2.2 hin502 hat502 (g := (mkF m 21 #[vR a0, .val .null, vR b471, vI 3, vI 0, .unset] [(.int 0), (.ref b471)])) rfl rfl (hb hby d15_21) _ ?_
  refine XS.astore X471.here hx rfl (hb hby d15_22) rfl rfl (l' := #[vR a0, .val .null, vR b471, vI 3, vI 0, vR s_GLOP]) rfl ?_
  refine XS.aload X471.here hx rfl (hb hby d15_24) rfl rfl ?_
  exact k
 obtain ⟨T504, X504, e504, st504⟩ := getF X471 hx hZ hown (host := "") (Or.inl (own_w hw 91 rfl)) Via.refl e471 Ff481 (g := (mkF m 26 #[vR a0, .val .null, vR b471, vI 3, vI 0, vR s_GLOP] [(.ref s_GLOP)])) rfl rfl (hb hby d15_26)
 have pre505 : own_P p e below T504 (mkF m 29 #[vR a0, .val .null, vR b471, vI 3, vI 0, vR s_GLOP] [(.ref n_GLOP)]) s₁ (entryFrame m #[(.ref a0)] 6) := fun t k => pre503 t (st504 t k)
 have pre506 : own_P p e below T504 (mkF m 30 #[vR a0, .val .null, vR b471, vI 3, vI 0, vR s_GLOP] [(.ref a0), (.ref n_GLOP)]) s₁ (entryFrame m #[(.ref a0)] 6) := by
  intro t k
  refine pre505 t ?_
  refine XS.aloadN X504.here hx rfl (hb hby d15_29) rfl rfl ?_
  exact k
 obtain ⟨cq507, kq507, q507a, q507b, q507c⟩ := isOf hZ e504 Ef482
 obtain ⟨_, _, ⟨T507, L507, k507, n507⟩, -, X507, ⟨Lc507, hQ507, l507, y507, z507⟩, st507⟩ := X504.virtualBack hx (y := (⟨"java/lang/String", "equals", "(Ljava/lang/Object;)Z"⟩ : MethodName)) (z := (⟨"java/lang/String", "equals", "(Ljava/lang/Object;)Z"⟩ : MethodName)) hown (mvT hZ (own_w hw 93 rfl)) (mvT hZ (own_w hw 58 rfl)) (notFace_of_selects (args := #[]) (mvT hZ (own_w hw 60 rfl))) (mvT hZ (own_w hw 60 rfl)) (mvT hZ (own_w hw 59 rfl)) (by decide) (StrChars.Road.eqW (W := 0) hZ (own_wordsEq hw) (kI := 4) (own_w hw 2 rfl) Ef482 Ff483 Ff484 Vf485 (own_hcdG (cs := [103, 108, 111, 112]) (by decide)) (own_up [103, 108, 111, 112] (by decide)) (Nat.le_of_ble_eq_true rfl) Ef473 Ff474 Ff475 Vf476 (own_hcdG hp) (own_up _ hp) h4 Sf472 P5 (by decide) (by decide)) q507a q507c (g := (mkF m 30 #[vR a0, .val .null, vR b471, vI 3, vI 0, vR s_GLOP] [(.ref a0), (.ref n_GLOP)])) rfl (by rw [hml]; rfl) (Steps.refl _) (argsL := [(.ref a0)]) (rest := []) (lenOf pd_4 rfl) rfl (by show 2 * 0 + _ ≤ _; exact Nat.le_of_eq rfl) (hb hby d15_30) (fun _ _ => ⟨rfl, e504, (by decide : 1 + 0 ≤ _), (by decide : 3 + 0 ≤ _)⟩)
 dsimp only [Pt.U, Pt.locs, Pt.cells, Pt.slots] at X507 l507 y507 z507 st507 hQ507
 subst l507 y507 z507
 obtain ⟨q507, rfl, e507⟩ := hQ507
 obtain rfl := own_eqv q507
 try rw [List.append_nil] at X507
 have pre508 : own_P p e below T507 (mkF m 33 #[vR a0, .val .null, vR b471, vI 3, vI 0, vR s_GLOP] [(.int (own_eq [103, 108, 111, 112] cs))]) s₁ (entryFrame m #[(.ref a0)] 6) := fun t k => pre506 t (st507.trans k)
 by_cases hc33_509 : (own_eq [103, 108, 111, 112] cs) = (0 : Int32)
 ·
  have pre510 : ∀ t, Steps p.tables e below (T507.setTop (mkF m 21 #[vR a0, .val .null, vR b471, vI 3, vI 1, vR s_GLOP] [(.int 1), (.ref b471)])) t → Steps p.tables e below (s₁.setTop (entryFrame m #[(.ref a0)] 6)) t := by
   intro t k
   refine pre508 t ?_
   refine XS.ifYes X507.here hx rfl (pc0 := 33) (pc' := 39) rfl (hb hby d15_33) rfl ((if0 _ _).trans (teq hc33_509).1) (by decide) (by decide) ?_
   refine XS.iinc X507.here hx rfl (hb hby d15_39) rfl (l' := #[vR a0, .val .null, vR b471, vI 3, vI 1, vR s_GLOP]) rfl ?_
   refine XS.goto X507.here hx rfl (pc0 := 42) (pc' := 12) rfl (hb hby d15_42) (by decide) (by decide) ?_
   refine XS.iload X507.here hx rfl (hb hby d15_12) rfl ?_
   refine XS.iloadN X507.here hx rfl (hb hby d15_14) rfl ?_
   refine XS.icmpNo X507.here hx rfl (hb hby d15_15) rfl (tlt (by decide : (1 : Int32) < (3 : Int32))).2.1 ?_
   refine XS.aloadN X507.here hx rfl (hb hby d15_18) rfl rfl ?_
   refine XS.iload X507.here hx rfl (hb hby d15_19) rfl ?_
   exact k
  obtain ⟨cl511, Ar511, q511, S511, M511, H511, G511⟩ := id Ob471_0
  have hin511 : ¬ ((1 : Int32) < 0 ∨ cl511.slots.size ≤ ((1 : Int32)).toNatClampNeg) := inb_of S511 ⟨by decide, by decide⟩
  have hat511 : cl511.slots[((1 : Int32)).toNatClampNeg]? = some (.ref s_CLP) := H511.at hin511 rfl
  have pre512 : own_P p e below T507 (mkF m 26 #[vR a0, .val .null, vR b471, vI 3, vI 1, vR s_CLP] [(.ref s_CLP)]) s₁ (entryFrame m #[(.ref a0)] 6) := by
   intro t k
   refine pre510 t ?_
   refine X507.aaload hx (j := (1 : Int32)) (v := (.ref s_CLP)) (by rw [e507]; exact Ar511.1) (State.isArrayOf_alike hZ.alike Ar511.2.1) rfl Ar511.2.2 hin511 hat511 (g := (mkF m 21 #[vR a0, .val .null, vR b471, vI 3, vI 1, vR s_GLOP] [(.int 1), (.ref b471)])) rfl rfl (hb hby d15_21) _ ?_
   refine XS.astore X507.here hx rfl (hb hby d15_22) rfl rfl (l' := #[vR a0, .val .null, vR b471, vI 3, vI 1, vR s_CLP]) rfl ?_
   refine XS.aload X507.here hx rfl (hb hby d15_24) rfl rfl ?_
   exact k
  obtain ⟨T513, X513, e513, st513⟩ := getF X507 hx hZ hown (host := "") (Or.inl (own_w hw 91 rfl)) Via.refl e507 Ff487 (g := (mkF m 26 #[vR a0, .val .null, vR b471, vI 3, vI 1, vR s_CLP] [(.ref s_CLP)])) rfl rfl (hb hby d15_26)
  have pre514 : own_P p e below T513 (mkF m 29 #[vR a0, .val .null, vR b471, vI 3, vI 1, vR s_CLP] [(.ref n_CLP)]) s₁ (entryFrame m #[(.ref a0)] 6) := fun t k => pre512 t (st513 t k)
  have pre515 : own_P p e below T513 (mkF m 30 #[vR a0, .val .null, vR b471, vI 3, vI 1, vR s_CLP] [(.ref a0), (.ref n_CLP)]) s₁ (entryFrame m #[(.ref a0)] 6) := by
   intro t k
   refine pre514 t ?_
   refine XS.aloadN X513.here hx rfl (hb hby d15_29) rfl rfl ?_
   exact k
  obtain ⟨cq516, kq516, q516a, q516b, q516c⟩ := isOf hZ e513 Ef488
  obtain ⟨_, _, ⟨T516, L516, k516, n516⟩, -, X516, ⟨Lc516, hQ516, l516, y516, z516⟩, st516⟩ := X513.virtualBack hx (y := (⟨"java/lang/String", "equals", "(Ljava/lang/Object;)Z"⟩ : MethodName)) (z := (⟨"java/lang/String", "equals", "(Ljava/lang/Object;)Z"⟩ : MethodName)) hown (mvT hZ (own_w hw 93 rfl)) (mvT hZ (own_w hw 58 rfl)) (notFace_of_selects (args := #[]) (mvT hZ (own_w hw 60 rfl))) (mvT hZ (own_w hw 60 rfl)) (mvT hZ (own_w hw 59 rfl)) (by decide) (StrChars.Road.eqW (W := 0) hZ (own_wordsEq hw) (kI := 4) (own_w hw 2 rfl) Ef488 Ff489 Ff490 Vf491 (own_hcdG (cs := [99, 108, 112]) (by decide)) (own_up [99, 108, 112] (by decide)) (Nat.le_of_ble_eq_true rfl) Ef473 Ff474 Ff475 Vf476 (own_hcdG hp) (own_up _ hp) h4 Sf472 P5 (by decide) (by decide)) q516a q516c (g := (mkF m 30 #[vR a0, .val .null, vR b471, vI 3, vI 1, vR s_CLP] [(.ref a0), (.ref n_CLP)])) rfl (by rw [hml]; rfl) (Steps.refl _) (argsL := [(.ref a0)]) (rest := []) (lenOf pd_4 rfl) rfl (by show 2 * 0 + _ ≤ _; exact Nat.le_of_eq rfl) (hb hby d15_30) (fun _ _ => ⟨rfl, e513, (by decide : 1 + 0 ≤ _), (by decide : 3 + 0 ≤ _)⟩)
  dsimp only [Pt.U, Pt.locs, Pt.cells, Pt.slots] at X516 l516 y516 z516 st516 hQ516
  subst l516 y516 z516
  obtain ⟨q516, rfl, e516⟩ := hQ516
  obtain rfl := own_eqv q516
  try rw [List.append_nil] at X516
  have pre517 : own_P p e below T516 (mkF m 33 #[vR a0, .val .null, vR b471, vI 3, vI 1, vR s_CLP] [(.int (own_eq [99, 108, 112] cs))]) s₁ (entryFrame m #[(.ref a0)] 6) := fun t k => pre515 t (st516.trans k)
  by_cases hc33_518 : (own_eq [99, 108, 112] cs) = (0 : Int32)
  ·
   have pre519 : ∀ t, Steps p.tables e below (T516.setTop (mkF m 21 #[vR a0, .val .null, vR b471, vI 3, vI 2, vR s_CLP] [(.int 2), (.ref b471)])) t → Steps p.tables e below (s₁.setTop (entryFrame m #[(.ref a0)] 6)) t := by
    intro t k
    refine pre517 t ?_
    refine XS.ifYes X516.here hx rfl (pc0 := 33) (pc' := 39) rfl (hb hby d15_33) rfl ((if0 _ _).trans (teq hc33_518).1) (by decide) (by decide) ?_
    refine XS.iinc X516.here hx rfl (hb hby d15_39) rfl (l' := #[vR a0, .val .null, vR b471, vI 3, vI 2, vR s_CLP]) rfl ?_
    refine XS.goto X516.here hx rfl (pc0 := 42) (pc' := 12) rfl (hb hby d15_42) (by decide) (by decide) ?_
    refine XS.iload X516.here hx rfl (hb hby d15_12) rfl ?_
    refine XS.iloadN X516.here hx rfl (hb hby d15_14) rfl ?_
    refine XS.icmpNo X516.here hx rfl (hb hby d15_15) rfl (tlt (by decide : (2 : Int32) < (3 : Int32))).2.1 ?_
    refine XS.aloadN X516.here hx rfl (hb hby d15_18) rfl rfl ?_
    refine XS.iload X516.here hx rfl (hb hby d15_19) rfl ?_
    exact k
   obtain ⟨cl520, Ar520, q520, S520, M520, H520, G520⟩ := id Ob471_0
   have hin520 : ¬ ((2 : Int32) < 0 ∨ cl520.slots.size ≤ ((2 : Int32)).toNatClampNeg) := inb_of S520 ⟨by decide, by decide⟩
   have hat520 : cl520.slots[((2 : Int32)).toNatClampNeg]? = some (.ref s_PDLP) := H520.at hin520 rfl
   have pre521 : own_P p e below T516 (mkF m 26 #[vR a0, .val .null, vR b471, vI 3, vI 2, vR s_PDLP] [(.ref s_PDLP)]) s₁ (entryFrame m #[(.ref a0)] 6) := by
    intro t k
    refine pre519 t ?_
    refine X516.aaload hx (j := (2 : Int32)) (v := (.ref s_PDLP)) (by rw [e516]; exact Ar520.1) (State.isArrayOf_alike hZ.alike Ar520.2.1) rfl Ar520.2.2 hin520 hat520 (g := (mkF m 21 #[vR a0, .val .null, vR b471, vI 3, vI 2, vR s_CLP] [(.int 2), (.ref b471)])) rfl rfl (hb hby d15_21) _ ?_
    refine XS.astore X516.here hx rfl (hb hby d15_22) rfl rfl (l' := #[vR a0, .val .null, vR b471, vI 3, vI 2, vR s_PDLP]) rfl ?_
    refine XS.aload X516.here hx rfl (hb hby d15_24) rfl rfl ?_
    exact k
   obtain ⟨T522, X522, e522, st522⟩ := getF X516 hx hZ hown (host := "") (Or.inl (own_w hw 91 rfl)) Via.refl e516 Ff493 (g := (mkF m 26 #[vR a0, .val .null, vR b471, vI 3, vI 2, vR s_PDLP] [(.ref s_PDLP)])) rfl rfl (hb hby d15_26)
   have pre523 : own_P p e below T522 (mkF m 29 #[vR a0, .val .null, vR b471, vI 3, vI 2, vR s_PDLP] [(.ref n_PDLP)]) s₁ (entryFrame m #[(.ref a0)] 6) := fun t k => pre521 t (st522 t k)
   have pre524 : own_P p e below T522 (mkF m 30 #[vR a0, .val .null, vR b471, vI 3, vI 2, vR s_PDLP] [(.ref a0), (.ref n_PDLP)]) s₁ (entryFrame m #[(.ref a0)] 6) := by
    intro t k
    refine pre523 t ?_
    refine XS.aloadN X522.here hx rfl (hb hby d15_29) rfl rfl ?_
    exact k
   obtain ⟨cq525, kq525, q525a, q525b, q525c⟩ := isOf hZ e522 Ef494
   obtain ⟨_, _, ⟨T525, L525, k525, n525⟩, -, X525, ⟨Lc525, hQ525, l525, y525, z525⟩, st525⟩ := X522.virtualBack hx (y := (⟨"java/lang/String", "equals", "(Ljava/lang/Object;)Z"⟩ : MethodName)) (z := (⟨"java/lang/String", "equals", "(Ljava/lang/Object;)Z"⟩ : MethodName)) hown (mvT hZ (own_w hw 93 rfl)) (mvT hZ (own_w hw 58 rfl)) (notFace_of_selects (args := #[]) (mvT hZ (own_w hw 60 rfl))) (mvT hZ (own_w hw 60 rfl)) (mvT hZ (own_w hw 59 rfl)) (by decide) (StrChars.Road.eqW (W := 0) hZ (own_wordsEq hw) (kI := 4) (own_w hw 2 rfl) Ef494 Ff495 Ff496 Vf497 (own_hcdG (cs := [112, 100, 108, 112]) (by decide)) (own_up [112, 100, 108, 112] (by decide)) (Nat.le_of_ble_eq_true rfl) Ef473 Ff474 Ff475 Vf476 (own_hcdG hp) (own_up _ hp) h4 Sf472 P5 (by decide) (by decide)) q525a q525c (g := (mkF m 30 #[vR a0, .val .null, vR b471, vI 3, vI 2, vR s_PDLP] [(.ref a0), (.ref n_PDLP)])) rfl (by rw [hml]; rfl) (Steps.refl _) (argsL := [(.ref a0)]) (rest := []) (lenOf pd_4 rfl) rfl (by show 2 * 0 + _ ≤ _; exact Nat.le_of_eq rfl) (hb hby d15_30) (fun _ _ => ⟨rfl, e522, (by decide : 1 + 0 ≤ _), (by decide : 3 + 0 ≤ _)⟩)
   dsimp only [Pt.U, Pt.locs, Pt.cells, Pt.slots] at X525 l525 y525 z525 st525 hQ525
   subst l525 y525 z525
   obtain ⟨q525, rfl, e525⟩ := hQ525
   obtain rfl := own_eqv q525
   try rw [List.append_nil] at X525
   have pre526 : own_P p e below T525 (mkF m 33 #[vR a0, .val .null, vR b471, vI 3, vI 2, vR s_PDLP] [(.int (own_eq [112, 100, 108, 112] cs))]) s₁ (entryFrame m #[(.ref a0)] 6) := fun t k => pre524 t (st525.trans k)
   by_cases hc33_527 : (own_eq [112, 100, 108, 112] cs) = (0 : Int32)
   ·
    obtain ⟨fs, hr, hrun, hended, hW, hsame⟩ := X525.leave (v := some .null) (fun h => by rw [Bd.returns] at h; cases h)
    refine ⟨_, _, pre526 _ ?_, hrun, hended, _, _, rfl, ?_, ⟨_, rfl⟩, hW, hsame.mono (by decide) (by decide)⟩
    ·
     refine XS.ifYes X525.here hx rfl (pc0 := 33) (pc' := 39) rfl (hb hby d15_33) rfl ((if0 _ _).trans (teq hc33_527).1) (by decide) (by decide) ?_
     refine XS.iinc X525.here hx rfl (hb hby d15_39) rfl (l' := #[vR a0, .val .null, vR b471, vI 3, vI 3, vR s_PDLP]) rfl ?_
     refine XS.goto X525.here hx rfl (pc0 := 42) (pc' := 12) rfl (hb hby d15_42) (by decide) (by decide) ?_
     refine XS.iload X525.here hx rfl (hb hby d15_12) rfl ?_
     refine XS.iloadN X525.here hx rfl (hb hby d15_14) rfl ?_
     refine XS.icmpYes X525.here hx rfl (pc0 := 15) (pc' := 45) rfl (hb hby d15_15) rfl (flt (by decide : ¬ (3 : Int32) < (3 : Int32))).2.1 (by decide) (by decide) ?_
     refine XS.aloadN X525.here hx rfl (hb hby d15_45) rfl rfl ?_
     exact retOut X525 hx Bd.returns rfl (Or.inr (Or.inr (Or.inr (Or.inr ⟨rfl, rfl, rfl⟩)))) (hb hby d15_46) hr
    ·
     show Q15_y Z a0 cs gc1 t k_t s__VALUES k__VALUES s_GLOP s_CLP s_PDLP n_GLOP t_GLOP k_t_GLOP n_CLP t_CLP k_t_CLP n_PDLP t_PDLP k_t_PDLP h0 n0 _ T525.heap _
     rw [e525]
     exact ⟨by unfold f15_y; rw [if_pos hc33_509, if_pos hc33_518, if_pos hc33_527], N471, K471⟩
   ·
    obtain ⟨fs, hr, hrun, hended, hW, hsame⟩ := X525.leave (v := some (.ref s_PDLP)) (fun h => by rw [Bd.returns] at h; cases h)
    refine ⟨_, _, pre526 _ ?_, hrun, hended, _, _, rfl, ?_, ⟨_, rfl⟩, hW, hsame.mono (by decide) (by decide)⟩
    ·
     refine XS.ifNo X525.here hx rfl (hb hby d15_33) rfl ((if0 _ _).trans (feq hc33_527).1) ?_
     refine XS.aload X525.here hx rfl (hb hby d15_36) rfl rfl ?_
     refine XS.astoreN X525.here hx rfl (hb hby d15_38) rfl rfl (l' := #[vR a0, vR s_PDLP, vR b471, vI 3, vI 2, vR s_PDLP]) rfl ?_
     refine XS.iinc X525.here hx rfl (hb hby d15_39) rfl (l' := #[vR a0, vR s_PDLP, vR b471, vI 3, vI 3, vR s_PDLP]) rfl ?_
     refine XS.goto X525.here hx rfl (pc0 := 42) (pc' := 12) rfl (hb hby d15_42) (by decide) (by decide) ?_
     refine XS.iload X525.here hx rfl (hb hby d15_12) rfl ?_
     refine XS.iloadN X525.here hx rfl (hb hby d15_14) rfl ?_
     refine XS.icmpYes X525.here hx rfl (pc0 := 15) (pc' := 45) rfl (hb hby d15_15) rfl (flt (by decide : ¬ (3 : Int32) < (3 : Int32))).2.1 (by decide) (by decide) ?_
     refine XS.aloadN X525.here hx rfl (hb hby d15_45) rfl rfl ?_
     exact retOut X525 hx Bd.returns rfl (Or.inr (Or.inr (Or.inr (Or.inr ⟨rfl, rfl, rfl⟩)))) (hb hby d15_46) hr
    ·
     show Q15_y Z a0 cs gc1 t k_t s__VALUES k__VALUES s_GLOP s_CLP s_PDLP n_GLOP t_GLOP k_t_GLOP n_CLP t_CLP k_t_CLP n_PDLP t_PDLP k_t_PDLP h0 n0 _ T525.heap _
     rw [e525]
     exact ⟨by unfold f15_y; rw [if_pos hc33_509, if_pos hc33_518, if_neg hc33_527], N471, K471⟩
  ·
   have pre528 : ∀ t, Steps p.tables e below (T516.setTop (mkF m 21 #[vR a0, vR s_CLP, vR b471, vI 3, vI 2, vR s_CLP] [(.int 2), (.ref b471)])) t → Steps p.tables e below (s₁.setTop (entryFrame m #[(.ref a0)] 6)) t := by
    intro t k
    refine pre517 t ?_
    refine XS.ifNo X516.here hx rfl (hb hby d15_33) rfl ((if0 _ _).trans (feq hc33_518).1) ?_
    refine XS.aload X516.here hx rfl (hb hby d15_36) rfl rfl ?_
    refine XS.astoreN X516.here hx rfl (hb hby d15_38) rfl rfl (l' := #[vR a0, vR s_CLP, vR b471, vI 3, vI 1, vR s_CLP]) rfl ?_
    refine XS.iinc X516.here hx rfl (hb hby d15_39) rfl (l' := #[vR a0, vR s_CLP, vR b471, vI 3, vI 2, vR s_CLP]) rfl ?_
    refine XS.goto X516.here hx rfl (pc0 := 42) (pc' := 12) rfl (hb hby d15_42) (by decide) (by decide) ?_
    refine XS.iload X516.here hx rfl (hb hby d15_12) rfl ?_
    refine XS.iloadN X516.here hx rfl (hb hby d15_14) rfl ?_
    refine XS.icmpNo X516.here hx rfl (hb hby d15_15) rfl (tlt (by decide : (2 : Int32) < (3 : Int32))).2.1 ?_
    refine XS.aloadN X516.here hx rfl (hb hby d15_18) rfl rfl ?_
    refine XS.iload X516.here hx rfl (hb hby d15_19) rfl ?_
    exact k
   obtain ⟨cl529, Ar529, q529, S529, M529, H529, G529⟩ := id Ob471_0
   have hin529 : ¬ ((2 : Int32) < 0 ∨ cl529.slots.size ≤ ((2 : Int32)).toNatClampNeg) := inb_of S529 ⟨by decide, by decide⟩
   have hat529 : cl529.slots[((2 : Int32)).toNatClampNeg]? = some (.ref s_PDLP) := H529.at hin529 rfl
   have pre530 : own_P p e below T516 (mkF m 26 #[vR a0, vR s_CLP, vR b471, vI 3, vI 2, vR s_PDLP] [(.ref s_PDLP)]) s₁ (entryFrame m #[(.ref a0)] 6) := by
    intro t k
    refine pre528 t ?_
    refine X516.aaload hx (j := (2 : Int32)) (v := (.ref s_PDLP)) (by rw [e516]; exact Ar529.1) (State.isArrayOf_alike hZ.alike Ar529.2.1) rfl Ar529.2.2 hin529 hat529 (g := (mkF m 21 #[vR a0, vR s_CLP, vR b471, vI 3, vI 2, vR s_CLP] [(.int 2), (.ref b471)])) rfl rfl (hb hby d15_21) _ ?_
    refine XS.astore X516.here hx rfl (hb hby d15_22) rfl rfl (l' := #[vR a0, vR s_CLP, vR b471, vI 3, vI 2, vR s_PDLP]) rfl ?_
    refine XS.aload X516.here hx rfl (hb hby d15_24) rfl rfl ?_
    exact k
   obtain ⟨T531, X531, e531, st531⟩ := getF X516 hx hZ hown (host := "") (Or.inl (own_w hw 91 rfl)) Via.refl e516 Ff493 (g := (mkF m 26 #[vR a0, vR s_CLP, vR b471, vI 3, vI 2, vR s_PDLP] [(.ref s_PDLP)])) rfl rfl (hb hby d15_26)
   have pre532 : own_P p e below T531 (mkF m 29 #[vR a0, vR s_CLP, vR b471, vI 3, vI 2, vR s_PDLP] [(.ref n_PDLP)]) s₁ (entryFrame m #[(.ref a0)] 6) := fun t k => pre530 t (st531 t k)
   have pre533 : own_P p e below T531 (mkF m 30 #[vR a0, vR s_CLP, vR b471, vI 3, vI 2, vR s_PDLP] [(.ref a0), (.ref n_PDLP)]) s₁ (entryFrame m #[(.ref a0)] 6) := by
    intro t k
    refine pre532 t ?_
    refine XS.aloadN X531.here hx rfl (hb hby d15_29) rfl rfl ?_
    exact k
   obtain ⟨cq534, kq534, q534a, q534b, q534c⟩ := isOf hZ e531 Ef494
   obtain ⟨_, _, ⟨T534, L534, k534, n534⟩, -, X534, ⟨Lc534, hQ534, l534, y534, z534⟩, st534⟩ := X531.virtualBack hx (y := (⟨"java/lang/String", "equals", "(Ljava/lang/Object;)Z"⟩ : MethodName)) (z := (⟨"java/lang/String", "equals", "(Ljava/lang/Object;)Z"⟩ : MethodName)) hown (mvT hZ (own_w hw 93 rfl)) (mvT hZ (own_w hw 58 rfl)) (notFace_of_selects (args := #[]) (mvT hZ (own_w hw 60 rfl))) (mvT hZ (own_w hw 60 rfl)) (mvT hZ (own_w hw 59 rfl)) (by decide) (StrChars.Road.eqW (W := 0) hZ (own_wordsEq hw) (kI := 4) (own_w hw 2 rfl) Ef494 Ff495 Ff496 Vf497 (own_hcdG (cs := [112, 100, 108, 112]) (by decide)) (own_up [112, 100, 108, 112] (by decide)) (Nat.le_of_ble_eq_true rfl) Ef473 Ff474 Ff475 Vf476 (own_hcdG hp) (own_up _ hp) h4 Sf472 P5 (by decide) (by decide)) q534a q534c (g := (mkF m 30 #[vR a0, vR s_CLP, vR b471, vI 3, vI 2, vR s_PDLP] [(.ref a0), (.ref n_PDLP)])) rfl (by rw [hml]; rfl) (Steps.refl _) (argsL := [(.ref a0)]) (rest := []) (lenOf pd_4 rfl) rfl (by show 2 * 0 + _ ≤ _; exact Nat.le_of_eq rfl) (hb hby d15_30) (fun _ _ => ⟨rfl, e531, (by decide : 1 + 0 ≤ _), (by decide : 3 + 0 ≤ _)⟩)
   dsimp only [Pt.U, Pt.locs, Pt.cells, Pt.slots] at X534 l534 y534 z534 st534 hQ534
   subst l534 y534 z534
   obtain ⟨q534, rfl, e534⟩ := hQ534
   obtain rfl := own_eqv q534
   try rw [List.append_nil] at X534
   have pre535 : own_P p e below T534 (mkF m 33 #[vR a0, vR s_CLP, vR b471, vI 3, vI 2, vR s_PDLP] [(.int (own_eq [112, 100, 108, 112] cs))]) s₁ (entryFrame m #[(.ref a0)] 6) := fun t k => pre533 t (st534.trans k)
   by_cases hc33_536 : (own_eq [112, 100, 108, 112] cs) = (0 : Int32)
   ·
    obtain ⟨fs, hr, hrun, hended, hW, hsame⟩ := X534.leave (v := some (.ref s_CLP)) (fun h => by rw [Bd.returns] at h; cases h)
    refine ⟨_, _, pre535 _ ?_, hrun, hended, _, _, rfl, ?_, ⟨_, rfl⟩, hW, hsame.mono (by decide) (by decide)⟩
    ·
     refine XS.ifYes X534.here hx rfl (pc0 := 33) (pc' := 39) rfl (hb hby d15_33) rfl ((if0 _ _).trans (teq hc33_536).1) (by decide) (by decide) ?_
     refine XS.iinc X534.here hx rfl (hb hby d15_39) rfl (l' := #[vR a0, vR s_CLP, vR b471, vI 3, vI 3, vR s_PDLP]) rfl ?_
     refine XS.goto X534.here hx rfl (pc0 := 42) (pc' := 12) rfl (hb hby d15_42) (by decide) (by decide) ?_
     refine XS.iload X534.here hx rfl (hb hby d15_12) rfl ?_
     refine XS.iloadN X534.here hx rfl (hb hby d15_14) rfl ?_
     refine XS.icmpYes X534.here hx rfl (pc0 := 15) (pc' := 45) rfl (hb hby d15_15) rfl (flt (by decide : ¬ (3 : Int32) < (3 : Int32))).2.1 (by decide) (by decide) ?_
     refine XS.aloadN X534.here hx rfl (hb hby d15_45) rfl rfl ?_
     exact retOut X534 hx Bd.returns rfl (Or.inr (Or.inr (Or.inr (Or.inr ⟨rfl, rfl, rfl⟩)))) (hb hby d15_46) hr
    ·
     show Q15_y Z a0 cs gc1 t k_t s__VALUES k__VALUES s_GLOP s_CLP s_PDLP n_GLOP t_GLOP k_t_GLOP n_CLP t_CLP k_t_CLP n_PDLP t_PDLP k_t_PDLP h0 n0 _ T534.heap _
     rw [e534]
     exact ⟨by unfold f15_y; rw [if_pos hc33_509, if_neg hc33_518, if_pos hc33_536], N471, K471⟩
   ·
    obtain ⟨fs, hr, hrun, hended, hW, hsame⟩ := X534.leave (v := some (.ref s_PDLP)) (fun h => by rw [Bd.returns] at h; cases h)
    refine ⟨_, _, pre535 _ ?_, hrun, hended, _, _, rfl, ?_, ⟨_, rfl⟩, hW, hsame.mono (by decide) (by decide)⟩
    ·
     refine XS.ifNo X534.here hx rfl (hb hby d15_33) rfl ((if0 _ _).trans (feq hc33_536).1) ?_
     refine XS.aload X534.here hx rfl (hb hby d15_36) rfl rfl ?_
     refine XS.astoreN X534.here hx rfl (hb hby d15_38) rfl rfl (l' := #[vR a0, vR s_PDLP, vR b471, vI 3, vI 2, vR s_PDLP]) rfl ?_
     refine XS.iinc X534.here hx rfl (hb hby d15_39) rfl (l' := #[vR a0, vR s_PDLP, vR b471, vI 3, vI 3, vR s_PDLP]) rfl ?_
     refine XS.goto X534.here hx rfl (pc0 := 42) (pc' := 12) rfl (hb hby d15_42) (by decide) (by decide) ?_
     refine XS.iload X534.here hx rfl (hb hby d15_12) rfl ?_
     refine XS.iloadN X534.here hx rfl (hb hby d15_14) rfl ?_
     refine XS.icmpYes X534.here hx rfl (pc0 := 15) (pc' := 45) rfl (hb hby d15_15) rfl (flt (by decide : ¬ (3 : Int32) < (3 : Int32))).2.1 (by decide) (by decide) ?_
     refine XS.aloadN X534.here hx rfl (hb hby d15_45) rfl rfl ?_
     exact retOut X534 hx Bd.returns rfl (Or.inr (Or.inr (Or.inr (Or.inr ⟨rfl, rfl, rfl⟩)))) (hb hby d15_46) hr
    ·
     show Q15_y Z a0 cs gc1 t k_t s__VALUES k__VALUES s_GLOP s_CLP s_PDLP n_GLOP t_GLOP k_t_GLOP n_CLP t_CLP k_t_CLP n_PDLP t_PDLP k_t_PDLP h0 n0 _ T534.heap _
     rw [e534]
     exact ⟨by unfold f15_y; rw [if_pos hc33_509, if_neg hc33_518, if_neg hc33_536], N471, K471⟩
 ·
  have pre537 : ∀ t, Steps p.tables e below (T507.setTop (mkF m 21 #[vR a0, vR s_GLOP, vR b471, vI 3, vI 1, vR s_GLOP] [(.int 1), (.ref b471)])) t → Steps p.tables e below (s₁.setTop (entryFrame m #[(.ref a0)] 6)) t := by
   intro t k
   refine pre508 t ?_
   refine XS.ifNo X507.here hx rfl (hb hby d15_33) rfl ((if0 _ _).trans (feq hc33_509).1) ?_
   refine XS.aload X507.here hx rfl (hb hby d15_36) rfl rfl ?_
   refine XS.astoreN X507.here hx rfl (hb hby d15_38) rfl rfl (l' := #[vR a0, vR s_GLOP, vR b471, vI 3, vI 0, vR s_GLOP]) rfl ?_
   refine XS.iinc X507.here hx rfl (hb hby d15_39) rfl (l' := #[vR a0, vR s_GLOP, vR b471, vI 3, vI 1, vR s_GLOP]) rfl ?_
   refine XS.goto X507.here hx rfl (pc0 := 42) (pc' := 12) rfl (hb hby d15_42) (by decide) (by decide) ?_
   refine XS.iload X507.here hx rfl (hb hby d15_12) rfl ?_
   refine XS.iloadN X507.here hx rfl (hb hby d15_14) rfl ?_
   refine XS.icmpNo X507.here hx rfl (hb hby d15_15) rfl (tlt (by decide : (1 : Int32) < (3 : Int32))).2.1 ?_
   refine XS.aloadN X507.here hx rfl (hb hby d15_18) rfl rfl ?_
   refine XS.iload X507.here hx rfl (hb hby d15_19) rfl ?_
   exact k
  obtain ⟨cl538, Ar538, q538, S538, M538, H538, G538⟩ := id Ob471_0
  have hin538 : ¬ ((1 : Int32) < 0 ∨ cl538.slots.size ≤ ((1 : Int32)).toNatClampNeg) := inb_of S538 ⟨by decide, by decide⟩
  have hat538 : cl538.slots[((1 : Int32)).toNatClampNeg]? = some (.ref s_CLP) := H538.at hin538 rfl
  have pre539 : own_P p e below T507 (mkF m 26 #[vR a0, vR s_GLOP, vR b471, vI 3, vI 1, vR s_CLP] [(.ref s_CLP)]) s₁ (entryFrame m #[(.ref a0)] 6) := by
   intro t k
   refine pre537 t ?_
   refine X507.aaload hx (j := (1 : Int32)) (v := (.ref s_CLP)) (by rw [e507]; exact Ar538.1) (State.isArrayOf_alike hZ.alike Ar538.2.1) rfl Ar538.2.2 hin538 hat538 (g := (mkF m 21 #[vR a0, vR s_GLOP, vR b471, vI 3, vI 1, vR s_GLOP] [(.int 1), (.ref b471)])) rfl rfl (hb hby d15_21) _ ?_
   refine XS.astore X507.here hx rfl (hb hby d15_22) rfl rfl (l' := #[vR a0, vR s_GLOP, vR b471, vI 3, vI 1, vR s_CLP]) rfl ?_
   refine XS.aload X507.here hx rfl (hb hby d15_24) rfl rfl ?_
   exact k
  obtain ⟨T540, X540, e540, st540⟩ := getF X507 hx hZ hown (host := "") (Or.inl (own_w hw 91 rfl)) Via.refl e507 Ff487 (g := (mkF m 26 #[vR a0, vR s_GLOP, vR b471, vI 3, vI 1, vR s_CLP] [(.ref s_CLP)])) rfl rfl (hb hby d15_26)
  have pre541 : own_P p e below T540 (mkF m 29 #[vR a0, vR s_GLOP, vR b471, vI 3, vI 1, vR s_CLP] [(.ref n_CLP)]) s₁ (entryFrame m #[(.ref a0)] 6) := fun t k => pre539 t (st540 t k)
  have pre542 : own_P p e below T540 (mkF m 30 #[vR a0, vR s_GLOP, vR b471, vI 3, vI 1, vR s_CLP] [(.ref a0), (.ref n_CLP)]) s₁ (entryFrame m #[(.ref a0)] 6) := by
   intro t k
   refine pre541 t ?_
   refine XS.aloadN X540.here hx rfl (hb hby d15_29) rfl rfl ?_
   exact k
  obtain ⟨cq543, kq543, q543a, q543b, q543c⟩ := isOf hZ e540 Ef488
  obtain ⟨_, _, ⟨T543, L543, k543, n543⟩, -, X543, ⟨Lc543, hQ543, l543, y543, z543⟩, st543⟩ := X540.virtualBack hx (y := (⟨"java/lang/String", "equals", "(Ljava/lang/Object;)Z"⟩ : MethodName)) (z := (⟨"java/lang/String", "equals", "(Ljava/lang/Object;)Z"⟩ : MethodName)) hown (mvT hZ (own_w hw 93 rfl)) (mvT hZ (own_w hw 58 rfl)) (notFace_of_selects (args := #[]) (mvT hZ (own_w hw 60 rfl))) (mvT hZ (own_w hw 60 rfl)) (mvT hZ (own_w hw 59 rfl)) (by decide) (StrChars.Road.eqW (W := 0) hZ (own_wordsEq hw) (kI := 4) (own_w hw 2 rfl) Ef488 Ff489 Ff490 Vf491 (own_hcdG (cs := [99, 108, 112]) (by decide)) (own_up [99, 108, 112] (by decide)) (Nat.le_of_ble_eq_true rfl) Ef473 Ff474 Ff475 Vf476 (own_hcdG hp) (own_up _ hp) h4 Sf472 P5 (by decide) (by decide)) q543a q543c (g := (mkF m 30 #[vR a0, vR s_GLOP, vR b471, vI 3, vI 1, vR s_CLP] [(.ref a0), (.ref n_CLP)])) rfl (by rw [hml]; rfl) (Steps.refl _) (argsL := [(.ref a0)]) (rest := []) (lenOf pd_4 rfl) rfl (by show 2 * 0 + _ ≤ _; exact Nat.le_of_eq rfl) (hb hby d15_30) (fun _ _ => ⟨rfl, e540, (by decide : 1 + 0 ≤ _), (by decide : 3 + 0 ≤ _)⟩)
  dsimp only [Pt.U, Pt.locs, Pt.cells, Pt.slots] at X543 l543 y543 z543 st543 hQ543
  subst l543 y543 z543
  obtain ⟨q543, rfl, e543⟩ := hQ543
  obtain rfl := own_eqv q543
  try rw [List.append_nil] at X543
  have pre544 : own_P p e below T543 (mkF m 33 #[vR a0, vR s_GLOP, vR b471, vI 3, vI 1, vR s_CLP] [(.int (own_eq [99, 108, 112] cs))]) s₁ (entryFrame m #[(.ref a0)] 6) := fun t k => pre542 t (st543.trans k)
  by_cases hc33_545 : (own_eq [99, 108, 112] cs) = (0 : Int32)
  ·
   have pre546 : ∀ t, Steps p.tables e below (T543.setTop (mkF m 21 #[vR a0, vR s_GLOP, vR b471, vI 3, vI 2, vR s_CLP] [(.int 2), (.ref b471)])) t → Steps p.tables e below (s₁.setTop (entryFrame m #[(.ref a0)] 6)) t := by
    intro t k
    refine pre544 t ?_
    refine XS.ifYes X543.here hx rfl (pc0 := 33) (pc' := 39) rfl (hb hby d15_33) rfl ((if0 _ _).trans (teq hc33_545).1) (by decide) (by decide) ?_
    refine XS.iinc X543.here hx rfl (hb hby d15_39) rfl (l' := #[vR a0, vR s_GLOP, vR b471, vI 3, vI 2, vR s_CLP]) rfl ?_
    refine XS.goto X543.here hx rfl (pc0 := 42) (pc' := 12) rfl (hb hby d15_42) (by decide) (by decide) ?_
    refine XS.iload X543.here hx rfl (hb hby d15_12) rfl ?_
    refine XS.iloadN X543.here hx rfl (hb hby d15_14) rfl ?_
    refine XS.icmpNo X543.here hx rfl (hb hby d15_15) rfl (tlt (by decide : (2 : Int32) < (3 : Int32))).2.1 ?_
    refine XS.aloadN X543.here hx rfl (hb hby d15_18) rfl rfl ?_
    refine XS.iload X543.here hx rfl (hb hby d15_19) rfl ?_
    exact k
   obtain ⟨cl547, Ar547, q547, S547, M547, H547, G547⟩ := id Ob471_0
   have hin547 : ¬ ((2 : Int32) < 0 ∨ cl547.slots.size ≤ ((2 : Int32)).toNatClampNeg) := inb_of S547 ⟨by decide, by decide⟩
   have hat547 : cl547.slots[((2 : Int32)).toNatClampNeg]? = some (.ref s_PDLP) := H547.at hin547 rfl
   have pre548 : own_P p e below T543 (mkF m 26 #[vR a0, vR s_GLOP, vR b471, vI 3, vI 2, vR s_PDLP] [(.ref s_PDLP)]) s₁ (entryFrame m #[(.ref a0)] 6) := by
    intro t k
    refine pre546 t ?_
    refine X543.aaload hx (j := (2 : Int32)) (v := (.ref s_PDLP)) (by rw [e543]; exact Ar547.1) (State.isArrayOf_alike hZ.alike Ar547.2.1) rfl Ar547.2.2 hin547 hat547 (g := (mkF m 21 #[vR a0, vR s_GLOP, vR b471, vI 3, vI 2, vR s_CLP] [(.int 2), (.ref b471)])) rfl rfl (hb hby d15_21) _ ?_
    refine XS.astore X543.here hx rfl (hb hby d15_22) rfl rfl (l' := #[vR a0, vR s_GLOP, vR b471, vI 3, vI 2, vR s_PDLP]) rfl ?_
    refine XS.aload X543.here hx rfl (hb hby d15_24) rfl rfl ?_
    exact k
   obtain ⟨T549, X549, e549, st549⟩ := getF X543 hx hZ hown (host := "") (Or.inl (own_w hw 91 rfl)) Via.refl e543 Ff493 (g := (mkF m 26 #[vR a0, vR s_GLOP, vR b471, vI 3, vI 2, vR s_PDLP] [(.ref s_PDLP)])) rfl rfl (hb hby d15_26)
   have pre550 : own_P p e below T549 (mkF m 29 #[vR a0, vR s_GLOP, vR b471, vI 3, vI 2, vR s_PDLP] [(.ref n_PDLP)]) s₁ (entryFrame m #[(.ref a0)] 6) := fun t k => pre548 t (st549 t k)
   have pre551 : own_P p e below T549 (mkF m 30 #[vR a0, vR s_GLOP, vR b471, vI 3, vI 2, vR s_PDLP] [(.ref a0), (.ref n_PDLP)]) s₁ (entryFrame m #[(.ref a0)] 6) := by
    intro t k
    refine pre550 t ?_
    refine XS.aloadN X549.here hx rfl (hb hby d15_29) rfl rfl ?_
    exact k
   obtain ⟨cq552, kq552, q552a, q552b, q552c⟩ := isOf hZ e549 Ef494
   obtain ⟨_, _, ⟨T552, L552, k552, n552⟩, -, X552, ⟨Lc552, hQ552, l552, y552, z552⟩, st552⟩ := X549.virtualBack hx (y := (⟨"java/lang/String", "equals", "(Ljava/lang/Object;)Z"⟩ : MethodName)) (z := (⟨"java/lang/String", "equals", "(Ljava/lang/Object;)Z"⟩ : MethodName)) hown (mvT hZ (own_w hw 93 rfl)) (mvT hZ (own_w hw 58 rfl)) (notFace_of_selects (args := #[]) (mvT hZ (own_w hw 60 rfl))) (mvT hZ (own_w hw 60 rfl)) (mvT hZ (own_w hw 59 rfl)) (by decide) (StrChars.Road.eqW (W := 0) hZ (own_wordsEq hw) (kI := 4) (own_w hw 2 rfl) Ef494 Ff495 Ff496 Vf497 (own_hcdG (cs := [112, 100, 108, 112]) (by decide)) (own_up [112, 100, 108, 112] (by decide)) (Nat.le_of_ble_eq_true rfl) Ef473 Ff474 Ff475 Vf476 (own_hcdG hp) (own_up _ hp) h4 Sf472 P5 (by decide) (by decide)) q552a q552c (g := (mkF m 30 #[vR a0, vR s_GLOP, vR b471, vI 3, vI 2, vR s_PDLP] [(.ref a0), (.ref n_PDLP)])) rfl (by rw [hml]; rfl) (Steps.refl _) (argsL := [(.ref a0)]) (rest := []) (lenOf pd_4 rfl) rfl (by show 2 * 0 + _ ≤ _; exact Nat.le_of_eq rfl) (hb hby d15_30) (fun _ _ => ⟨rfl, e549, (by decide : 1 + 0 ≤ _), (by decide : 3 + 0 ≤ _)⟩)
   dsimp only [Pt.U, Pt.locs, Pt.cells, Pt.slots] at X552 l552 y552 z552 st552 hQ552
   subst l552 y552 z552
   obtain ⟨q552, rfl, e552⟩ := hQ552
   obtain rfl := own_eqv q552
   try rw [List.append_nil] at X552
   have pre553 : own_P p e below T552 (mkF m 33 #[vR a0, vR s_GLOP, vR b471, vI 3, vI 2, vR s_PDLP] [(.int (own_eq [112, 100, 108, 112] cs))]) s₁ (entryFrame m #[(.ref a0)] 6) := fun t k => pre551 t (st552.trans k)
   by_cases hc33_554 : (own_eq [112, 100, 108, 112] cs) = (0 : Int32)
   ·
    obtain ⟨fs, hr, hrun, hended, hW, hsame⟩ := X552.leave (v := some (.ref s_GLOP)) (fun h => by rw [Bd.returns] at h; cases h)
    refine ⟨_, _, pre553 _ ?_, hrun, hended, _, _, rfl, ?_, ⟨_, rfl⟩, hW, hsame.mono (by decide) (by decide)⟩
    ·
     refine XS.ifYes X552.here hx rfl (pc0 := 33) (pc' := 39) rfl (hb hby d15_33) rfl ((if0 _ _).trans (teq hc33_554).1) (by decide) (by decide) ?_
     refine XS.iinc X552.here hx rfl (hb hby d15_39) rfl (l' := #[vR a0, vR s_GLOP, vR b471, vI 3, vI 3, vR s_PDLP]) rfl ?_
     refine XS.goto X552.here hx rfl (pc0 := 42) (pc' := 12) rfl (hb hby d15_42) (by decide) (by decide) ?_
     refine XS.iload X552.here hx rfl (hb hby d15_12) rfl ?_
     refine XS.iloadN X552.here hx rfl (hb hby d15_14) rfl ?_
     refine XS.icmpYes X552.here hx rfl (pc0 := 15) (pc' := 45) rfl (hb hby d15_15) rfl (flt (by decide : ¬ (3 : Int32) < (3 : Int32))).2.1 (by decide) (by decide) ?_
     refine XS.aloadN X552.here hx rfl (hb hby d15_45) rfl rfl ?_
     exact retOut X552 hx Bd.returns rfl (Or.inr (Or.inr (Or.inr (Or.inr ⟨rfl, rfl, rfl⟩)))) (hb hby d15_46) hr
    ·
     show Q15_y Z a0 cs gc1 t k_t s__VALUES k__VALUES s_GLOP s_CLP s_PDLP n_GLOP t_GLOP k_t_GLOP n_CLP t_CLP k_t_CLP n_PDLP t_PDLP k_t_PDLP h0 n0 _ T552.heap _
     rw [e552]
     exact ⟨by unfold f15_y; rw [if_neg hc33_509, if_pos hc33_545, if_pos hc33_554], N471, K471⟩
   ·
    obtain ⟨fs, hr, hrun, hended, hW, hsame⟩ := X552.leave (v := some (.ref s_PDLP)) (fun h => by rw [Bd.returns] at h; cases h)
    refine ⟨_, _, pre553 _ ?_, hrun, hended, _, _, rfl, ?_, ⟨_, rfl⟩, hW, hsame.mono (by decide) (by decide)⟩
    ·
     refine XS.ifNo X552.here hx rfl (hb hby d15_33) rfl ((if0 _ _).trans (feq hc33_554).1) ?_
     refine XS.aload X552.here hx rfl (hb hby d15_36) rfl rfl ?_
     refine XS.astoreN X552.here hx rfl (hb hby d15_38) rfl rfl (l' := #[vR a0, vR s_PDLP, vR b471, vI 3, vI 2, vR s_PDLP]) rfl ?_
     refine XS.iinc X552.here hx rfl (hb hby d15_39) rfl (l' := #[vR a0, vR s_PDLP, vR b471, vI 3, vI 3, vR s_PDLP]) rfl ?_
     refine XS.goto X552.here hx rfl (pc0 := 42) (pc' := 12) rfl (hb hby d15_42) (by decide) (by decide) ?_
     refine XS.iload X552.here hx rfl (hb hby d15_12) rfl ?_
     refine XS.iloadN X552.here hx rfl (hb hby d15_14) rfl ?_
     refine XS.icmpYes X552.here hx rfl (pc0 := 15) (pc' := 45) rfl (hb hby d15_15) rfl (flt (by decide : ¬ (3 : Int32) < (3 : Int32))).2.1 (by decide) (by decide) ?_
     refine XS.aloadN X552.here hx rfl (hb hby d15_45) rfl rfl ?_
     exact retOut X552 hx Bd.returns rfl (Or.inr (Or.inr (Or.inr (Or.inr ⟨rfl, rfl, rfl⟩)))) (hb hby d15_46) hr
    ·
     show Q15_y Z a0 cs gc1 t k_t s__VALUES k__VALUES s_GLOP s_CLP s_PDLP n_GLOP t_GLOP k_t_GLOP n_CLP t_CLP k_t_CLP n_PDLP t_PDLP k_t_PDLP h0 n0 _ T552.heap _
     rw [e552]
     exact ⟨by unfold f15_y; rw [if_neg hc33_509, if_pos hc33_545, if_neg hc33_554], N471, K471⟩
  ·
   have pre555 : ∀ t, Steps p.tables e below (T543.setTop (mkF m 21 #[vR a0, vR s_CLP, vR b471, vI 3, vI 2, vR s_CLP] [(.int 2), (.ref b471)])) t → Steps p.tables e below (s₁.setTop (entryFrame m #[(.ref a0)] 6)) t := by
    intro t k
    refine pre544 t ?_
    refine XS.ifNo X543.here hx rfl (hb hby d15_33) rfl ((if0 _ _).trans (feq hc33_545).1) ?_
    refine XS.aload X543.here hx rfl (hb hby d15_36) rfl rfl ?_
    refine XS.astoreN X543.here hx rfl (hb hby d15_38) rfl rfl (l' := #[vR a0, vR s_CLP, vR b471, vI 3, vI 1, vR s_CLP]) rfl ?_
    refine XS.iinc X543.here hx rfl (hb hby d15_39) rfl (l' := #[vR a0, vR s_CLP, vR b471, vI 3, vI 2, vR s_CLP]) rfl ?_
    refine XS.goto X543.here hx rfl (pc0 := 42) (pc' := 12) rfl (hb hby d15_42) (by decide) (by decide) ?_
    refine XS.iload X543.here hx rfl (hb hby d15_12) rfl ?_
    refine XS.iloadN X543.here hx rfl (hb hby d15_14) rfl ?_
    refine XS.icmpNo X543.here hx rfl (hb hby d15_15) rfl (tlt (by decide : (2 : Int32) < (3 : Int32))).2.1 ?_
    refine XS.aloadN X543.here hx rfl (hb hby d15_18) rfl rfl ?_
    refine XS.iload X543.here hx rfl (hb hby d15_19) rfl ?_
    exact k
   obtain ⟨cl556, Ar556, q556, S556, M556, H556, G556⟩ := id Ob471_0
   have hin556 : ¬ ((2 : Int32) < 0 ∨ cl556.slots.size ≤ ((2 : Int32)).toNatClampNeg) := inb_of S556 ⟨by decide, by decide⟩
   have hat556 : cl556.slots[((2 : Int32)).toNatClampNeg]? = some (.ref s_PDLP) := H556.at hin556 rfl
   have pre557 : own_P p e below T543 (mkF m 26 #[vR a0, vR s_CLP, vR b471, vI 3, vI 2, vR s_PDLP] [(.ref s_PDLP)]) s₁ (entryFrame m #[(.ref a0)] 6) := by
    intro t k
    refine pre555 t ?_
    refine X543.aaload hx (j := (2 : Int32)) (v := (.ref s_PDLP)) (by rw [e543]; exact Ar556.1) (State.isArrayOf_alike hZ.alike Ar556.2.1) rfl Ar556.2.2 hin556 hat556 (g := (mkF m 21 #[vR a0, vR s_CLP, vR b471, vI 3, vI 2, vR s_CLP] [(.int 2), (.ref b471)])) rfl rfl (hb hby d15_21) _ ?_
    refine XS.astore X543.here hx rfl (hb hby d15_22) rfl rfl (l' := #[vR a0, vR s_CLP, vR b471, vI 3, vI 2, vR s_PDLP]) rfl ?_
    refine XS.aload X543.here hx rfl (hb hby d15_24) rfl rfl ?_
    exact k
   obtain ⟨T558, X558, e558, st558⟩ := getF X543 hx hZ hown (host := "") (Or.inl (own_w hw 91 rfl)) Via.refl e543 Ff493 (g := (mkF m 26 #[vR a0, vR s_CLP, vR b471, vI 3, vI 2, vR s_PDLP] [(.ref s_PDLP)])) rfl rfl (hb hby d15_26)
   have pre559 : own_P p e below T558 (mkF m 29 #[vR a0, vR s_CLP, vR b471, vI 3, vI 2, vR s_PDLP] [(.ref n_PDLP)]) s₁ (entryFrame m #[(.ref a0)] 6) := fun t k => pre557 t (st558 t k)
   have pre560 : own_P p e below T558 (mkF m 30 #[vR a0, vR s_CLP, vR b471, vI 3, vI 2, vR s_PDLP] [(.ref a0), (.ref n_PDLP)]) s₁ (entryFrame m #[(.ref a0)] 6) := by
    intro t k
    refine pre559 t ?_
    refine XS.aloadN X558.here hx rfl (hb hby d15_29) rfl rfl ?_
    exact k
   obtain ⟨cq561, kq561, q561a, q561b, q561c⟩ := isOf hZ e558 Ef494
   obtain ⟨_, _, ⟨T561, L561, k561, n561⟩, -, X561, ⟨Lc561, hQ561, l561, y561, z561⟩, st561⟩ := X558.virtualBack hx (y := (⟨"java/lang/String", "equals", "(Ljava/lang/Object;)Z"⟩ : MethodName)) (z := (⟨"java/lang/String", "equals", "(Ljava/lang/Object;)Z"⟩ : MethodName)) hown (mvT hZ (own_w hw 93 rfl)) (mvT hZ (own_w hw 58 rfl)) (notFace_of_selects (args := #[]) (mvT hZ (own_w hw 60 rfl))) (mvT hZ (own_w hw 60 rfl)) (mvT hZ (own_w hw 59 rfl)) (by decide) (StrChars.Road.eqW (W := 0) hZ (own_wordsEq hw) (kI := 4) (own_w hw 2 rfl) Ef494 Ff495 Ff496 Vf497 (own_hcdG (cs := [112, 100, 108, 112]) (by decide)) (own_up [112, 100, 108, 112] (by decide)) (Nat.le_of_ble_eq_true rfl) Ef473 Ff474 Ff475 Vf476 (own_hcdG hp) (own_up _ hp) h4 Sf472 P5 (by decide) (by decide)) q561a q561c (g := (mkF m 30 #[vR a0, vR s_CLP, vR b471, vI 3, vI 2, vR s_PDLP] [(.ref a0), (.ref n_PDLP)])) rfl (by rw [hml]; rfl) (Steps.refl _) (argsL := [(.ref a0)]) (rest := []) (lenOf pd_4 rfl) rfl (by show 2 * 0 + _ ≤ _; exact Nat.le_of_eq rfl) (hb hby d15_30) (fun _ _ => ⟨rfl, e558, (by decide : 1 + 0 ≤ _), (by decide : 3 + 0 ≤ _)⟩)
   dsimp only [Pt.U, Pt.locs, Pt.cells, Pt.slots] at X561 l561 y561 z561 st561 hQ561
   subst l561 y561 z561
   obtain ⟨q561, rfl, e561⟩ := hQ561
   obtain rfl := own_eqv q561
   try rw [List.append_nil] at X561
   have pre562 : own_P p e below T561 (mkF m 33 #[vR a0, vR s_CLP, vR b471, vI 3, vI 2, vR s_PDLP] [(.int (own_eq [112, 100, 108, 112] cs))]) s₁ (entryFrame m #[(.ref a0)] 6) := fun t k => pre560 t (st561.trans k)
   by_cases hc33_563 : (own_eq [112, 100, 108, 112] cs) = (0 : Int32)
   ·
    obtain ⟨fs, hr, hrun, hended, hW, hsame⟩ := X561.leave (v := some (.ref s_CLP)) (fun h => by rw [Bd.returns] at h; cases h)
    refine ⟨_, _, pre562 _ ?_, hrun, hended, _, _, rfl, ?_, ⟨_, rfl⟩, hW, hsame.mono (by decide) (by decide)⟩
    ·
     refine XS.ifYes X561.here hx rfl (pc0 := 33) (pc' := 39) rfl (hb hby d15_33) rfl ((if0 _ _).trans (teq hc33_563).1) (by decide) (by decide) ?_
     refine XS.iinc X561.here hx rfl (hb hby d15_39) rfl (l' := #[vR a0, vR s_CLP, vR b471, vI 3, vI 3, vR s_PDLP]) rfl ?_
     refine XS.goto X561.here hx rfl (pc0 := 42) (pc' := 12) rfl (hb hby d15_42) (by decide) (by decide) ?_
     refine XS.iload X561.here hx rfl (hb hby d15_12) rfl ?_
     refine XS.iloadN X561.here hx rfl (hb hby d15_14) rfl ?_
     refine XS.icmpYes X561.here hx rfl (pc0 := 15) (pc' := 45) rfl (hb hby d15_15) rfl (flt (by decide : ¬ (3 : Int32) < (3 : Int32))).2.1 (by decide) (by decide) ?_
     refine XS.aloadN X561.here hx rfl (hb hby d15_45) rfl rfl ?_
     exact retOut X561 hx Bd.returns rfl (Or.inr (Or.inr (Or.inr (Or.inr ⟨rfl, rfl, rfl⟩)))) (hb hby d15_46) hr
    ·
     show Q15_y Z a0 cs gc1 t k_t s__VALUES k__VALUES s_GLOP s_CLP s_PDLP n_GLOP t_GLOP k_t_GLOP n_CLP t_CLP k_t_CLP n_PDLP t_PDLP k_t_PDLP h0 n0 _ T561.heap _
     rw [e561]
     exact ⟨by unfold f15_y; rw [if_neg hc33_509, if_neg hc33_545, if_pos hc33_563], N471, K471⟩
   ·
    obtain ⟨fs, hr, hrun, hended, hW, hsame⟩ := X561.leave (v := some (.ref s_PDLP)) (fun h => by rw [Bd.returns] at h; cases h)
    refine ⟨_, _, pre562 _ ?_, hrun, hended, _, _, rfl, ?_, ⟨_, rfl⟩, hW, hsame.mono (by decide) (by decide)⟩
    ·
     refine XS.ifNo X561.here hx rfl (hb hby d15_33) rfl ((if0 _ _).trans (feq hc33_563).1) ?_
     refine XS.aload X561.here hx rfl (hb hby d15_36) rfl rfl ?_
     refine XS.astoreN X561.here hx rfl (hb hby d15_38) rfl rfl (l' := #[vR a0, vR s_PDLP, vR b471, vI 3, vI 2, vR s_PDLP]) rfl ?_
     refine XS.iinc X561.here hx rfl (hb hby d15_39) rfl (l' := #[vR a0, vR s_PDLP, vR b471, vI 3, vI 3, vR s_PDLP]) rfl ?_
     refine XS.goto X561.here hx rfl (pc0 := 42) (pc' := 12) rfl (hb hby d15_42) (by decide) (by decide) ?_
     refine XS.iload X561.here hx rfl (hb hby d15_12) rfl ?_
     refine XS.iloadN X561.here hx rfl (hb hby d15_14) rfl ?_
     refine XS.icmpYes X561.here hx rfl (pc0 := 15) (pc' := 45) rfl (hb hby d15_15) rfl (flt (by decide : ¬ (3 : Int32) < (3 : Int32))).2.1 (by decide) (by decide) ?_
     refine XS.aloadN X561.here hx rfl (hb hby d15_45) rfl rfl ?_
     exact retOut X561 hx Bd.returns rfl (Or.inr (Or.inr (Or.inr (Or.inr ⟨rfl, rfl, rfl⟩)))) (hb hby d15_46) hr
    ·
     show Q15_y Z a0 cs gc1 t k_t s__VALUES k__VALUES s_GLOP s_CLP s_PDLP n_GLOP t_GLOP k_t_GLOP n_CLP t_CLP k_t_CLP n_PDLP t_PDLP k_t_PDLP h0 n0 _ T561.heap _
     rw [e561]
     exact ⟨by unfold f15_y; rw [if_neg hc33_509, if_neg hc33_545, if_neg hc33_563], N471, K471⟩
theorem own_r_f15_y {cs : List Int32} {s_GLOP : Addr} {s_CLP : Addr} {s_PDLP : Addr} : (f15_y cs s_GLOP s_CLP s_PDLP).isRef = true := by
 unfold f15_y; repeat' split
 all_goals rfl
theorem own_same (cs : List Int32) (a b c : Addr) : f15_y cs a b c = f12_y cs a b c := by
 unfold f15_y f12_y own_eq
 by_cases h1 : cs = [103, 108, 111, 112]
 ·
  subst h1; rfl
 ·
  by_cases h2 : cs = [99, 108, 112]
  ·
   subst h2; rfl
  ·
   by_cases h3 : cs = [112, 100, 108, 112]
   ·
    subst h3; rfl
   ·
    rw [if_neg h1, if_neg h2, if_neg h3, if_neg (Ne.symm h1), if_neg (Ne.symm h2), if_neg (Ne.symm h3)]; rfl
theorem own_elI {args : Array Value} {s : State} {T : Term} {a : Addr} {cl : Cell} {ty : FieldType} {j v : Int32} (A : Arr s s.heap a cl ty) (ha : T.eval args s none [] s = some (.ref a)) (h : (Cond.eq (.elem T (.int j)) (.int v)).value args s none s [] = some true) : cl.slots[j.toNatClampNeg]? = some (.int v) := by
 obtain ⟨c', c1, -, c3⟩ := elem_at (own_eqI h) ha rfl
 cases A.1.symm.trans c1
 exact c3

theorem pd_6 : parseMethodDescriptor "(ILjava/lang/String;II)C" = some ⟨[.int, (.object "java/lang/String"), .int, .int], some .char⟩ := by decide +kernel
theorem pd_7 : parseMethodDescriptor "(ICCCC)Ljava/lang/String;" = some ⟨[.int, .char, .char, .char, .char], some (.object "java/lang/String")⟩ := by decide +kernel
theorem pd_8 : parseMethodDescriptor "(Ljava/lang/String;)Lcom/example/timely_exodus/timelyexodus/plan/LpSolver;" = some ⟨[(.object "java/lang/String")], some (.object "com/example/timely_exodus/timelyexodus/plan/LpSolver")⟩ := by decide +kernel
theorem ef_0 (m : MethodId) (x0 : Int32) (x1 : Int32) (x2 : Int32) (x3 : Int32) (x4 : Int32) (x5 : Int32) : entryFrame m #[(.int x0), (.int x1), (.int x2), (.int x3), (.int x4), (.int x5)] maxLocals = mkF m 0 #[vI x0, vI x1, vI x2, vI x3, vI x4, vI x5, .unset, .unset, .unset, .unset, .unset, .unset, .unset, .unset, .unset] [] := by first | (simp [entryFrame, mkF, argsToLocals, Value.category, maxLocals]; done) | rfl
def Q0 (Z : State) (p0 : Int32) (p1 : Int32) (p2 : Int32) (p3 : Int32) (p4 : Int32) (p5 : Int32) (gc1 : Int32) (gf3 : Value) (s_GLOP : Addr) (s_CLP : Addr) (s_PDLP : Addr) (s__VALUES : Addr) (k__VALUES : ClassId) (n_GLOP : Addr) (t_GLOP : Addr) (k_t_GLOP : ClassId) (n_CLP : Addr) (t_CLP : Addr) (k_t_CLP : ClassId) (n_PDLP : Addr) (t_PDLP : Addr) (k_t_PDLP : ClassId) (h0 : Heap) (n0 : Nat) (v : Option Value) (h : Heap) (L : List Loc) : Prop := v = some (.int 1) ∧ Fr n0 L
theorem own_leaf1 {p0 : Int32} {p1 : Int32} {p2 : Int32} {p3 : Int32} {p4 : Int32} {p5 : Int32} {gc1 : Int32} {gf3 : Value} {s_GLOP : Addr} {s_CLP : Addr} {s_PDLP : Addr} {v565 : Int32} {v605 : Int32} {v641 : Int32} {v676 : Int32} {v711 : Int32} {v746 : Int32} {w818 : Value} {w857 : Value} (rG3 : gf3.isRef = true) (P5 : ¬ (gc1 = (0 : Int32))) (hv565 : v565 = (p0 &&& (3 : Int32))) (hc8_568 : v565 = (1 : Int32)) (hv605 : v605 = (if (p0 &&& (64 : Int32)) = (0 : Int32) then (Int32.ofNat ([103, 108, 111, 112] : List Int32).length) else ((p1 &&& (7 : Int32)) % (5 : Int32)))) (hv641 : v641 = (f1_0 p2 p0 ([103, 108, 111, 112]))) (hv676 : v676 = (f1_1 p3 p0 ([103, 108, 111, 112]))) (hv711 : v711 = (f1_2 p4 p0 ([103, 108, 111, 112]))) (hv746 : v746 = (f1_3 p5 p0 ([103, 108, 111, 112]))) (hw818 : w818 = (f12_y (own_cs v605 v641 v676 v711 v746) s_GLOP s_CLP s_PDLP)) (hw857 : w857 = (f15_y (own_cs v605 v641 v676 v711 v746) s_GLOP s_CLP s_PDLP)) (hc157_860 : ¬ ((w857 : Value) = w818)) : False := by
 exact hc157_860 (by rw [hw857, hw818]; exact own_same _ _ _ _)
theorem own_leaf2 {p0 : Int32} {p1 : Int32} {p2 : Int32} {p3 : Int32} {p4 : Int32} {p5 : Int32} {gc1 : Int32} {gf3 : Value} {s_GLOP : Addr} {s_CLP : Addr} {s_PDLP : Addr} {v565 : Int32} {v900 : Int32} {v936 : Int32} {v971 : Int32} {v1006 : Int32} {v1041 : Int32} {w1113 : Value} {w1152 : Value} (rG3 : gf3.isRef = true) (P5 : ¬ (gc1 = (0 : Int32))) (hv565 : v565 = (p0 &&& (3 : Int32))) (hc8_568 : ¬ (v565 = (1 : Int32))) (hc19_863 : v565 = (2 : Int32)) (hv900 : v900 = (if (p0 &&& (64 : Int32)) = (0 : Int32) then (Int32.ofNat ([99, 108, 112] : List Int32).length) else ((p1 &&& (7 : Int32)) % (5 : Int32)))) (hv936 : v936 = (f1_0 p2 p0 ([99, 108, 112]))) (hv971 : v971 = (f1_1 p3 p0 ([99, 108, 112]))) (hv1006 : v1006 = (f1_2 p4 p0 ([99, 108, 112]))) (hv1041 : v1041 = (f1_3 p5 p0 ([99, 108, 112]))) (hw1113 : w1113 = (f12_y (own_cs v900 v936 v971 v1006 v1041) s_GLOP s_CLP s_PDLP)) (hw1152 : w1152 = (f15_y (own_cs v900 v936 v971 v1006 v1041) s_GLOP s_CLP s_PDLP)) (hc157_1155 : ¬ ((w1152 : Value) = w1113)) : False := by
 exact hc157_1155 (by rw [hw1152, hw1113]; exact own_same _ _ _ _)
theorem own_leaf3 {p0 : Int32} {p1 : Int32} {p2 : Int32} {p3 : Int32} {p4 : Int32} {p5 : Int32} {gc1 : Int32} {gf3 : Value} {s_GLOP : Addr} {s_CLP : Addr} {s_PDLP : Addr} {v565 : Int32} {v1195 : Int32} {v1231 : Int32} {v1266 : Int32} {v1301 : Int32} {v1336 : Int32} {w1408 : Value} {w1447 : Value} (rG3 : gf3.isRef = true) (P5 : ¬ (gc1 = (0 : Int32))) (hv565 : v565 = (p0 &&& (3 : Int32))) (hc8_568 : ¬ (v565 = (1 : Int32))) (hc19_863 : ¬ (v565 = (2 : Int32))) (hc30_1158 : v565 = (3 : Int32)) (hv1195 : v1195 = (if (p0 &&& (64 : Int32)) = (0 : Int32) then (Int32.ofNat ([112, 100, 108, 112] : List Int32).length) else ((p1 &&& (7 : Int32)) % (5 : Int32)))) (hv1231 : v1231 = (f1_0 p2 p0 ([112, 100, 108, 112]))) (hv1266 : v1266 = (f1_1 p3 p0 ([112, 100, 108, 112]))) (hv1301 : v1301 = (f1_2 p4 p0 ([112, 100, 108, 112]))) (hv1336 : v1336 = (f1_3 p5 p0 ([112, 100, 108, 112]))) (hw1408 : w1408 = (f12_y (own_cs v1195 v1231 v1266 v1301 v1336) s_GLOP s_CLP s_PDLP)) (hw1447 : w1447 = (f15_y (own_cs v1195 v1231 v1266 v1301 v1336) s_GLOP s_CLP s_PDLP)) (hc157_1450 : ¬ ((w1447 : Value) = w1408)) : False := by
 exact hc157_1450 (by rw [hw1447, hw1408]; exact own_same _ _ _ _)
theorem own_leaf4 {p0 : Int32} {p1 : Int32} {p2 : Int32} {p3 : Int32} {p4 : Int32} {p5 : Int32} {gc1 : Int32} {gf3 : Value} {s_GLOP : Addr} {s_CLP : Addr} {s_PDLP : Addr} {v565 : Int32} {v1491 : Int32} {v1527 : Int32} {v1562 : Int32} {v1597 : Int32} {v1632 : Int32} {w1708 : Value} {w1747 : Value} (rG3 : gf3.isRef = true) (P5 : ¬ (gc1 = (0 : Int32))) (hv565 : v565 = (p0 &&& (3 : Int32))) (hc8_568 : ¬ (v565 = (1 : Int32))) (hc19_863 : ¬ (v565 = (2 : Int32))) (hc30_1158 : ¬ (v565 = (3 : Int32))) (hv1491 : v1491 = (if v565 = (0 : Int32) then ((p1 &&& (7 : Int32)) % (5 : Int32)) else (if (p0 &&& (64 : Int32)) = (0 : Int32) then (Int32.ofNat ([] : List Int32).length) else ((p1 &&& (7 : Int32)) % (5 : Int32))))) (hv1527 : v1527 = (f1_0 p2 p0 ([]))) (hv1562 : v1562 = (f1_1 p3 p0 ([]))) (hv1597 : v1597 = (f1_2 p4 p0 ([]))) (hv1632 : v1632 = (f1_3 p5 p0 ([]))) (hc114_1635 : v565 = (0 : Int32)) (hc121_1637 : (p1 &&& (8 : Int32)) = (0 : Int32)) (hw1708 : w1708 = (f12_y (own_cs v1491 v1527 v1562 v1597 v1632) s_GLOP s_CLP s_PDLP)) (hw1747 : w1747 = (f15_y (own_cs v1491 v1527 v1562 v1597 v1632) s_GLOP s_CLP s_PDLP)) (hc157_1750 : ¬ ((w1747 : Value) = w1708)) : False := by
 exact hc157_1750 (by rw [hw1747, hw1708]; exact own_same _ _ _ _)
theorem own_leaf5 {p0 : Int32} {p1 : Int32} {p2 : Int32} {p3 : Int32} {p4 : Int32} {p5 : Int32} {gc1 : Int32} {gf3 : Value} {s_GLOP : Addr} {s_CLP : Addr} {s_PDLP : Addr} {v565 : Int32} {v1491 : Int32} {v1527 : Int32} {v1562 : Int32} {v1597 : Int32} {v1632 : Int32} {w1858 : Value} {w1897 : Value} (rG3 : gf3.isRef = true) (P5 : ¬ (gc1 = (0 : Int32))) (hv565 : v565 = (p0 &&& (3 : Int32))) (hc8_568 : ¬ (v565 = (1 : Int32))) (hc19_863 : ¬ (v565 = (2 : Int32))) (hc30_1158 : ¬ (v565 = (3 : Int32))) (hv1491 : v1491 = (if v565 = (0 : Int32) then ((p1 &&& (7 : Int32)) % (5 : Int32)) else (if (p0 &&& (64 : Int32)) = (0 : Int32) then (Int32.ofNat ([] : List Int32).length) else ((p1 &&& (7 : Int32)) % (5 : Int32))))) (hv1527 : v1527 = (f1_0 p2 p0 ([]))) (hv1562 : v1562 = (f1_1 p3 p0 ([]))) (hv1597 : v1597 = (f1_2 p4 p0 ([]))) (hv1632 : v1632 = (f1_3 p5 p0 ([]))) (hc114_1635 : ¬ (v565 = (0 : Int32))) (hw1858 : w1858 = (f12_y (own_cs v1491 v1527 v1562 v1597 v1632) s_GLOP s_CLP s_PDLP)) (hw1897 : w1897 = (f15_y (own_cs v1491 v1527 v1562 v1597 v1632) s_GLOP s_CLP s_PDLP)) (hc157_1900 : ¬ ((w1897 : Value) = w1858)) : False := by
 exact hc157_1900 (by rw [hw1897, hw1858]; exact own_same _ _ _ _)
set_option maxRecDepth 65536 in
set_option maxHeartbeats 40000000 in
theorem rm0 (l : Launch) (Z : State) (ar0 : Array Value) (hw : ∀ d ∈ tables_1, d.before ar0 Z = true) (ws : List Jvm.Cond) (p0 : Int32) (p1 : Int32) (p2 : Int32) (p3 : Int32) (p4 : Int32) (p5 : Int32) (gc1 : Int32) (gf3 : Value) (s_GLOP : Addr) (s_CLP : Addr) (s_PDLP : Addr) (s__VALUES : Addr) (k__VALUES : ClassId) (n_GLOP : Addr) (t_GLOP : Addr) (k_t_GLOP : ClassId) (n_CLP : Addr) (t_CLP : Addr) (k_t_CLP : ClassId) (n_PDLP : Addr) (t_PDLP : Addr) (k_t_PDLP : ClassId) (h0 : Heap) (n0 : Nat) (Z0 : n0 ≤ h0.size) (P5 : ¬ (gc1 = (0 : Int32))) (rG3 : gf3.isRef = true) (S_COMPACT_STRINGS : Sta Z h0 "java/lang/String" "COMPACT_STRINGS" "Z" (.int gc1)) (S_SIOOBE_FORMATTER : Sta Z h0 "jdk/internal/util/Preconditions" "SIOOBE_FORMATTER" "Ljava/util/function/BiFunction;" gf3) (S_GLOP : Sta Z h0 "com/example/timely_exodus/timelyexodus/plan/LpSolver" "GLOP" "Lcom/example/timely_exodus/timelyexodus/plan/LpSolver;" (.ref s_GLOP)) (S_CLP : Sta Z h0 "com/example/timely_exodus/timelyexodus/plan/LpSolver" "CLP" "Lcom/example/timely_exodus/timelyexodus/plan/LpSolver;" (.ref s_CLP)) (S_PDLP : Sta Z h0 "com/example/timely_exodus/timelyexodus/plan/LpSolver" "PDLP" "Lcom/example/timely_exodus/timelyexodus/plan/LpSolver;" (.ref s_PDLP)) (S__VALUES : Sta Z h0 "com/example/timely_exodus/timelyexodus/plan/LpSolver" "$VALUES" "[Lcom/example/timely_exodus/timelyexodus/plan/LpSolver;" (.ref s__VALUES)) (V_s__VALUES : Arv Z h0 s__VALUES k__VALUES (.object "com/example/timely_exodus/timelyexodus/plan/LpSolver") (3 : Int32) [(.ref s_GLOP), (.ref s_CLP), (.ref s_PDLP)] .null) (E_s__VALUES : Exa Z h0 s__VALUES "[Lcom/example/timely_exodus/timelyexodus/plan/LpSolver;") (E_s_GLOP : Exa Z h0 s_GLOP "com/example/timely_exodus/timelyexodus/plan/LpSolver") (F_name_s_GLOP : Fld Z h0 s_GLOP "com/example/timely_exodus/timelyexodus/plan/LpSolver" "name" "Ljava/lang/String;" (.ref n_GLOP)) (E_n_GLOP : Exa Z h0 n_GLOP "java/lang/String") (F_value_n_GLOP : Fld Z h0 n_GLOP "java/lang/String" "value" "[B" (.ref t_GLOP)) (F_coder_n_GLOP : Fld Z h0 n_GLOP "java/lang/String" "coder" "B" (.int 0)) (B_t_GLOP : Arv Z h0 t_GLOP k_t_GLOP .byte (4 : Int32) ((([103, 108, 111, 112] : List Int32).map (fun c => c.toInt8.toInt32)).map Value.int) (.int 0)) (E_s_CLP : Exa Z h0 s_CLP "com/example/timely_exodus/timelyexodus/plan/LpSolver") (F_name_s_CLP : Fld Z h0 s_CLP "com/example/timely_exodus/timelyexodus/plan/LpSolver" "name" "Ljava/lang/String;" (.ref n_CLP)) (E_n_CLP : Exa Z h0 n_CLP "java/lang/String") (F_value_n_CLP : Fld Z h0 n_CLP "java/lang/String" "value" "[B" (.ref t_CLP)) (F_coder_n_CLP : Fld Z h0 n_CLP "java/lang/String" "coder" "B" (.int 0)) (B_t_CLP : Arv Z h0 t_CLP k_t_CLP .byte (3 : Int32) ((([99, 108, 112] : List Int32).map (fun c => c.toInt8.toInt32)).map Value.int) (.int 0)) (E_s_PDLP : Exa Z h0 s_PDLP "com/example/timely_exodus/timelyexodus/plan/LpSolver") (F_name_s_PDLP : Fld Z h0 s_PDLP "com/example/timely_exodus/timelyexodus/plan/LpSolver" "name" "Ljava/lang/String;" (.ref n_PDLP)) (E_n_PDLP : Exa Z h0 n_PDLP "java/lang/String") (F_value_n_PDLP : Fld Z h0 n_PDLP "java/lang/String" "value" "[B" (.ref t_PDLP)) (F_coder_n_PDLP : Fld Z h0 n_PDLP "java/lang/String" "coder" "B" (.int 0)) (B_t_PDLP : Arv Z h0 t_PDLP k_t_PDLP .byte (4 : Int32) ((([112, 100, 108, 112] : List Int32).map (fun c => c.toInt8.toInt32)).map Value.int) (.int 0)) :
  MetFree l x (head1 (Jvm.Cond.code x code maxLocals ret :: ws) room_1) (fun a U => a = #[(.int p0), (.int p1), (.int p2), (.int p3), (.int p4), (.int p5)] ∧ Z.Warmed39 U.vm ∧ U.heap = h0 ∧ CHv Z own_EL U.vm h0) (fun _ _ _ _ _ => True) (fun _ U o U' => ∃ v L, o = .returned v ∧ Q0 Z p0 p1 p2 p3 p4 p5 gc1 gf3 s_GLOP s_CLP s_PDLP s__VALUES k__VALUES n_GLOP t_GLOP k_t_GLOP n_CLP t_CLP k_t_CLP n_PDLP t_PDLP k_t_PDLP h0 n0 v U'.heap L ∧ ReturnedEndW U o U' L room_1.cells room_1.slots) := by
 refine MetFree.of_bodySF (plainFor_of_name pn_1) hisR ?_
 intro p e s m args below meth c s₁ Bd hml0 hP hK
 obtain ⟨rfl, hZ, hh, hC0⟩ := hP
 have hx := Bd.exec
 have hby := Bd.bytes
 have hml : c.maxLocals = 15 := hml0
 have hown : s.vm.findClass "com/example/timely_exodus/timelyexodus/plan/LpSolverFromNamePinLaw" = some m.cls := by have q := findClass_of_methodNamed Bd.named; exact q
 have hnm := (name_of_methodNamed Bd.named Bd.method).1
 have X0 : Stand p l e room_1 s m #[(.int p0), (.int p1), (.int p2), (.int p3), (.int p4), (.int p5)] below meth c s₁ [] 0 0 := Stand.of_body Bd
 have e0 : s₁.heap = h0 := by rw [← hh, Bd.state]; rfl
 have N0 := Fr.nil n0
 have hS0 : s.Since s.vm 0 := own_since0 s
 have hCR0 : CHr Z own_EL s.vm h0 s.vm h0 := CHr.refl hC0
 have hEL : EW Z ar0 own_EL := own_EW hw
 have pre0 : own_P p e below s₁ (mkF m 0 #[vI p0, vI p1, vI p2, vI p3, vI p4, vI p5, .unset, .unset, .unset, .unset, .unset, .unset, .unset, .unset, .unset] []) s₁ (entryFrame m #[(.int p0), (.int p1), (.int p2), (.int p3), (.int p4), (.int p5)] maxLocals) := fun t k => castTop (ef_0 m p0 p1 p2 p3 p4 p5) k
 have pre564 : own_P p e below s₁ (mkF m 3 #[vI p0, vI p1, vI p2, vI p3, vI p4, vI p5, .unset, .unset, .unset, .unset, .unset, .unset, .unset, .unset, .unset] [(.int (p0 &&& (3 : Int32)))]) s₁ (entryFrame m #[(.int p0), (.int p1), (.int p2), (.int p3), (.int p4), (.int p5)] maxLocals) := by
  intro t k
  refine pre0 t ?_
  refine XS.iloadN X0.here hx rfl (hb hby at_0) rfl ?_
  refine XS.iconst X0.here hx rfl (hb hby at_1) ?_
  refine XS.iand X0.here hx rfl (hb hby at_2) rfl ?_
  exact k
 obtain ⟨v565, hv565⟩ : ∃ z : Int32, z = (p0 &&& (3 : Int32)) := ⟨_, rfl⟩
 have pre566 : own_P p e below s₁ (mkF m 3 #[vI p0, vI p1, vI p2, vI p3, vI p4, vI p5, .unset, .unset, .unset, .unset, .unset, .unset, .unset, .unset, .unset] [(.int v565)]) s₁ (entryFrame m #[(.int p0), (.int p1), (.int p2), (.int p3), (.int p4), (.int p5)] maxLocals) := by rw [hv565]; exact pre564
 have pre567 : own_P p e below s₁ (mkF m 8 #[vI p0, vI p1, vI p2, vI p3, vI p4, vI p5, vI v565, .unset, .unset, .unset, .unset, .unset, .unset, .unset, .unset] [(.int 1), (.int v565)]) s₁ (entryFrame m #[(.int p0), (.int p1), (.int p2), (.int p3), (.int p4), (.int p5)] maxLocals) := by
  intro t k
  refine pre566 t ?_
  refine XS.istore X0.here hx rfl (hb hby at_3) rfl (l' := #[vI p0, vI p1, vI p2, vI p3, vI p4, vI p5, vI v565, .unset, .unset, .unset, .unset, .unset, .unset, .unset, .unset]) rfl ?_
  refine XS.iload X0.here hx rfl (hb hby at_5) rfl ?_
  refine XS.iconst X0.here hx rfl (hb hby at_7) ?_
  exact k
 by_cases hc8_568 : v565 = (1 : Int32)
 ·
  have pre569 : ∀ t, Steps p.tables e below (s₁.setTop (mkF m 11 #[vI p0, vI p1, vI p2, vI p3, vI p4, vI p5, vI v565, .unset, .unset, .unset, .unset, .unset, .unset, .unset, .unset] [])) t → Steps p.tables e below (s₁.setTop (entryFrame m #[(.int p0), (.int p1), (.int p2), (.int p3), (.int p4), (.int p5)] maxLocals)) t := by
   intro t k
   refine pre567 t ?_
   refine XS.icmpNo X0.here hx rfl (hb hby at_8) rfl (teq hc8_568).2 ?_
   exact k
  obtain ⟨a570, T570, h570, k570, b570, kb570, X570, e570, E570, hS570, hk570, hZ570, ho570, Ea570, Ca570, Va570, Ab570, la570, lb570, hC570, -, hn570, st570⟩ := ldcCH (s := s) (vm0 := s.vm) X0 hx hZ hown (own_w hw 56 rfl) (own_strW hw) e0 hS0 (Nat.zero_le _) hEL (List.mem_of_getElem? (i := 0) rfl) hCR0.1 (vs := [(.int 103), (.int 108), (.int 111), (.int 112)]) (z := (4 : Int32)) ⟨by decide, rfl⟩ (by decide) rfl (g := (mkF m 11 #[vI p0, vI p1, vI p2, vI p3, vI p4, vI p5, vI v565, .unset, .unset, .unset, .unset, .unset, .unset, .unset, .unset] [])) rfl (hb hby at_11) (n := 16) (by decide) (by decide) (by decide) (by decide)
  have CR570 := hCR0.trans hC570
  have Z570 : n0 ≤ h570.size := Nat.le_trans Z0 E570.1
  have K570 : Keep h0 h570 [] := (Keep.refl h0 []).ext E570
  have Sf571 : Sta Z h570 "java/lang/String" "COMPACT_STRINGS" "Z" (.int gc1) := (S_COMPACT_STRINGS).ext E570
  have Sf572 : Sta Z h570 "jdk/internal/util/Preconditions" "SIOOBE_FORMATTER" "Ljava/util/function/BiFunction;" gf3 := (S_SIOOBE_FORMATTER).ext E570
  have Sf573 : Sta Z h570 "com/example/timely_exodus/timelyexodus/plan/LpSolver" "GLOP" "Lcom/example/timely_exodus/timelyexodus/plan/LpSolver;" (.ref s_GLOP) := (S_GLOP).ext E570
  have Sf574 : Sta Z h570 "com/example/timely_exodus/timelyexodus/plan/LpSolver" "CLP" "Lcom/example/timely_exodus/timelyexodus/plan/LpSolver;" (.ref s_CLP) := (S_CLP).ext E570
  have Sf575 : Sta Z h570 "com/example/timely_exodus/timelyexodus/plan/LpSolver" "PDLP" "Lcom/example/timely_exodus/timelyexodus/plan/LpSolver;" (.ref s_PDLP) := (S_PDLP).ext E570
  have Sf576 : Sta Z h570 "com/example/timely_exodus/timelyexodus/plan/LpSolver" "$VALUES" "[Lcom/example/timely_exodus/timelyexodus/plan/LpSolver;" (.ref s__VALUES) := (S__VALUES).ext E570
  have Vf577 : Arv Z h570 s__VALUES k__VALUES (.object "com/example/timely_exodus/timelyexodus/plan/LpSolver") (3 : Int32) [(.ref s_GLOP), (.ref s_CLP), (.ref s_PDLP)] .null := (V_s__VALUES).ext E570
  have Ef578 : Exa Z h570 s__VALUES "[Lcom/example/timely_exodus/timelyexodus/plan/LpSolver;" := (E_s__VALUES).ext E570
  have Ef579 : Exa Z h570 s_GLOP "com/example/timely_exodus/timelyexodus/plan/LpSolver" := (E_s_GLOP).ext E570
  have Ff580 : Fld Z h570 s_GLOP "com/example/timely_exodus/timelyexodus/plan/LpSolver" "name" "Ljava/lang/String;" (.ref n_GLOP) := (F_name_s_GLOP).ext E570
  have Ef581 : Exa Z h570 n_GLOP "java/lang/String" := (E_n_GLOP).ext E570
  have Ff582 : Fld Z h570 n_GLOP "java/lang/String" "value" "[B" (.ref t_GLOP) := (F_value_n_GLOP).ext E570
  have Ff583 : Fld Z h570 n_GLOP "java/lang/String" "coder" "B" (.int 0) := (F_coder_n_GLOP).ext E570
  have Vf584 : Arv Z h570 t_GLOP k_t_GLOP .byte (4 : Int32) ((([103, 108, 111, 112] : List Int32).map (fun c => c.toInt8.toInt32)).map Value.int) (.int 0) := (B_t_GLOP).ext E570
  have Ef585 : Exa Z h570 s_CLP "com/example/timely_exodus/timelyexodus/plan/LpSolver" := (E_s_CLP).ext E570
  have Ff586 : Fld Z h570 s_CLP "com/example/timely_exodus/timelyexodus/plan/LpSolver" "name" "Ljava/lang/String;" (.ref n_CLP) := (F_name_s_CLP).ext E570
  have Ef587 : Exa Z h570 n_CLP "java/lang/String" := (E_n_CLP).ext E570
  have Ff588 : Fld Z h570 n_CLP "java/lang/String" "value" "[B" (.ref t_CLP) := (F_value_n_CLP).ext E570
  have Ff589 : Fld Z h570 n_CLP "java/lang/String" "coder" "B" (.int 0) := (F_coder_n_CLP).ext E570
  have Vf590 : Arv Z h570 t_CLP k_t_CLP .byte (3 : Int32) ((([99, 108, 112] : List Int32).map (fun c => c.toInt8.toInt32)).map Value.int) (.int 0) := (B_t_CLP).ext E570
  have Ef591 : Exa Z h570 s_PDLP "com/example/timely_exodus/timelyexodus/plan/LpSolver" := (E_s_PDLP).ext E570
  have Ff592 : Fld Z h570 s_PDLP "com/example/timely_exodus/timelyexodus/plan/LpSolver" "name" "Ljava/lang/String;" (.ref n_PDLP) := (F_name_s_PDLP).ext E570
  have Ef593 : Exa Z h570 n_PDLP "java/lang/String" := (E_n_PDLP).ext E570
  have Ff594 : Fld Z h570 n_PDLP "java/lang/String" "value" "[B" (.ref t_PDLP) := (F_value_n_PDLP).ext E570
  have Ff595 : Fld Z h570 n_PDLP "java/lang/String" "coder" "B" (.int 0) := (F_coder_n_PDLP).ext E570
  have Vf596 : Arv Z h570 t_PDLP k_t_PDLP .byte (4 : Int32) ((([112, 100, 108, 112] : List Int32).map (fun c => c.toInt8.toInt32)).map Value.int) (.int 0) := (B_t_PDLP).ext E570
  have pre597 : own_P p e below T570 (mkF m 13 #[vI p0, vI p1, vI p2, vI p3, vI p4, vI p5, vI v565, .unset, .unset, .unset, .unset, .unset, .unset, .unset, .unset] [(.ref a570)]) s₁ (entryFrame m #[(.int p0), (.int p1), (.int p2), (.int p3), (.int p4), (.int p5)] maxLocals) := fun t k => pre569 t (st570 t k)
  have pre598 : own_P p e below T570 (mkF m 51 #[vI p0, vI p1, vI p2, vI p3, vI p4, vI p5, vI v565, vR a570, .unset, .unset, .unset, .unset, .unset, .unset, .unset] [(.int (p0 &&& (64 : Int32)))]) s₁ (entryFrame m #[(.int p0), (.int p1), (.int p2), (.int p3), (.int p4), (.int p5)] maxLocals) := by
   intro t k
   refine pre597 t ?_
   refine XS.goto X570.here hx rfl (pc0 := 13) (pc' := 40) rfl (hb hby at_13) (by decide) (by decide) ?_
   refine XS.astore X570.here hx rfl (hb hby at_40) rfl rfl (l' := #[vI p0, vI p1, vI p2, vI p3, vI p4, vI p5, vI v565, vR a570, .unset, .unset, .unset, .unset, .unset, .unset, .unset]) rfl ?_
   refine XS.iload X570.here hx rfl (hb hby at_42) rfl ?_
   refine XS.ifNo X570.here hx rfl (hb hby at_44) rfl ((if0 _ _).trans (feq (fun z => absurd (z.symm.trans hc8_568) (by decide))).1) ?_
   refine XS.iloadN X570.here hx rfl (hb hby at_47) rfl ?_
   refine XS.bipush X570.here hx rfl (hb hby at_48) ?_
   refine XS.iand X570.here hx rfl (hb hby at_50) rfl ?_
   exact k
  obtain ⟨T607, L607, v605, X607, N607, e607, pre606, hv605⟩ : ∃ (T607 : State) (L607 : List Loc) (v605 : Int32), Stand p l e room_1 (s.setVm T570.vm) m #[(.int p0), (.int p1), (.int p2), (.int p3), (.int p4), (.int p5)] below meth c T607 L607 2 20 ∧ Fr n0 L607 ∧ T607.heap = h570 ∧ (∀ t, Steps p.tables e below (T607.setTop (mkF m 68 #[vI p0, vI p1, vI p2, vI p3, vI p4, vI p5, vI v565, vR a570, .unset, .unset, .unset, .unset, .unset, .unset, .unset] [(.int v605)])) t → Steps p.tables e below (s₁.setTop (entryFrame m #[(.int p0), (.int p1), (.int p2), (.int p3), (.int p4), (.int p5)] maxLocals)) t) ∧ v605 = (if (p0 &&& (64 : Int32)) = (0 : Int32) then (Int32.ofNat ([103, 108, 111, 112] : List Int32).length) else ((p1 &&& (7 : Int32)) % (5 : Int32))) := by
   by_cases hc51_599 : (p0 &&& (64 : Int32)) = (0 : Int32)
   ·
    have pre600 : ∀ t, Steps p.tables e below (T570.setTop (mkF m 56 #[vI p0, vI p1, vI p2, vI p3, vI p4, vI p5, vI v565, vR a570, .unset, .unset, .unset, .unset, .unset, .unset, .unset] [(.ref a570)])) t → Steps p.tables e below (s₁.setTop (entryFrame m #[(.int p0), (.int p1), (.int p2), (.int p3), (.int p4), (.int p5)] maxLocals)) t := by
     intro t k
     refine pre598 t ?_
     refine XS.ifNo X570.here hx rfl (hb hby at_51) rfl ((if0 _ _).trans (teq hc51_599).2) ?_
     refine XS.aload X570.here hx rfl (hb hby at_54) rfl rfl ?_
     exact k
    obtain ⟨cq601, kq601, q601a, q601b, q601c⟩ := isOf hZ570 e570 Ea570
    obtain ⟨_, _, ⟨T601, L601, k601, n601⟩, -, X601, ⟨Lc601, hQ601, l601, y601, z601⟩, st601⟩ := X570.virtualBack hx (y := (⟨"java/lang/String", "length", "()I"⟩ : MethodName)) (z := (⟨"java/lang/String", "length", "()I"⟩ : MethodName)) ho570 (mvT hZ570 (own_w hw 12 rfl)) (mvT hZ570 (own_w hw 13 rfl)) (notFace_of_selects (args := #[]) (mvT hZ570 (own_w hw 15 rfl))) (mvT hZ570 (own_w hw 15 rfl)) (mvT hZ570 (own_w hw 14 rfl)) (by decide) (StrChars.Road.lenW (W := 0) hZ570 (own_wordsLen hw) (kI := 4) (own_w hw 2 rfl) Ea570 Va570 Ca570 Ab570 (own_hcdG (cs := [103, 108, 111, 112]) (by decide)) (own_up [103, 108, 111, 112] (by decide)) Sf571 P5 (Nat.le_of_ble_eq_true rfl) (by decide) (by decide)) q601a q601c (g := (mkF m 56 #[vI p0, vI p1, vI p2, vI p3, vI p4, vI p5, vI v565, vR a570, .unset, .unset, .unset, .unset, .unset, .unset, .unset] [(.ref a570)])) rfl (by rw [hml]; rfl) (Steps.refl _) (argsL := []) (rest := []) (lenOf pd_2 rfl) rfl (by show 2 * 0 + _ ≤ _; exact Nat.le_of_eq rfl) (hb hby at_56) (fun _ _ => ⟨rfl, e570, (by decide : 2 + 0 ≤ _), (by decide : 20 + 0 ≤ _)⟩)
    dsimp only [Pt.U, Pt.locs, Pt.cells, Pt.slots] at X601 l601 y601 z601 st601 hQ601
    subst l601 y601 z601
    obtain ⟨rfl, rfl, e601⟩ := hQ601
    try rw [List.append_nil] at X601
    have pre602 : own_P p e below T601 (mkF m 59 #[vI p0, vI p1, vI p2, vI p3, vI p4, vI p5, vI v565, vR a570, .unset, .unset, .unset, .unset, .unset, .unset, .unset] [(.int (Int32.ofNat ([103, 108, 111, 112] : List Int32).length))]) s₁ (entryFrame m #[(.int p0), (.int p1), (.int p2), (.int p3), (.int p4), (.int p5)] maxLocals) := fun t k => pre600 t (st601.trans k)
    have pre603 : own_P p e below T601 (mkF m 68 #[vI p0, vI p1, vI p2, vI p3, vI p4, vI p5, vI v565, vR a570, .unset, .unset, .unset, .unset, .unset, .unset, .unset] [(.int (Int32.ofNat ([103, 108, 111, 112] : List Int32).length))]) s₁ (entryFrame m #[(.int p0), (.int p1), (.int p2), (.int p3), (.int p4), (.int p5)] maxLocals) := by
     intro t k
     refine pre602 t ?_
     refine XS.goto X601.here hx rfl (pc0 := 59) (pc' := 68) rfl (hb hby at_59) (by decide) (by decide) ?_
     exact k
    exact ⟨T601, _, (Int32.ofNat ([103, 108, 111, 112] : List Int32).length), X601, N0, e601, pre603, by rw [if_pos hc51_599]⟩
   ·
    have pre604 : ∀ t, Steps p.tables e below (T570.setTop (mkF m 68 #[vI p0, vI p1, vI p2, vI p3, vI p4, vI p5, vI v565, vR a570, .unset, .unset, .unset, .unset, .unset, .unset, .unset] [(.int ((p1 &&& (7 : Int32)) % (5 : Int32)))])) t → Steps p.tables e below (s₁.setTop (entryFrame m #[(.int p0), (.int p1), (.int p2), (.int p3), (.int p4), (.int p5)] maxLocals)) t := by
     intro t k
     refine pre598 t ?_
     refine XS.ifYes X570.here hx rfl (pc0 := 51) (pc' := 62) rfl (hb hby at_51) rfl ((if0 _ _).trans (feq hc51_599).2) (by decide) (by decide) ?_
     refine XS.iloadN X570.here hx rfl (hb hby at_62) rfl ?_
     refine XS.bipush X570.here hx rfl (hb hby at_63) ?_
     refine XS.iand X570.here hx rfl (hb hby at_65) rfl ?_
     refine XS.iconst X570.here hx rfl (hb hby at_66) ?_
     refine iremM X570 hx rfl (hb hby at_67) rfl (by decide) ?_
     exact k
    exact ⟨T570, _, ((p1 &&& (7 : Int32)) % (5 : Int32)), X570, N0, e570, pre604, by rw [if_neg hc51_599]⟩
  have pre608 : own_P p e below T607 (mkF m 75 #[vI p0, vI p1, vI p2, vI p3, vI p4, vI p5, vI v565, vR a570, vI v605, .unset, .unset, .unset, .unset, .unset, .unset] [(.int p0), (.int p2), (.ref a570), (.int 0)]) s₁ (entryFrame m #[(.int p0), (.int p1), (.int p2), (.int p3), (.int p4), (.int p5)] maxLocals) := by
   intro t k
   refine pre606 t ?_
   refine XS.istore X607.here hx rfl (hb hby at_68) rfl (l' := #[vI p0, vI p1, vI p2, vI p3, vI p4, vI p5, vI v565, vR a570, vI v605, .unset, .unset, .unset, .unset, .unset, .unset]) rfl ?_
   refine XS.iconst X607.here hx rfl (hb hby at_70) ?_
   refine XS.aload X607.here hx rfl (hb hby at_71) rfl rfl ?_
   refine XS.iloadN X607.here hx rfl (hb hby at_73) rfl ?_
   refine XS.iloadN X607.here hx rfl (hb hby at_74) rfl ?_
   exact k
  obtain ⟨_, _, ⟨T609, L609, k609, n609⟩, -, X609r, hS609r, hg609r, ⟨Lc609, hQ609, l609, y609, z609, hC609⟩, st609⟩ := callSS X607 hx (y := (⟨"com/example/timely_exodus/timelyexodus/plan/LpSolverFromNamePinLaw", "ch", "(ILjava/lang/String;II)C"⟩ : MethodName)) ho570 (mvT hZ570 (own_w hw 8 rfl)) (mvT hZ570 (own_w hw 9 rfl)) (mvT hZ570 (own_w hw 10 rfl)) (mvT hZ570 (own_w hw 11 rfl)) (by decide) (backOfSH (W := 0) (rm1_0 l Z ar0 hw [] a570 p2 p0 ([103, 108, 111, 112]) gc1 gf3 b570 kb570 h570 n0 Z570 P5 rG3 (by decide) (by decide) Sf571 Sf572 Ea570 Va570 Ca570 Ab570) hZ570 (own_w hw 11 rfl) (own_w hw 10 rfl) (by decide) (by decide) hEL CR570.1) (g := (mkF m 75 #[vI p0, vI p1, vI p2, vI p3, vI p4, vI p5, vI v565, vR a570, vI v605, .unset, .unset, .unset, .unset, .unset, .unset] [(.int p0), (.int p2), (.ref a570), (.int 0)])) rfl (by rw [hml]; rfl) (argsL := [(.int 0), (.ref a570), (.int p2), (.int p0)]) (rest := []) (lenOf pd_6 rfl) rfl (by show 2 * 0 + _ ≤ _; exact Nat.le_of_eq rfl) (hb hby at_75) (fun _ _ => ⟨rfl, e607, (by decide : 2 + 2 ≤ _), (by decide : 20 + 28 ≤ _)⟩)
  dsimp only [Pt.U, Pt.locs, Pt.cells, Pt.slots] at X609r hS609r hg609r l609 y609 z609 st609 hQ609 hC609
  subst l609 y609 z609
  obtain ⟨X609, hS609, hZ609, ho609⟩ := rebS (s := s) (vm0 := T570.vm) (n1 := T607.heap.size) hS570 (by rw [e607]; first | exact hk570 | exact Nat.le_refl _) X609r hS609r hg609r hZ570 ho570
  obtain ⟨h609, e609⟩ : ∃ h, T609.heap = h := ⟨_, rfl⟩
  rw [e609] at hQ609
  obtain ⟨rfl, N609q, K609q⟩ := hQ609
  have N609 := Fr.app N607 N609q
  have Z609 : n0 ≤ h609.size := Nat.le_trans Z570 K609q.1
  have K609 : Keep h0 h609 [] := K570.trans K609q (fun x hx => absurd hx List.not_mem_nil)
  have Sf610 : Sta Z h609 "java/lang/String" "COMPACT_STRINGS" "Z" (.int gc1) := own_sta_keep0 Sf571 K609q
  have Sf611 : Sta Z h609 "jdk/internal/util/Preconditions" "SIOOBE_FORMATTER" "Ljava/util/function/BiFunction;" gf3 := own_sta_keep0 Sf572 K609q
  have Sf612 : Sta Z h609 "com/example/timely_exodus/timelyexodus/plan/LpSolver" "GLOP" "Lcom/example/timely_exodus/timelyexodus/plan/LpSolver;" (.ref s_GLOP) := own_sta_keep0 Sf573 K609q
  have Sf613 : Sta Z h609 "com/example/timely_exodus/timelyexodus/plan/LpSolver" "CLP" "Lcom/example/timely_exodus/timelyexodus/plan/LpSolver;" (.ref s_CLP) := own_sta_keep0 Sf574 K609q
  have Sf614 : Sta Z h609 "com/example/timely_exodus/timelyexodus/plan/LpSolver" "PDLP" "Lcom/example/timely_exodus/timelyexodus/plan/LpSolver;" (.ref s_PDLP) := own_sta_keep0 Sf575 K609q
  have Sf615 : Sta Z h609 "com/example/timely_exodus/timelyexodus/plan/LpSolver" "$VALUES" "[Lcom/example/timely_exodus/timelyexodus/plan/LpSolver;" (.ref s__VALUES) := own_sta_keep0 Sf576 K609q
  have Vf616 : Arv Z h609 s__VALUES k__VALUES (.object "com/example/timely_exodus/timelyexodus/plan/LpSolver") (3 : Int32) [(.ref s_GLOP), (.ref s_CLP), (.ref s_PDLP)] .null := (Vf577).keep K609q List.not_mem_nil
  have Ef617 : Exa Z h609 s__VALUES "[Lcom/example/timely_exodus/timelyexodus/plan/LpSolver;" := (Ef578).keep K609q
  have Ef618 : Exa Z h609 s_GLOP "com/example/timely_exodus/timelyexodus/plan/LpSolver" := (Ef579).keep K609q
  have Ff619 : Fld Z h609 s_GLOP "com/example/timely_exodus/timelyexodus/plan/LpSolver" "name" "Ljava/lang/String;" (.ref n_GLOP) := (Ff580).keep K609q List.not_mem_nil
  have Ef620 : Exa Z h609 n_GLOP "java/lang/String" := (Ef581).keep K609q
  have Ff621 : Fld Z h609 n_GLOP "java/lang/String" "value" "[B" (.ref t_GLOP) := (Ff582).keep K609q List.not_mem_nil
  have Ff622 : Fld Z h609 n_GLOP "java/lang/String" "coder" "B" (.int 0) := (Ff583).keep K609q List.not_mem_nil
  have Vf623 : Arv Z h609 t_GLOP k_t_GLOP .byte (4 : Int32) ((([103, 108, 111, 112] : List Int32).map (fun c => c.toInt8.toInt32)).map Value.int) (.int 0) := (Vf584).keep K609q List.not_mem_nil
  have Ef624 : Exa Z h609 s_CLP "com/example/timely_exodus/timelyexodus/plan/LpSolver" := (Ef585).keep K609q
  have Ff625 : Fld Z h609 s_CLP "com/example/timely_exodus/timelyexodus/plan/LpSolver" "name" "Ljava/lang/String;" (.ref n_CLP) := (Ff586).keep K609q List.not_mem_nil
  have Ef626 : Exa Z h609 n_CLP "java/lang/String" := (Ef587).keep K609q
  have Ff627 : Fld Z h609 n_CLP "java/lang/String" "value" "[B" (.ref t_CLP) := (Ff588).keep K609q List.not_mem_nil
  have Ff628 : Fld Z h609 n_CLP "java/lang/String" "coder" "B" (.int 0) := (Ff589).keep K609q List.not_mem_nil
  have Vf629 : Arv Z h609 t_CLP k_t_CLP .byte (3 : Int32) ((([99, 108, 112] : List Int32).map (fun c => c.toInt8.toInt32)).map Value.int) (.int 0) := (Vf590).keep K609q List.not_mem_nil
  have Ef630 : Exa Z h609 s_PDLP "com/example/timely_exodus/timelyexodus/plan/LpSolver" := (Ef591).keep K609q
  have Ff631 : Fld Z h609 s_PDLP "com/example/timely_exodus/timelyexodus/plan/LpSolver" "name" "Ljava/lang/String;" (.ref n_PDLP) := (Ff592).keep K609q List.not_mem_nil
  have Ef632 : Exa Z h609 n_PDLP "java/lang/String" := (Ef593).keep K609q
  have Ff633 : Fld Z h609 n_PDLP "java/lang/String" "value" "[B" (.ref t_PDLP) := (Ff594).keep K609q List.not_mem_nil
  have Ff634 : Fld Z h609 n_PDLP "java/lang/String" "coder" "B" (.int 0) := (Ff595).keep K609q List.not_mem_nil
  have Vf635 : Arv Z h609 t_PDLP k_t_PDLP .byte (4 : Int32) ((([112, 100, 108, 112] : List Int32).map (fun c => c.toInt8.toInt32)).map Value.int) (.int 0) := (Vf596).keep K609q List.not_mem_nil
  have Ef636 : Exa Z h609 a570 "java/lang/String" := (Ea570).keep K609q
  have Ff637 : Fld Z h609 a570 "java/lang/String" "coder" "B" (.int 0) := (Ca570).keep K609q List.not_mem_nil
  have Ff638 : Fld Z h609 a570 "java/lang/String" "value" "[B" (.ref b570) := (Va570).keep K609q List.not_mem_nil
  have Vf639 : Arv Z h609 b570 kb570 .byte (4 : Int32) ((([103, 108, 111, 112] : List Int32).map (fun c => c.toInt8.toInt32)).map Value.int) (.int 0) := (Ab570).keep K609q List.not_mem_nil
  rw [e609] at hC609
  have CR609 := CR570.trans hC609
  have hk609 : T609.heap.size ≤ h609.size := by rw [e609]; exact Nat.le_refl _
  have pre640 : own_P p e below T609 (mkF m 78 #[vI p0, vI p1, vI p2, vI p3, vI p4, vI p5, vI v565, vR a570, vI v605, .unset, .unset, .unset, .unset, .unset, .unset] [(.int (f1_0 p2 p0 ([103, 108, 111, 112])))]) s₁ (entryFrame m #[(.int p0), (.int p1), (.int p2), (.int p3), (.int p4), (.int p5)] maxLocals) := fun t k => pre608 t (st609.trans k)
  obtain ⟨v641, hv641⟩ : ∃ z : Int32, z = (f1_0 p2 p0 ([103, 108, 111, 112])) := ⟨_, rfl⟩
  have pre642 : own_P p e below T609 (mkF m 78 #[vI p0, vI p1, vI p2, vI p3, vI p4, vI p5, vI v565, vR a570, vI v605, .unset, .unset, .unset, .unset, .unset, .unset] [(.int v641)]) s₁ (entryFrame m #[(.int p0), (.int p1), (.int p2), (.int p3), (.int p4), (.int p5)] maxLocals) := by rw [hv641]; exact pre640
  have pre643 : own_P p e below T609 (mkF m 85 #[vI p0, vI p1, vI p2, vI p3, vI p4, vI p5, vI v565, vR a570, vI v605, vI v641, .unset, .unset, .unset, .unset, .unset] [(.int p0), (.int p3), (.ref a570), (.int 1)]) s₁ (entryFrame m #[(.int p0), (.int p1), (.int p2), (.int p3), (.int p4), (.int p5)] maxLocals) := by
   intro t k
   refine pre642 t ?_
   refine XS.istore X609.here hx rfl (hb hby at_78) rfl (l' := #[vI p0, vI p1, vI p2, vI p3, vI p4, vI p5, vI v565, vR a570, vI v605, vI v641, .unset, .unset, .unset, .unset, .unset]) rfl ?_
   refine XS.iconst X609.here hx rfl (hb hby at_80) ?_
   refine XS.aload X609.here hx rfl (hb hby at_81) rfl rfl ?_
   refine XS.iloadN X609.here hx rfl (hb hby at_83) rfl ?_
   refine XS.iloadN X609.here hx rfl (hb hby at_84) rfl ?_
   exact k
  obtain ⟨_, _, ⟨T644, L644, k644, n644⟩, -, X644r, hS644r, hg644r, ⟨Lc644, hQ644, l644, y644, z644, hC644⟩, st644⟩ := callSS X609 hx (y := (⟨"com/example/timely_exodus/timelyexodus/plan/LpSolverFromNamePinLaw", "ch", "(ILjava/lang/String;II)C"⟩ : MethodName)) ho609 (mvT hZ609 (own_w hw 8 rfl)) (mvT hZ609 (own_w hw 9 rfl)) (mvT hZ609 (own_w hw 10 rfl)) (mvT hZ609 (own_w hw 11 rfl)) (by decide) (backOfSH (W := 0) (rm1_1 l Z ar0 hw [] a570 p3 p0 ([103, 108, 111, 112]) gc1 gf3 b570 kb570 h609 n0 Z609 P5 rG3 (by decide) (by decide) Sf610 Sf611 Ef636 Ff638 Ff637 Vf639) hZ609 (own_w hw 11 rfl) (own_w hw 10 rfl) (by decide) (by decide) hEL CR609.1) (g := (mkF m 85 #[vI p0, vI p1, vI p2, vI p3, vI p4, vI p5, vI v565, vR a570, vI v605, vI v641, .unset, .unset, .unset, .unset, .unset] [(.int p0), (.int p3), (.ref a570), (.int 1)])) rfl (by rw [hml]; rfl) (argsL := [(.int 1), (.ref a570), (.int p3), (.int p0)]) (rest := []) (lenOf pd_6 rfl) rfl (by show 2 * 0 + _ ≤ _; exact Nat.le_of_eq rfl) (hb hby at_85) (fun _ _ => ⟨rfl, e609, (by decide : 4 + 2 ≤ _), (by decide : 48 + 28 ≤ _)⟩)
  dsimp only [Pt.U, Pt.locs, Pt.cells, Pt.slots] at X644r hS644r hg644r l644 y644 z644 st644 hQ644 hC644
  subst l644 y644 z644
  obtain ⟨X644, hS644, hZ644, ho644⟩ := rebS (s := s) (vm0 := T609.vm) (n1 := T609.heap.size) hS609 (by rw [e609]; first | exact hk609 | exact Nat.le_refl _) X644r hS644r hg644r hZ609 ho609
  obtain ⟨h644, e644⟩ : ∃ h, T644.heap = h := ⟨_, rfl⟩
  rw [e644] at hQ644
  obtain ⟨rfl, N644q, K644q⟩ := hQ644
  have N644 := Fr.app N609 N644q
  have Z644 : n0 ≤ h644.size := Nat.le_trans Z609 K644q.1
  have K644 : Keep h0 h644 [] := K609.trans K644q (fun x hx => absurd hx List.not_mem_nil)
  have Sf645 : Sta Z h644 "java/lang/String" "COMPACT_STRINGS" "Z" (.int gc1) := own_sta_keep0 Sf610 K644q
  have Sf646 : Sta Z h644 "jdk/internal/util/Preconditions" "SIOOBE_FORMATTER" "Ljava/util/function/BiFunction;" gf3 := own_sta_keep0 Sf611 K644q
  have Sf647 : Sta Z h644 "com/example/timely_exodus/timelyexodus/plan/LpSolver" "GLOP" "Lcom/example/timely_exodus/timelyexodus/plan/LpSolver;" (.ref s_GLOP) := own_sta_keep0 Sf612 K644q
  have Sf648 : Sta Z h644 "com/example/timely_exodus/timelyexodus/plan/LpSolver" "CLP" "Lcom/example/timely_exodus/timelyexodus/plan/LpSolver;" (.ref s_CLP) := own_sta_keep0 Sf613 K644q
  have Sf649 : Sta Z h644 "com/example/timely_exodus/timelyexodus/plan/LpSolver" "PDLP" "Lcom/example/timely_exodus/timelyexodus/plan/LpSolver;" (.ref s_PDLP) := own_sta_keep0 Sf614 K644q
  have Sf650 : Sta Z h644 "com/example/timely_exodus/timelyexodus/plan/LpSolver" "$VALUES" "[Lcom/example/timely_exodus/timelyexodus/plan/LpSolver;" (.ref s__VALUES) := own_sta_keep0 Sf615 K644q
  have Vf651 : Arv Z h644 s__VALUES k__VALUES (.object "com/example/timely_exodus/timelyexodus/plan/LpSolver") (3 : Int32) [(.ref s_GLOP), (.ref s_CLP), (.ref s_PDLP)] .null := (Vf616).keep K644q List.not_mem_nil
  have Ef652 : Exa Z h644 s__VALUES "[Lcom/example/timely_exodus/timelyexodus/plan/LpSolver;" := (Ef617).keep K644q
  have Ef653 : Exa Z h644 s_GLOP "com/example/timely_exodus/timelyexodus/plan/LpSolver" := (Ef618).keep K644q
  have Ff654 : Fld Z h644 s_GLOP "com/example/timely_exodus/timelyexodus/plan/LpSolver" "name" "Ljava/lang/String;" (.ref n_GLOP) := (Ff619).keep K644q List.not_mem_nil
  have Ef655 : Exa Z h644 n_GLOP "java/lang/String" := (Ef620).keep K644q
  have Ff656 : Fld Z h644 n_GLOP "java/lang/String" "value" "[B" (.ref t_GLOP) := (Ff621).keep K644q List.not_mem_nil
  have Ff657 : Fld Z h644 n_GLOP "java/lang/String" "coder" "B" (.int 0) := (Ff622).keep K644q List.not_mem_nil
  have Vf658 : Arv Z h644 t_GLOP k_t_GLOP .byte (4 : Int32) ((([103, 108, 111, 112] : List Int32).map (fun c => c.toInt8.toInt32)).map Value.int) (.int 0) := (Vf623).keep K644q List.not_mem_nil
  have Ef659 : Exa Z h644 s_CLP "com/example/timely_exodus/timelyexodus/plan/LpSolver" := (Ef624).keep K644q
  have Ff660 : Fld Z h644 s_CLP "com/example/timely_exodus/timelyexodus/plan/LpSolver" "name" "Ljava/lang/String;" (.ref n_CLP) := (Ff625).keep K644q List.not_mem_nil
  have Ef661 : Exa Z h644 n_CLP "java/lang/String" := (Ef626).keep K644q
  have Ff662 : Fld Z h644 n_CLP "java/lang/String" "value" "[B" (.ref t_CLP) := (Ff627).keep K644q List.not_mem_nil
  have Ff663 : Fld Z h644 n_CLP "java/lang/String" "coder" "B" (.int 0) := (Ff628).keep K644q List.not_mem_nil
  have Vf664 : Arv Z h644 t_CLP k_t_CLP .byte (3 : Int32) ((([99, 108, 112] : List Int32).map (fun c => c.toInt8.toInt32)).map Value.int) (.int 0) := (Vf629).keep K644q List.not_mem_nil
  have Ef665 : Exa Z h644 s_PDLP "com/example/timely_exodus/timelyexodus/plan/LpSolver" := (Ef630).keep K644q
  have Ff666 : Fld Z h644 s_PDLP "com/example/timely_exodus/timelyexodus/plan/LpSolver" "name" "Ljava/lang/String;" (.ref n_PDLP) := (Ff631).keep K644q List.not_mem_nil
  have Ef667 : Exa Z h644 n_PDLP "java/lang/String" := (Ef632).keep K644q
  have Ff668 : Fld Z h644 n_PDLP "java/lang/String" "value" "[B" (.ref t_PDLP) := (Ff633).keep K644q List.not_mem_nil
  have Ff669 : Fld Z h644 n_PDLP "java/lang/String" "coder" "B" (.int 0) := (Ff634).keep K644q List.not_mem_nil
  have Vf670 : Arv Z h644 t_PDLP k_t_PDLP .byte (4 : Int32) ((([112, 100, 108, 112] : List Int32).map (fun c => c.toInt8.toInt32)).map Value.int) (.int 0) := (Vf635).keep K644q List.not_mem_nil
  have Ef671 : Exa Z h644 a570 "java/lang/String" := (Ef636).keep K644q
  have Ff672 : Fld Z h644 a570 "java/lang/String" "coder" "B" (.int 0) := (Ff637).keep K644q List.not_mem_nil
  have Ff673 : Fld Z h644 a570 "java/lang/String" "value" "[B" (.ref b570) := (Ff638).keep K644q List.not_mem_nil
  have Vf674 : Arv Z h644 b570 kb570 .byte (4 : Int32) ((([103, 108, 111, 112] : List Int32).map (fun c => c.toInt8.toInt32)).map Value.int) (.int 0) := (Vf639).keep K644q List.not_mem_nil
  rw [e644] at hC644
  have CR644 := CR609.trans hC644
  have hk644 : T644.heap.size ≤ h644.size := by rw [e644]; exact Nat.le_refl _
  have pre675 : own_P p e below T644 (mkF m 88 #[vI p0, vI p1, vI p2, vI p3, vI p4, vI p5, vI v565, vR a570, vI v605, vI v641, .unset, .unset, .unset, .unset, .unset] [(.int (f1_1 p3 p0 ([103, 108, 111, 112])))]) s₁ (entryFrame m #[(.int p0), (.int p1), (.int p2), (.int p3), (.int p4), (.int p5)] maxLocals) := fun t k => pre643 t (st644.trans k)
  obtain ⟨v676, hv676⟩ : ∃ z : Int32, z = (f1_1 p3 p0 ([103, 108, 111, 112])) := ⟨_, rfl⟩
  have pre677 : own_P p e below T644 (mkF m 88 #[vI p0, vI p1, vI p2, vI p3, vI p4, vI p5, vI v565, vR a570, vI v605, vI v641, .unset, .unset, .unset, .unset, .unset] [(.int v676)]) s₁ (entryFrame m #[(.int p0), (.int p1), (.int p2), (.int p3), (.int p4), (.int p5)] maxLocals) := by rw [hv676]; exact pre675
  have pre678 : own_P p e below T644 (mkF m 96 #[vI p0, vI p1, vI p2, vI p3, vI p4, vI p5, vI v565, vR a570, vI v605, vI v641, vI v676, .unset, .unset, .unset, .unset] [(.int p0), (.int p4), (.ref a570), (.int 2)]) s₁ (entryFrame m #[(.int p0), (.int p1), (.int p2), (.int p3), (.int p4), (.int p5)] maxLocals) := by
   intro t k
   refine pre677 t ?_
   refine XS.istore X644.here hx rfl (hb hby at_88) rfl (l' := #[vI p0, vI p1, vI p2, vI p3, vI p4, vI p5, vI v565, vR a570, vI v605, vI v641, vI v676, .unset, .unset, .unset, .unset]) rfl ?_
   refine XS.iconst X644.here hx rfl (hb hby at_90) ?_
   refine XS.aload X644.here hx rfl (hb hby at_91) rfl rfl ?_
   refine XS.iload X644.here hx rfl (hb hby at_93) rfl ?_
   refine XS.iloadN X644.here hx rfl (hb hby at_95) rfl ?_
   exact k
  obtain ⟨_, _, ⟨T679, L679, k679, n679⟩, -, X679r, hS679r, hg679r, ⟨Lc679, hQ679, l679, y679, z679, hC679⟩, st679⟩ := callSS X644 hx (y := (⟨"com/example/timely_exodus/timelyexodus/plan/LpSolverFromNamePinLaw", "ch", "(ILjava/lang/String;II)C"⟩ : MethodName)) ho644 (mvT hZ644 (own_w hw 8 rfl)) (mvT hZ644 (own_w hw 9 rfl)) (mvT hZ644 (own_w hw 10 rfl)) (mvT hZ644 (own_w hw 11 rfl)) (by decide) (backOfSH (W := 0) (rm1_2 l Z ar0 hw [] a570 p4 p0 ([103, 108, 111, 112]) gc1 gf3 b570 kb570 h644 n0 Z644 P5 rG3 (by decide) (by decide) Sf645 Sf646 Ef671 Ff673 Ff672 Vf674) hZ644 (own_w hw 11 rfl) (own_w hw 10 rfl) (by decide) (by decide) hEL CR644.1) (g := (mkF m 96 #[vI p0, vI p1, vI p2, vI p3, vI p4, vI p5, vI v565, vR a570, vI v605, vI v641, vI v676, .unset, .unset, .unset, .unset] [(.int p0), (.int p4), (.ref a570), (.int 2)])) rfl (by rw [hml]; rfl) (argsL := [(.int 2), (.ref a570), (.int p4), (.int p0)]) (rest := []) (lenOf pd_6 rfl) rfl (by show 2 * 0 + _ ≤ _; exact Nat.le_of_eq rfl) (hb hby at_96) (fun _ _ => ⟨rfl, e644, (by decide : 6 + 2 ≤ _), (by decide : 76 + 28 ≤ _)⟩)
  dsimp only [Pt.U, Pt.locs, Pt.cells, Pt.slots] at X679r hS679r hg679r l679 y679 z679 st679 hQ679 hC679
  subst l679 y679 z679
  obtain ⟨X679, hS679, hZ679, ho679⟩ := rebS (s := s) (vm0 := T644.vm) (n1 := T644.heap.size) hS644 (by rw [e644]; first | exact hk644 | exact Nat.le_refl _) X679r hS679r hg679r hZ644 ho644
  obtain ⟨h679, e679⟩ : ∃ h, T679.heap = h := ⟨_, rfl⟩
  rw [e679] at hQ679
  obtain ⟨rfl, N679q, K679q⟩ := hQ679
  have N679 := Fr.app N644 N679q
  have Z679 : n0 ≤ h679.size := Nat.le_trans Z644 K679q.1
  have K679 : Keep h0 h679 [] := K644.trans K679q (fun x hx => absurd hx List.not_mem_nil)
  have Sf680 : Sta Z h679 "java/lang/String" "COMPACT_STRINGS" "Z" (.int gc1) := own_sta_keep0 Sf645 K679q
  have Sf681 : Sta Z h679 "jdk/internal/util/Preconditions" "SIOOBE_FORMATTER" "Ljava/util/function/BiFunction;" gf3 := own_sta_keep0 Sf646 K679q
  have Sf682 : Sta Z h679 "com/example/timely_exodus/timelyexodus/plan/LpSolver" "GLOP" "Lcom/example/timely_exodus/timelyexodus/plan/LpSolver;" (.ref s_GLOP) := own_sta_keep0 Sf647 K679q
  have Sf683 : Sta Z h679 "com/example/timely_exodus/timelyexodus/plan/LpSolver" "CLP" "Lcom/example/timely_exodus/timelyexodus/plan/LpSolver;" (.ref s_CLP) := own_sta_keep0 Sf648 K679q
  have Sf684 : Sta Z h679 "com/example/timely_exodus/timelyexodus/plan/LpSolver" "PDLP" "Lcom/example/timely_exodus/timelyexodus/plan/LpSolver;" (.ref s_PDLP) := own_sta_keep0 Sf649 K679q
  have Sf685 : Sta Z h679 "com/example/timely_exodus/timelyexodus/plan/LpSolver" "$VALUES" "[Lcom/example/timely_exodus/timelyexodus/plan/LpSolver;" (.ref s__VALUES) := own_sta_keep0 Sf650 K679q
  have Vf686 : Arv Z h679 s__VALUES k__VALUES (.object "com/example/timely_exodus/timelyexodus/plan/LpSolver") (3 : Int32) [(.ref s_GLOP), (.ref s_CLP), (.ref s_PDLP)] .null := (Vf651).keep K679q List.not_mem_nil
  have Ef687 : Exa Z h679 s__VALUES "[Lcom/example/timely_exodus/timelyexodus/plan/LpSolver;" := (Ef652).keep K679q
  have Ef688 : Exa Z h679 s_GLOP "com/example/timely_exodus/timelyexodus/plan/LpSolver" := (Ef653).keep K679q
  have Ff689 : Fld Z h679 s_GLOP "com/example/timely_exodus/timelyexodus/plan/LpSolver" "name" "Ljava/lang/String;" (.ref n_GLOP) := (Ff654).keep K679q List.not_mem_nil
  have Ef690 : Exa Z h679 n_GLOP "java/lang/String" := (Ef655).keep K679q
  have Ff691 : Fld Z h679 n_GLOP "java/lang/String" "value" "[B" (.ref t_GLOP) := (Ff656).keep K679q List.not_mem_nil
  have Ff692 : Fld Z h679 n_GLOP "java/lang/String" "coder" "B" (.int 0) := (Ff657).keep K679q List.not_mem_nil
  have Vf693 : Arv Z h679 t_GLOP k_t_GLOP .byte (4 : Int32) ((([103, 108, 111, 112] : List Int32).map (fun c => c.toInt8.toInt32)).map Value.int) (.int 0) := (Vf658).keep K679q List.not_mem_nil
  have Ef694 : Exa Z h679 s_CLP "com/example/timely_exodus/timelyexodus/plan/LpSolver" := (Ef659).keep K679q
  have Ff695 : Fld Z h679 s_CLP "com/example/timely_exodus/timelyexodus/plan/LpSolver" "name" "Ljava/lang/String;" (.ref n_CLP) := (Ff660).keep K679q List.not_mem_nil
  have Ef696 : Exa Z h679 n_CLP "java/lang/String" := (Ef661).keep K679q
  have Ff697 : Fld Z h679 n_CLP "java/lang/String" "value" "[B" (.ref t_CLP) := (Ff662).keep K679q List.not_mem_nil
  have Ff698 : Fld Z h679 n_CLP "java/lang/String" "coder" "B" (.int 0) := (Ff663).keep K679q List.not_mem_nil
  have Vf699 : Arv Z h679 t_CLP k_t_CLP .byte (3 : Int32) ((([99, 108, 112] : List Int32).map (fun c => c.toInt8.toInt32)).map Value.int) (.int 0) := (Vf664).keep K679q List.not_mem_nil
  have Ef700 : Exa Z h679 s_PDLP "com/example/timely_exodus/timelyexodus/plan/LpSolver" := (Ef665).keep K679q
  have Ff701 : Fld Z h679 s_PDLP "com/example/timely_exodus/timelyexodus/plan/LpSolver" "name" "Ljava/lang/String;" (.ref n_PDLP) := (Ff666).keep K679q List.not_mem_nil
  have Ef702 : Exa Z h679 n_PDLP "java/lang/String" := (Ef667).keep K679q
  have Ff703 : Fld Z h679 n_PDLP "java/lang/String" "value" "[B" (.ref t_PDLP) := (Ff668).keep K679q List.not_mem_nil
  have Ff704 : Fld Z h679 n_PDLP "java/lang/String" "coder" "B" (.int 0) := (Ff669).keep K679q List.not_mem_nil
  have Vf705 : Arv Z h679 t_PDLP k_t_PDLP .byte (4 : Int32) ((([112, 100, 108, 112] : List Int32).map (fun c => c.toInt8.toInt32)).map Value.int) (.int 0) := (Vf670).keep K679q List.not_mem_nil
  have Ef706 : Exa Z h679 a570 "java/lang/String" := (Ef671).keep K679q
  have Ff707 : Fld Z h679 a570 "java/lang/String" "coder" "B" (.int 0) := (Ff672).keep K679q List.not_mem_nil
  have Ff708 : Fld Z h679 a570 "java/lang/String" "value" "[B" (.ref b570) := (Ff673).keep K679q List.not_mem_nil
  have Vf709 : Arv Z h679 b570 kb570 .byte (4 : Int32) ((([103, 108, 111, 112] : List Int32).map (fun c => c.toInt8.toInt32)).map Value.int) (.int 0) := (Vf674).keep K679q List.not_mem_nil
  rw [e679] at hC679
  have CR679 := CR644.trans hC679
  have hk679 : T679.heap.size ≤ h679.size := by rw [e679]; exact Nat.le_refl _
  have pre710 : own_P p e below T679 (mkF m 99 #[vI p0, vI p1, vI p2, vI p3, vI p4, vI p5, vI v565, vR a570, vI v605, vI v641, vI v676, .unset, .unset, .unset, .unset] [(.int (f1_2 p4 p0 ([103, 108, 111, 112])))]) s₁ (entryFrame m #[(.int p0), (.int p1), (.int p2), (.int p3), (.int p4), (.int p5)] maxLocals) := fun t k => pre678 t (st679.trans k)
  obtain ⟨v711, hv711⟩ : ∃ z : Int32, z = (f1_2 p4 p0 ([103, 108, 111, 112])) := ⟨_, rfl⟩
  have pre712 : own_P p e below T679 (mkF m 99 #[vI p0, vI p1, vI p2, vI p3, vI p4, vI p5, vI v565, vR a570, vI v605, vI v641, vI v676, .unset, .unset, .unset, .unset] [(.int v711)]) s₁ (entryFrame m #[(.int p0), (.int p1), (.int p2), (.int p3), (.int p4), (.int p5)] maxLocals) := by rw [hv711]; exact pre710
  have pre713 : own_P p e below T679 (mkF m 107 #[vI p0, vI p1, vI p2, vI p3, vI p4, vI p5, vI v565, vR a570, vI v605, vI v641, vI v676, vI v711, .unset, .unset, .unset] [(.int p0), (.int p5), (.ref a570), (.int 3)]) s₁ (entryFrame m #[(.int p0), (.int p1), (.int p2), (.int p3), (.int p4), (.int p5)] maxLocals) := by
   intro t k
   refine pre712 t ?_
   refine XS.istore X679.here hx rfl (hb hby at_99) rfl (l' := #[vI p0, vI p1, vI p2, vI p3, vI p4, vI p5, vI v565, vR a570, vI v605, vI v641, vI v676, vI v711, .unset, .unset, .unset]) rfl ?_
   refine XS.iconst X679.here hx rfl (hb hby at_101) ?_
   refine XS.aload X679.here hx rfl (hb hby at_102) rfl rfl ?_
   refine XS.iload X679.here hx rfl (hb hby at_104) rfl ?_
   refine XS.iloadN X679.here hx rfl (hb hby at_106) rfl ?_
   exact k
  obtain ⟨_, _, ⟨T714, L714, k714, n714⟩, -, X714r, hS714r, hg714r, ⟨Lc714, hQ714, l714, y714, z714, hC714⟩, st714⟩ := callSS X679 hx (y := (⟨"com/example/timely_exodus/timelyexodus/plan/LpSolverFromNamePinLaw", "ch", "(ILjava/lang/String;II)C"⟩ : MethodName)) ho679 (mvT hZ679 (own_w hw 8 rfl)) (mvT hZ679 (own_w hw 9 rfl)) (mvT hZ679 (own_w hw 10 rfl)) (mvT hZ679 (own_w hw 11 rfl)) (by decide) (backOfSH (W := 0) (rm1_3 l Z ar0 hw [] a570 p5 p0 ([103, 108, 111, 112]) gc1 gf3 b570 kb570 h679 n0 Z679 P5 rG3 (by decide) (by decide) Sf680 Sf681 Ef706 Ff708 Ff707 Vf709) hZ679 (own_w hw 11 rfl) (own_w hw 10 rfl) (by decide) (by decide) hEL CR679.1) (g := (mkF m 107 #[vI p0, vI p1, vI p2, vI p3, vI p4, vI p5, vI v565, vR a570, vI v605, vI v641, vI v676, vI v711, .unset, .unset, .unset] [(.int p0), (.int p5), (.ref a570), (.int 3)])) rfl (by rw [hml]; rfl) (argsL := [(.int 3), (.ref a570), (.int p5), (.int p0)]) (rest := []) (lenOf pd_6 rfl) rfl (by show 2 * 0 + _ ≤ _; exact Nat.le_of_eq rfl) (hb hby at_107) (fun _ _ => ⟨rfl, e679, (by decide : 8 + 2 ≤ _), (by decide : 104 + 28 ≤ _)⟩)
  dsimp only [Pt.U, Pt.locs, Pt.cells, Pt.slots] at X714r hS714r hg714r l714 y714 z714 st714 hQ714 hC714
  subst l714 y714 z714
  obtain ⟨X714, hS714, hZ714, ho714⟩ := rebS (s := s) (vm0 := T679.vm) (n1 := T679.heap.size) hS679 (by rw [e679]; first | exact hk679 | exact Nat.le_refl _) X714r hS714r hg714r hZ679 ho679
  obtain ⟨h714, e714⟩ : ∃ h, T714.heap = h := ⟨_, rfl⟩
  rw [e714] at hQ714
  obtain ⟨rfl, N714q, K714q⟩ := hQ714
  have N714 := Fr.app N679 N714q
  have Z714 : n0 ≤ h714.size := Nat.le_trans Z679 K714q.1
  have K714 : Keep h0 h714 [] := K679.trans K714q (fun x hx => absurd hx List.not_mem_nil)
  have Sf715 : Sta Z h714 "java/lang/String" "COMPACT_STRINGS" "Z" (.int gc1) := own_sta_keep0 Sf680 K714q
  have Sf716 : Sta Z h714 "jdk/internal/util/Preconditions" "SIOOBE_FORMATTER" "Ljava/util/function/BiFunction;" gf3 := own_sta_keep0 Sf681 K714q
  have Sf717 : Sta Z h714 "com/example/timely_exodus/timelyexodus/plan/LpSolver" "GLOP" "Lcom/example/timely_exodus/timelyexodus/plan/LpSolver;" (.ref s_GLOP) := own_sta_keep0 Sf682 K714q
  have Sf718 : Sta Z h714 "com/example/timely_exodus/timelyexodus/plan/LpSolver" "CLP" "Lcom/example/timely_exodus/timelyexodus/plan/LpSolver;" (.ref s_CLP) := own_sta_keep0 Sf683 K714q
  have Sf719 : Sta Z h714 "com/example/timely_exodus/timelyexodus/plan/LpSolver" "PDLP" "Lcom/example/timely_exodus/timelyexodus/plan/LpSolver;" (.ref s_PDLP) := own_sta_keep0 Sf684 K714q
  have Sf720 : Sta Z h714 "com/example/timely_exodus/timelyexodus/plan/LpSolver" "$VALUES" "[Lcom/example/timely_exodus/timelyexodus/plan/LpSolver;" (.ref s__VALUES) := own_sta_keep0 Sf685 K714q
  have Vf721 : Arv Z h714 s__VALUES k__VALUES (.object "com/example/timely_exodus/timelyexodus/plan/LpSolver") (3 : Int32) [(.ref s_GLOP), (.ref s_CLP), (.ref s_PDLP)] .null := (Vf686).keep K714q List.not_mem_nil
  have Ef722 : Exa Z h714 s__VALUES "[Lcom/example/timely_exodus/timelyexodus/plan/LpSolver;" := (Ef687).keep K714q
  have Ef723 : Exa Z h714 s_GLOP "com/example/timely_exodus/timelyexodus/plan/LpSolver" := (Ef688).keep K714q
  have Ff724 : Fld Z h714 s_GLOP "com/example/timely_exodus/timelyexodus/plan/LpSolver" "name" "Ljava/lang/String;" (.ref n_GLOP) := (Ff689).keep K714q List.not_mem_nil
  have Ef725 : Exa Z h714 n_GLOP "java/lang/String" := (Ef690).keep K714q
  have Ff726 : Fld Z h714 n_GLOP "java/lang/String" "value" "[B" (.ref t_GLOP) := (Ff691).keep K714q List.not_mem_nil
  have Ff727 : Fld Z h714 n_GLOP "java/lang/String" "coder" "B" (.int 0) := (Ff692).keep K714q List.not_mem_nil
  have Vf728 : Arv Z h714 t_GLOP k_t_GLOP .byte (4 : Int32) ((([103, 108, 111, 112] : List Int32).map (fun c => c.toInt8.toInt32)).map Value.int) (.int 0) := (Vf693).keep K714q List.not_mem_nil
  have Ef729 : Exa Z h714 s_CLP "com/example/timely_exodus/timelyexodus/plan/LpSolver" := (Ef694).keep K714q
  have Ff730 : Fld Z h714 s_CLP "com/example/timely_exodus/timelyexodus/plan/LpSolver" "name" "Ljava/lang/String;" (.ref n_CLP) := (Ff695).keep K714q List.not_mem_nil
  have Ef731 : Exa Z h714 n_CLP "java/lang/String" := (Ef696).keep K714q
  have Ff732 : Fld Z h714 n_CLP "java/lang/String" "value" "[B" (.ref t_CLP) := (Ff697).keep K714q List.not_mem_nil
  have Ff733 : Fld Z h714 n_CLP "java/lang/String" "coder" "B" (.int 0) := (Ff698).keep K714q List.not_mem_nil
  have Vf734 : Arv Z h714 t_CLP k_t_CLP .byte (3 : Int32) ((([99, 108, 112] : List Int32).map (fun c => c.toInt8.toInt32)).map Value.int) (.int 0) := (Vf699).keep K714q List.not_mem_nil
  have Ef735 : Exa Z h714 s_PDLP "com/example/timely_exodus/timelyexodus/plan/LpSolver" := (Ef700).keep K714q
  have Ff736 : Fld Z h714 s_PDLP "com/example/timely_exodus/timelyexodus/plan/LpSolver" "name" "Ljava/lang/String;" (.ref n_PDLP) := (Ff701).keep K714q List.not_mem_nil
  have Ef737 : Exa Z h714 n_PDLP "java/lang/String" := (Ef702).keep K714q
  have Ff738 : Fld Z h714 n_PDLP "java/lang/String" "value" "[B" (.ref t_PDLP) := (Ff703).keep K714q List.not_mem_nil
  have Ff739 : Fld Z h714 n_PDLP "java/lang/String" "coder" "B" (.int 0) := (Ff704).keep K714q List.not_mem_nil
  have Vf740 : Arv Z h714 t_PDLP k_t_PDLP .byte (4 : Int32) ((([112, 100, 108, 112] : List Int32).map (fun c => c.toInt8.toInt32)).map Value.int) (.int 0) := (Vf705).keep K714q List.not_mem_nil
  have Ef741 : Exa Z h714 a570 "java/lang/String" := (Ef706).keep K714q
  have Ff742 : Fld Z h714 a570 "java/lang/String" "coder" "B" (.int 0) := (Ff707).keep K714q List.not_mem_nil
  have Ff743 : Fld Z h714 a570 "java/lang/String" "value" "[B" (.ref b570) := (Ff708).keep K714q List.not_mem_nil
  have Vf744 : Arv Z h714 b570 kb570 .byte (4 : Int32) ((([103, 108, 111, 112] : List Int32).map (fun c => c.toInt8.toInt32)).map Value.int) (.int 0) := (Vf709).keep K714q List.not_mem_nil
  rw [e714] at hC714
  have CR714 := CR679.trans hC714
  have hk714 : T714.heap.size ≤ h714.size := by rw [e714]; exact Nat.le_refl _
  have pre745 : own_P p e below T714 (mkF m 110 #[vI p0, vI p1, vI p2, vI p3, vI p4, vI p5, vI v565, vR a570, vI v605, vI v641, vI v676, vI v711, .unset, .unset, .unset] [(.int (f1_3 p5 p0 ([103, 108, 111, 112])))]) s₁ (entryFrame m #[(.int p0), (.int p1), (.int p2), (.int p3), (.int p4), (.int p5)] maxLocals) := fun t k => pre713 t (st714.trans k)
  obtain ⟨v746, hv746⟩ : ∃ z : Int32, z = (f1_3 p5 p0 ([103, 108, 111, 112])) := ⟨_, rfl⟩
  have pre747 : own_P p e below T714 (mkF m 110 #[vI p0, vI p1, vI p2, vI p3, vI p4, vI p5, vI v565, vR a570, vI v605, vI v641, vI v676, vI v711, .unset, .unset, .unset] [(.int v746)]) s₁ (entryFrame m #[(.int p0), (.int p1), (.int p2), (.int p3), (.int p4), (.int p5)] maxLocals) := by rw [hv746]; exact pre745
  have pre748 : own_P p e below T714 (mkF m 138 #[vI p0, vI p1, vI p2, vI p3, vI p4, vI p5, vI v565, vR a570, vI v605, vI v641, vI v676, vI v711, vI v746, .unset, .unset] [(.int v746), (.int v711), (.int v676), (.int v641), (.int v605)]) s₁ (entryFrame m #[(.int p0), (.int p1), (.int p2), (.int p3), (.int p4), (.int p5)] maxLocals) := by
   intro t k
   refine pre747 t ?_
   refine XS.istore X714.here hx rfl (hb hby at_110) rfl (l' := #[vI p0, vI p1, vI p2, vI p3, vI p4, vI p5, vI v565, vR a570, vI v605, vI v641, vI v676, vI v711, vI v746, .unset, .unset]) rfl ?_
   refine XS.iload X714.here hx rfl (hb hby at_112) rfl ?_
   refine XS.ifYes X714.here hx rfl (pc0 := 114) (pc' := 128) rfl (hb hby at_114) rfl ((if0 _ _).trans (feq (fun z => absurd (z.symm.trans hc8_568) (by decide))).2) (by decide) (by decide) ?_
   refine XS.iload X714.here hx rfl (hb hby at_128) rfl ?_
   refine XS.iload X714.here hx rfl (hb hby at_130) rfl ?_
   refine XS.iload X714.here hx rfl (hb hby at_132) rfl ?_
   refine XS.iload X714.here hx rfl (hb hby at_134) rfl ?_
   refine XS.iload X714.here hx rfl (hb hby at_136) rfl ?_
   exact k
  obtain ⟨_, _, ⟨T749, L749, k749, n749⟩, -, X749r, hS749r, hg749r, ⟨Lc749, hQ749, l749, y749, z749, hC749⟩, st749⟩ := callSS X714 hx (y := (⟨"com/example/timely_exodus/timelyexodus/plan/LpSolverFromNamePinLaw", "make", "(ICCCC)Ljava/lang/String;"⟩ : MethodName)) ho714 (mvT hZ714 (own_w hw 28 rfl)) (mvT hZ714 (own_w hw 29 rfl)) (mvT hZ714 (own_w hw 10 rfl)) (mvT hZ714 (own_w hw 30 rfl)) (by decide) (backOfSH (W := 0) (rm5 l Z ar0 hw [] v605 v641 v676 v711 v746 gc1 h714 n0 Z714 P5 (by rw [hv641]; exact own_Rf1_0 (by decide)) (by rw [hv676]; exact own_Rf1_1 (by decide)) (by rw [hv711]; exact own_Rf1_2 (by decide)) (by rw [hv746]; exact own_Rf1_3 (by decide)) Sf715) hZ714 (own_w hw 30 rfl) (own_w hw 10 rfl) (by decide) (by decide) hEL CR714.1) (g := (mkF m 138 #[vI p0, vI p1, vI p2, vI p3, vI p4, vI p5, vI v565, vR a570, vI v605, vI v641, vI v676, vI v711, vI v746, .unset, .unset] [(.int v746), (.int v711), (.int v676), (.int v641), (.int v605)])) rfl (by rw [hml]; rfl) (argsL := [(.int v605), (.int v641), (.int v676), (.int v711), (.int v746)]) (rest := []) (lenOf pd_7 rfl) rfl (by show 2 * 0 + _ ≤ _; exact Nat.le_of_eq rfl) (hb hby at_138) (fun _ _ => ⟨rfl, e714, (by decide : 10 + 6 ≤ _), (by decide : 132 + 12 ≤ _)⟩)
  dsimp only [Pt.U, Pt.locs, Pt.cells, Pt.slots] at X749r hS749r hg749r l749 y749 z749 st749 hQ749 hC749
  subst l749 y749 z749
  obtain ⟨X749, hS749, hZ749, ho749⟩ := rebS (s := s) (vm0 := T714.vm) (n1 := T714.heap.size) hS714 (by rw [e714]; first | exact hk714 | exact Nat.le_refl _) X749r hS749r hg749r hZ714 ho714
  obtain ⟨h749, e749⟩ : ∃ h, T749.heap = h := ⟨_, rfl⟩
  rw [e749] at hQ749
  obtain ⟨b749, b749b, kb749b, rfl, N749q, K749q, y_b749, Ob749_0, Ob749_1, Ob749_2, Ob749b_0⟩ := hQ749
  have N749 := Fr.app N714 N749q
  have ne_s__VALUES_b749 : s__VALUES ≠ b749 := Nat.ne_of_lt (Nat.lt_of_lt_of_le (Vf721).lt y_b749)
  have ne_s_GLOP_b749 : s_GLOP ≠ b749 := Nat.ne_of_lt (Nat.lt_of_lt_of_le (Ef723).lt y_b749)
  have ne_n_GLOP_b749 : n_GLOP ≠ b749 := Nat.ne_of_lt (Nat.lt_of_lt_of_le (Ef725).lt y_b749)
  have ne_t_GLOP_b749 : t_GLOP ≠ b749 := Nat.ne_of_lt (Nat.lt_of_lt_of_le (Vf728).lt y_b749)
  have ne_s_CLP_b749 : s_CLP ≠ b749 := Nat.ne_of_lt (Nat.lt_of_lt_of_le (Ef729).lt y_b749)
  have ne_n_CLP_b749 : n_CLP ≠ b749 := Nat.ne_of_lt (Nat.lt_of_lt_of_le (Ef731).lt y_b749)
  have ne_t_CLP_b749 : t_CLP ≠ b749 := Nat.ne_of_lt (Nat.lt_of_lt_of_le (Vf734).lt y_b749)
  have ne_s_PDLP_b749 : s_PDLP ≠ b749 := Nat.ne_of_lt (Nat.lt_of_lt_of_le (Ef735).lt y_b749)
  have ne_n_PDLP_b749 : n_PDLP ≠ b749 := Nat.ne_of_lt (Nat.lt_of_lt_of_le (Ef737).lt y_b749)
  have ne_t_PDLP_b749 : t_PDLP ≠ b749 := Nat.ne_of_lt (Nat.lt_of_lt_of_le (Vf740).lt y_b749)
  have ne_a570_b749 : a570 ≠ b749 := Nat.ne_of_lt (Nat.lt_of_lt_of_le (Ef741).lt y_b749)
  have ne_b570_b749 : b570 ≠ b749 := Nat.ne_of_lt (Nat.lt_of_lt_of_le (Vf744).lt y_b749)
  have g_b749 : n0 ≤ b749 := Nat.le_trans Z714 y_b749
  have sz_b749 : h0.size ≤ b749 := Nat.le_trans K714.1 y_b749
  have Z749 : n0 ≤ h749.size := Nat.le_trans Z714 K749q.1
  have K749 : Keep h0 h749 [] := K714.trans K749q (fun x hx => absurd hx List.not_mem_nil)
  have Sf750 : Sta Z h749 "java/lang/String" "COMPACT_STRINGS" "Z" (.int gc1) := own_sta_keep0 Sf715 K749q
  have Sf751 : Sta Z h749 "jdk/internal/util/Preconditions" "SIOOBE_FORMATTER" "Ljava/util/function/BiFunction;" gf3 := own_sta_keep0 Sf716 K749q
  have Sf752 : Sta Z h749 "com/example/timely_exodus/timelyexodus/plan/LpSolver" "GLOP" "Lcom/example/timely_exodus/timelyexodus/plan/LpSolver;" (.ref s_GLOP) := own_sta_keep0 Sf717 K749q
  have Sf753 : Sta Z h749 "com/example/timely_exodus/timelyexodus/plan/LpSolver" "CLP" "Lcom/example/timely_exodus/timelyexodus/plan/LpSolver;" (.ref s_CLP) := own_sta_keep0 Sf718 K749q
  have Sf754 : Sta Z h749 "com/example/timely_exodus/timelyexodus/plan/LpSolver" "PDLP" "Lcom/example/timely_exodus/timelyexodus/plan/LpSolver;" (.ref s_PDLP) := own_sta_keep0 Sf719 K749q
  have Sf755 : Sta Z h749 "com/example/timely_exodus/timelyexodus/plan/LpSolver" "$VALUES" "[Lcom/example/timely_exodus/timelyexodus/plan/LpSolver;" (.ref s__VALUES) := own_sta_keep0 Sf720 K749q
  have Vf756 : Arv Z h749 s__VALUES k__VALUES (.object "com/example/timely_exodus/timelyexodus/plan/LpSolver") (3 : Int32) [(.ref s_GLOP), (.ref s_CLP), (.ref s_PDLP)] .null := (Vf721).keep K749q List.not_mem_nil
  have Ef757 : Exa Z h749 s__VALUES "[Lcom/example/timely_exodus/timelyexodus/plan/LpSolver;" := (Ef722).keep K749q
  have Ef758 : Exa Z h749 s_GLOP "com/example/timely_exodus/timelyexodus/plan/LpSolver" := (Ef723).keep K749q
  have Ff759 : Fld Z h749 s_GLOP "com/example/timely_exodus/timelyexodus/plan/LpSolver" "name" "Ljava/lang/String;" (.ref n_GLOP) := (Ff724).keep K749q List.not_mem_nil
  have Ef760 : Exa Z h749 n_GLOP "java/lang/String" := (Ef725).keep K749q
  have Ff761 : Fld Z h749 n_GLOP "java/lang/String" "value" "[B" (.ref t_GLOP) := (Ff726).keep K749q List.not_mem_nil
  have Ff762 : Fld Z h749 n_GLOP "java/lang/String" "coder" "B" (.int 0) := (Ff727).keep K749q List.not_mem_nil
  have Vf763 : Arv Z h749 t_GLOP k_t_GLOP .byte (4 : Int32) ((([103, 108, 111, 112] : List Int32).map (fun c => c.toInt8.toInt32)).map Value.int) (.int 0) := (Vf728).keep K749q List.not_mem_nil
  have Ef764 : Exa Z h749 s_CLP "com/example/timely_exodus/timelyexodus/plan/LpSolver" := (Ef729).keep K749q
  have Ff765 : Fld Z h749 s_CLP "com/example/timely_exodus/timelyexodus/plan/LpSolver" "name" "Ljava/lang/String;" (.ref n_CLP) := (Ff730).keep K749q List.not_mem_nil
  have Ef766 : Exa Z h749 n_CLP "java/lang/String" := (Ef731).keep K749q
  have Ff767 : Fld Z h749 n_CLP "java/lang/String" "value" "[B" (.ref t_CLP) := (Ff732).keep K749q List.not_mem_nil
  have Ff768 : Fld Z h749 n_CLP "java/lang/String" "coder" "B" (.int 0) := (Ff733).keep K749q List.not_mem_nil
  have Vf769 : Arv Z h749 t_CLP k_t_CLP .byte (3 : Int32) ((([99, 108, 112] : List Int32).map (fun c => c.toInt8.toInt32)).map Value.int) (.int 0) := (Vf734).keep K749q List.not_mem_nil
  have Ef770 : Exa Z h749 s_PDLP "com/example/timely_exodus/timelyexodus/plan/LpSolver" := (Ef735).keep K749q
  have Ff771 : Fld Z h749 s_PDLP "com/example/timely_exodus/timelyexodus/plan/LpSolver" "name" "Ljava/lang/String;" (.ref n_PDLP) := (Ff736).keep K749q List.not_mem_nil
  have Ef772 : Exa Z h749 n_PDLP "java/lang/String" := (Ef737).keep K749q
  have Ff773 : Fld Z h749 n_PDLP "java/lang/String" "value" "[B" (.ref t_PDLP) := (Ff738).keep K749q List.not_mem_nil
  have Ff774 : Fld Z h749 n_PDLP "java/lang/String" "coder" "B" (.int 0) := (Ff739).keep K749q List.not_mem_nil
  have Vf775 : Arv Z h749 t_PDLP k_t_PDLP .byte (4 : Int32) ((([112, 100, 108, 112] : List Int32).map (fun c => c.toInt8.toInt32)).map Value.int) (.int 0) := (Vf740).keep K749q List.not_mem_nil
  have Ef776 : Exa Z h749 a570 "java/lang/String" := (Ef741).keep K749q
  have Ff777 : Fld Z h749 a570 "java/lang/String" "coder" "B" (.int 0) := (Ff742).keep K749q List.not_mem_nil
  have Ff778 : Fld Z h749 a570 "java/lang/String" "value" "[B" (.ref b570) := (Ff743).keep K749q List.not_mem_nil
  have Vf779 : Arv Z h749 b570 kb570 .byte (4 : Int32) ((([103, 108, 111, 112] : List Int32).map (fun c => c.toInt8.toInt32)).map Value.int) (.int 0) := (Vf744).keep K749q List.not_mem_nil
  rw [e749] at hC749
  have CR749 := CR714.trans hC749
  have hk749 : T749.heap.size ≤ h749.size := by rw [e749]; exact Nat.le_refl _
  have pre780 : own_P p e below T749 (mkF m 141 #[vI p0, vI p1, vI p2, vI p3, vI p4, vI p5, vI v565, vR a570, vI v605, vI v641, vI v676, vI v711, vI v746, .unset, .unset] [(.ref b749)]) s₁ (entryFrame m #[(.int p0), (.int p1), (.int p2), (.int p3), (.int p4), (.int p5)] maxLocals) := fun t k => pre748 t (st749.trans k)
  have pre781 : own_P p e below T749 (mkF m 145 #[vI p0, vI p1, vI p2, vI p3, vI p4, vI p5, vI v565, vR a570, vI v605, vI v641, vI v676, vI v711, vI v746, vR b749, .unset] [(.ref b749)]) s₁ (entryFrame m #[(.int p0), (.int p1), (.int p2), (.int p3), (.int p4), (.int p5)] maxLocals) := by
   intro t k
   refine pre780 t ?_
   refine XS.astore X749.here hx rfl (hb hby at_141) rfl rfl (l' := #[vI p0, vI p1, vI p2, vI p3, vI p4, vI p5, vI v565, vR a570, vI v605, vI v641, vI v676, vI v711, vI v746, vR b749, .unset]) rfl ?_
   refine XS.aload X749.here hx rfl (hb hby at_143) rfl rfl ?_
   exact k
  obtain ⟨_, _, ⟨T782, L782, k782, n782⟩, -, X782r, hS782r, hg782r, ⟨Lc782, hQ782, l782, y782, z782, hC782⟩, st782⟩ := callSS X749 hx (y := (⟨"com/example/timely_exodus/timelyexodus/plan/LpSolverFromNamePinLaw", "ref", "(Ljava/lang/String;)Lcom/example/timely_exodus/timelyexodus/plan/LpSolver;"⟩ : MethodName)) ho749 (mvT hZ749 (own_w hw 53 rfl)) (mvT hZ749 (own_w hw 54 rfl)) (mvT hZ749 (own_w hw 10 rfl)) (mvT hZ749 (own_w hw 55 rfl)) (by decide) (backOfSH (W := 0) (rm12_y l Z ar0 hw [] b749 (own_cs v605 v641 v676 v711 v746) gc1 b749b kb749b s_GLOP s_CLP s_PDLP h749 n0 Z749 P5 (own_hpcs (by rw [hv641]; exact own_Rf1_0 (by decide)) (by rw [hv676]; exact own_Rf1_1 (by decide)) (by rw [hv711]; exact own_Rf1_2 (by decide)) (by rw [hv746]; exact own_Rf1_3 (by decide))) own_hlcs Sf750 Ob749_0 Ob749_1 Ob749_2 Ob749b_0 Sf752 Sf753 Sf754) hZ749 (own_w hw 55 rfl) (own_w hw 10 rfl) (by decide) (by decide) hEL CR749.1) (g := (mkF m 145 #[vI p0, vI p1, vI p2, vI p3, vI p4, vI p5, vI v565, vR a570, vI v605, vI v641, vI v676, vI v711, vI v746, vR b749, .unset] [(.ref b749)])) rfl (by rw [hml]; rfl) (argsL := [(.ref b749)]) (rest := []) (lenOf pd_8 rfl) rfl (by show 2 * 0 + _ ≤ _; exact Nat.le_of_eq rfl) (hb hby at_145) (fun _ _ => ⟨rfl, e749, (by decide : 16 + 6 ≤ _), (by decide : 144 + 56 ≤ _)⟩)
  dsimp only [Pt.U, Pt.locs, Pt.cells, Pt.slots] at X782r hS782r hg782r l782 y782 z782 st782 hQ782 hC782
  subst l782 y782 z782
  obtain ⟨X782, hS782, hZ782, ho782⟩ := rebS (s := s) (vm0 := T749.vm) (n1 := T749.heap.size) hS749 (by rw [e749]; first | exact hk749 | exact Nat.le_refl _) X782r hS782r hg782r hZ749 ho749
  obtain ⟨h782, e782⟩ : ∃ h, T782.heap = h := ⟨_, rfl⟩
  rw [e782] at hQ782
  obtain ⟨rfl, N782q, K782q⟩ := hQ782
  have N782 := Fr.app N749 N782q
  have Z782 : n0 ≤ h782.size := Nat.le_trans Z749 K782q.1
  have K782 : Keep h0 h782 [] := K749.trans K782q (fun x hx => absurd hx List.not_mem_nil)
  have Sf783 : Sta Z h782 "java/lang/String" "COMPACT_STRINGS" "Z" (.int gc1) := own_sta_keep0 Sf750 K782q
  have Sf784 : Sta Z h782 "jdk/internal/util/Preconditions" "SIOOBE_FORMATTER" "Ljava/util/function/BiFunction;" gf3 := own_sta_keep0 Sf751 K782q
  have Sf785 : Sta Z h782 "com/example/timely_exodus/timelyexodus/plan/LpSolver" "GLOP" "Lcom/example/timely_exodus/timelyexodus/plan/LpSolver;" (.ref s_GLOP) := own_sta_keep0 Sf752 K782q
  have Sf786 : Sta Z h782 "com/example/timely_exodus/timelyexodus/plan/LpSolver" "CLP" "Lcom/example/timely_exodus/timelyexodus/plan/LpSolver;" (.ref s_CLP) := own_sta_keep0 Sf753 K782q
  have Sf787 : Sta Z h782 "com/example/timely_exodus/timelyexodus/plan/LpSolver" "PDLP" "Lcom/example/timely_exodus/timelyexodus/plan/LpSolver;" (.ref s_PDLP) := own_sta_keep0 Sf754 K782q
  have Sf788 : Sta Z h782 "com/example/timely_exodus/timelyexodus/plan/LpSolver" "$VALUES" "[Lcom/example/timely_exodus/timelyexodus/plan/LpSolver;" (.ref s__VALUES) := own_sta_keep0 Sf755 K782q
  have Vf789 : Arv Z h782 s__VALUES k__VALUES (.object "com/example/timely_exodus/timelyexodus/plan/LpSolver") (3 : Int32) [(.ref s_GLOP), (.ref s_CLP), (.ref s_PDLP)] .null := (Vf756).keep K782q List.not_mem_nil
  have Ef790 : Exa Z h782 s__VALUES "[Lcom/example/timely_exodus/timelyexodus/plan/LpSolver;" := (Ef757).keep K782q
  have Ef791 : Exa Z h782 s_GLOP "com/example/timely_exodus/timelyexodus/plan/LpSolver" := (Ef758).keep K782q
  have Ff792 : Fld Z h782 s_GLOP "com/example/timely_exodus/timelyexodus/plan/LpSolver" "name" "Ljava/lang/String;" (.ref n_GLOP) := (Ff759).keep K782q List.not_mem_nil
  have Ef793 : Exa Z h782 n_GLOP "java/lang/String" := (Ef760).keep K782q
  have Ff794 : Fld Z h782 n_GLOP "java/lang/String" "value" "[B" (.ref t_GLOP) := (Ff761).keep K782q List.not_mem_nil
  have Ff795 : Fld Z h782 n_GLOP "java/lang/String" "coder" "B" (.int 0) := (Ff762).keep K782q List.not_mem_nil
  have Vf796 : Arv Z h782 t_GLOP k_t_GLOP .byte (4 : Int32) ((([103, 108, 111, 112] : List Int32).map (fun c => c.toInt8.toInt32)).map Value.int) (.int 0) := (Vf763).keep K782q List.not_mem_nil
  have Ef797 : Exa Z h782 s_CLP "com/example/timely_exodus/timelyexodus/plan/LpSolver" := (Ef764).keep K782q
  have Ff798 : Fld Z h782 s_CLP "com/example/timely_exodus/timelyexodus/plan/LpSolver" "name" "Ljava/lang/String;" (.ref n_CLP) := (Ff765).keep K782q List.not_mem_nil
  have Ef799 : Exa Z h782 n_CLP "java/lang/String" := (Ef766).keep K782q
  have Ff800 : Fld Z h782 n_CLP "java/lang/String" "value" "[B" (.ref t_CLP) := (Ff767).keep K782q List.not_mem_nil
  have Ff801 : Fld Z h782 n_CLP "java/lang/String" "coder" "B" (.int 0) := (Ff768).keep K782q List.not_mem_nil
  have Vf802 : Arv Z h782 t_CLP k_t_CLP .byte (3 : Int32) ((([99, 108, 112] : List Int32).map (fun c => c.toInt8.toInt32)).map Value.int) (.int 0) := (Vf769).keep K782q List.not_mem_nil
  have Ef803 : Exa Z h782 s_PDLP "com/example/timely_exodus/timelyexodus/plan/LpSolver" := (Ef770).keep K782q
  have Ff804 : Fld Z h782 s_PDLP "com/example/timely_exodus/timelyexodus/plan/LpSolver" "name" "Ljava/lang/String;" (.ref n_PDLP) := (Ff771).keep K782q List.not_mem_nil
  have Ef805 : Exa Z h782 n_PDLP "java/lang/String" := (Ef772).keep K782q
  have Ff806 : Fld Z h782 n_PDLP "java/lang/String" "value" "[B" (.ref t_PDLP) := (Ff773).keep K782q List.not_mem_nil
  have Ff807 : Fld Z h782 n_PDLP "java/lang/String" "coder" "B" (.int 0) := (Ff774).keep K782q List.not_mem_nil
  have Vf808 : Arv Z h782 t_PDLP k_t_PDLP .byte (4 : Int32) ((([112, 100, 108, 112] : List Int32).map (fun c => c.toInt8.toInt32)).map Value.int) (.int 0) := (Vf775).keep K782q List.not_mem_nil
  have Ef809 : Exa Z h782 a570 "java/lang/String" := (Ef776).keep K782q
  have Ff810 : Fld Z h782 a570 "java/lang/String" "coder" "B" (.int 0) := (Ff777).keep K782q List.not_mem_nil
  have Ff811 : Fld Z h782 a570 "java/lang/String" "value" "[B" (.ref b570) := (Ff778).keep K782q List.not_mem_nil
  have Vf812 : Arv Z h782 b570 kb570 .byte (4 : Int32) ((([103, 108, 111, 112] : List Int32).map (fun c => c.toInt8.toInt32)).map Value.int) (.int 0) := (Vf779).keep K782q List.not_mem_nil
  have Ef813 : Exa Z h782 b749 "java/lang/String" := (Ob749_0).keep K782q
  have Ff814 : Fld Z h782 b749 "java/lang/String" "value" "[B" (.ref b749b) := (Ob749_1).keep K782q List.not_mem_nil
  have Ff815 : Fld Z h782 b749 "java/lang/String" "coder" "B" (.int 0) := (Ob749_2).keep K782q List.not_mem_nil
  have Vf816 : Arv Z h782 b749b kb749b .byte (Int32.ofNat (own_cs v605 v641 v676 v711 v746).length) ((((own_cs v605 v641 v676 v711 v746) : List Int32).map (fun c => c.toInt8.toInt32)).map Value.int) (.int 0) := (Ob749b_0).keep K782q List.not_mem_nil
  rw [e782] at hC782
  have CR782 := CR749.trans hC782
  have hk782 : T782.heap.size ≤ h782.size := by rw [e782]; exact Nat.le_refl _
  have pre817 : own_P p e below T782 (mkF m 148 #[vI p0, vI p1, vI p2, vI p3, vI p4, vI p5, vI v565, vR a570, vI v605, vI v641, vI v676, vI v711, vI v746, vR b749, .unset] [(f12_y (own_cs v605 v641 v676 v711 v746) s_GLOP s_CLP s_PDLP)]) s₁ (entryFrame m #[(.int p0), (.int p1), (.int p2), (.int p3), (.int p4), (.int p5)] maxLocals) := fun t k => pre781 t (st782.trans k)
  obtain ⟨w818, hw818⟩ : ∃ z : Value, z = (f12_y (own_cs v605 v641 v676 v711 v746) s_GLOP s_CLP s_PDLP) := ⟨_, rfl⟩
  have pre819 : own_P p e below T782 (mkF m 148 #[vI p0, vI p1, vI p2, vI p3, vI p4, vI p5, vI v565, vR a570, vI v605, vI v641, vI v676, vI v711, vI v746, vR b749, .unset] [w818]) s₁ (entryFrame m #[(.int p0), (.int p1), (.int p2), (.int p3), (.int p4), (.int p5)] maxLocals) := by rw [hw818]; exact pre817
  have hr_w818 : w818.isRef = true := by rw [hw818]; exact own_r_f12_y
  have pre820 : own_P p e below T782 (mkF m 152 #[vI p0, vI p1, vI p2, vI p3, vI p4, vI p5, vI v565, vR a570, vI v605, vI v641, vI v676, vI v711, vI v746, vR b749, .val w818] [(.ref b749)]) s₁ (entryFrame m #[(.int p0), (.int p1), (.int p2), (.int p3), (.int p4), (.int p5)] maxLocals) := by
   intro t k
   refine pre819 t ?_
   refine XS.astore X782.here hx rfl (hb hby at_148) rfl (by first | exact hr_w818 | rfl) (l' := #[vI p0, vI p1, vI p2, vI p3, vI p4, vI p5, vI v565, vR a570, vI v605, vI v641, vI v676, vI v711, vI v746, vR b749, .val w818]) (by rcases own_rc hr_w818 with q | ⟨b, q⟩ <;> rw [q] <;> rfl) ?_
   refine XS.aload X782.here hx rfl (hb hby at_150) rfl rfl ?_
   exact k
  obtain ⟨_, _, ⟨T821, L821, k821, n821⟩, -, X821, ⟨Lc821, hQ821, l821, y821, z821⟩, st821⟩ := Jvm.LawKit.callS X782 hx (y := (⟨"com/example/timely_exodus/timelyexodus/plan/LpSolver", "fromName", "(Ljava/lang/String;)Lcom/example/timely_exodus/timelyexodus/plan/LpSolver;"⟩ : MethodName)) ho782 (mvT hZ782 (own_w hw 69 rfl)) (mvT hZ782 (own_w hw 70 rfl)) (mvT hZ782 (own_w hw 71 rfl)) (mvT hZ782 (own_w hw 72 rfl)) (by decide) (backOf (W := 0) (rm15_y l Z ar0 hw [] b749 (own_cs v605 v641 v676 v711 v746) gc1 b749b kb749b s__VALUES k__VALUES s_GLOP s_CLP s_PDLP n_GLOP t_GLOP k_t_GLOP n_CLP t_CLP k_t_CLP n_PDLP t_PDLP k_t_PDLP h782 n0 Z782 P5 (own_hpcs (by rw [hv641]; exact own_Rf1_0 (by decide)) (by rw [hv676]; exact own_Rf1_1 (by decide)) (by rw [hv711]; exact own_Rf1_2 (by decide)) (by rw [hv746]; exact own_Rf1_3 (by decide))) own_hlcs Sf783 Ef813 Ff814 Ff815 Vf816 Sf788 Vf789 Ef790 Ef791 Ff792 Ef793 Ff794 Ff795 Vf796 Ef797 Ff798 Ef799 Ff800 Ff801 Vf802 Ef803 Ff804 Ef805 Ff806 Ff807 Vf808) hZ782 (own_w hw 72 rfl) (own_w hw 71 rfl) (by decide) (by decide)) (g := (mkF m 152 #[vI p0, vI p1, vI p2, vI p3, vI p4, vI p5, vI v565, vR a570, vI v605, vI v641, vI v676, vI v711, vI v746, vR b749, .val w818] [(.ref b749)])) rfl (by rw [hml]; rfl) (argsL := [(.ref b749)]) (rest := []) (lenOf pd_8 rfl) rfl (by show 2 * 0 + _ ≤ _; exact Nat.le_of_eq rfl) (hb hby at_152) (fun _ _ => ⟨rfl, e782, (by decide : 22 + 1 ≤ _), (by decide : 200 + 3 ≤ _)⟩)
  dsimp only [Pt.U, Pt.locs, Pt.cells, Pt.slots] at X821 l821 y821 z821 st821 hQ821
  subst l821 y821 z821
  obtain ⟨h821, e821⟩ : ∃ h, T821.heap = h := ⟨_, rfl⟩
  rw [e821] at hQ821
  obtain ⟨rfl, N821q, K821q⟩ := hQ821
  have N821 := Fr.app N782 N821q
  have Z821 : n0 ≤ h821.size := Nat.le_trans Z782 K821q.1
  have hk821 := Nat.le_trans hk782 K821q.1
  have K821 : Keep h0 h821 [] := K782.trans K821q (fun x hx => absurd hx List.not_mem_nil)
  have CR821 := CR782.trans (CHr.keep K821q sf0 CR782.1)
  have Sf822 : Sta Z h821 "java/lang/String" "COMPACT_STRINGS" "Z" (.int gc1) := own_sta_keep0 Sf783 K821q
  have Sf823 : Sta Z h821 "jdk/internal/util/Preconditions" "SIOOBE_FORMATTER" "Ljava/util/function/BiFunction;" gf3 := own_sta_keep0 Sf784 K821q
  have Sf824 : Sta Z h821 "com/example/timely_exodus/timelyexodus/plan/LpSolver" "GLOP" "Lcom/example/timely_exodus/timelyexodus/plan/LpSolver;" (.ref s_GLOP) := own_sta_keep0 Sf785 K821q
  have Sf825 : Sta Z h821 "com/example/timely_exodus/timelyexodus/plan/LpSolver" "CLP" "Lcom/example/timely_exodus/timelyexodus/plan/LpSolver;" (.ref s_CLP) := own_sta_keep0 Sf786 K821q
  have Sf826 : Sta Z h821 "com/example/timely_exodus/timelyexodus/plan/LpSolver" "PDLP" "Lcom/example/timely_exodus/timelyexodus/plan/LpSolver;" (.ref s_PDLP) := own_sta_keep0 Sf787 K821q
  have Sf827 : Sta Z h821 "com/example/timely_exodus/timelyexodus/plan/LpSolver" "$VALUES" "[Lcom/example/timely_exodus/timelyexodus/plan/LpSolver;" (.ref s__VALUES) := own_sta_keep0 Sf788 K821q
  have Vf828 : Arv Z h821 s__VALUES k__VALUES (.object "com/example/timely_exodus/timelyexodus/plan/LpSolver") (3 : Int32) [(.ref s_GLOP), (.ref s_CLP), (.ref s_PDLP)] .null := (Vf789).keep K821q List.not_mem_nil
  have Ef829 : Exa Z h821 s__VALUES "[Lcom/example/timely_exodus/timelyexodus/plan/LpSolver;" := (Ef790).keep K821q
  have Ef830 : Exa Z h821 s_GLOP "com/example/timely_exodus/timelyexodus/plan/LpSolver" := (Ef791).keep K821q
  have Ff831 : Fld Z h821 s_GLOP "com/example/timely_exodus/timelyexodus/plan/LpSolver" "name" "Ljava/lang/String;" (.ref n_GLOP) := (Ff792).keep K821q List.not_mem_nil
  have Ef832 : Exa Z h821 n_GLOP "java/lang/String" := (Ef793).keep K821q
  have Ff833 : Fld Z h821 n_GLOP "java/lang/String" "value" "[B" (.ref t_GLOP) := (Ff794).keep K821q List.not_mem_nil
  have Ff834 : Fld Z h821 n_GLOP "java/lang/String" "coder" "B" (.int 0) := (Ff795).keep K821q List.not_mem_nil
  have Vf835 : Arv Z h821 t_GLOP k_t_GLOP .byte (4 : Int32) ((([103, 108, 111, 112] : List Int32).map (fun c => c.toInt8.toInt32)).map Value.int) (.int 0) := (Vf796).keep K821q List.not_mem_nil
  have Ef836 : Exa Z h821 s_CLP "com/example/timely_exodus/timelyexodus/plan/LpSolver" := (Ef797).keep K821q
  have Ff837 : Fld Z h821 s_CLP "com/example/timely_exodus/timelyexodus/plan/LpSolver" "name" "Ljava/lang/String;" (.ref n_CLP) := (Ff798).keep K821q List.not_mem_nil
  have Ef838 : Exa Z h821 n_CLP "java/lang/String" := (Ef799).keep K821q
  have Ff839 : Fld Z h821 n_CLP "java/lang/String" "value" "[B" (.ref t_CLP) := (Ff800).keep K821q List.not_mem_nil
  have Ff840 : Fld Z h821 n_CLP "java/lang/String" "coder" "B" (.int 0) := (Ff801).keep K821q List.not_mem_nil
  have Vf841 : Arv Z h821 t_CLP k_t_CLP .byte (3 : Int32) ((([99, 108, 112] : List Int32).map (fun c => c.toInt8.toInt32)).map Value.int) (.int 0) := (Vf802).keep K821q List.not_mem_nil
  have Ef842 : Exa Z h821 s_PDLP "com/example/timely_exodus/timelyexodus/plan/LpSolver" := (Ef803).keep K821q
  have Ff843 : Fld Z h821 s_PDLP "com/example/timely_exodus/timelyexodus/plan/LpSolver" "name" "Ljava/lang/String;" (.ref n_PDLP) := (Ff804).keep K821q List.not_mem_nil
  have Ef844 : Exa Z h821 n_PDLP "java/lang/String" := (Ef805).keep K821q
  have Ff845 : Fld Z h821 n_PDLP "java/lang/String" "value" "[B" (.ref t_PDLP) := (Ff806).keep K821q List.not_mem_nil
  have Ff846 : Fld Z h821 n_PDLP "java/lang/String" "coder" "B" (.int 0) := (Ff807).keep K821q List.not_mem_nil
  have Vf847 : Arv Z h821 t_PDLP k_t_PDLP .byte (4 : Int32) ((([112, 100, 108, 112] : List Int32).map (fun c => c.toInt8.toInt32)).map Value.int) (.int 0) := (Vf808).keep K821q List.not_mem_nil
  have Ef848 : Exa Z h821 a570 "java/lang/String" := (Ef809).keep K821q
  have Ff849 : Fld Z h821 a570 "java/lang/String" "coder" "B" (.int 0) := (Ff810).keep K821q List.not_mem_nil
  have Ff850 : Fld Z h821 a570 "java/lang/String" "value" "[B" (.ref b570) := (Ff811).keep K821q List.not_mem_nil
  have Vf851 : Arv Z h821 b570 kb570 .byte (4 : Int32) ((([103, 108, 111, 112] : List Int32).map (fun c => c.toInt8.toInt32)).map Value.int) (.int 0) := (Vf812).keep K821q List.not_mem_nil
  have Ef852 : Exa Z h821 b749 "java/lang/String" := (Ef813).keep K821q
  have Ff853 : Fld Z h821 b749 "java/lang/String" "value" "[B" (.ref b749b) := (Ff814).keep K821q List.not_mem_nil
  have Ff854 : Fld Z h821 b749 "java/lang/String" "coder" "B" (.int 0) := (Ff815).keep K821q List.not_mem_nil
  have Vf855 : Arv Z h821 b749b kb749b .byte (Int32.ofNat (own_cs v605 v641 v676 v711 v746).length) ((((own_cs v605 v641 v676 v711 v746) : List Int32).map (fun c => c.toInt8.toInt32)).map Value.int) (.int 0) := (Vf816).keep K821q List.not_mem_nil
  have pre856 : own_P p e below T821 (mkF m 155 #[vI p0, vI p1, vI p2, vI p3, vI p4, vI p5, vI v565, vR a570, vI v605, vI v641, vI v676, vI v711, vI v746, vR b749, .val w818] [(f15_y (own_cs v605 v641 v676 v711 v746) s_GLOP s_CLP s_PDLP)]) s₁ (entryFrame m #[(.int p0), (.int p1), (.int p2), (.int p3), (.int p4), (.int p5)] maxLocals) := fun t k => pre820 t (st821 t k)
  obtain ⟨w857, hw857⟩ : ∃ z : Value, z = (f15_y (own_cs v605 v641 v676 v711 v746) s_GLOP s_CLP s_PDLP) := ⟨_, rfl⟩
  have pre858 : own_P p e below T821 (mkF m 155 #[vI p0, vI p1, vI p2, vI p3, vI p4, vI p5, vI v565, vR a570, vI v605, vI v641, vI v676, vI v711, vI v746, vR b749, .val w818] [w857]) s₁ (entryFrame m #[(.int p0), (.int p1), (.int p2), (.int p3), (.int p4), (.int p5)] maxLocals) := by rw [hw857]; exact pre856
  have hr_w857 : w857.isRef = true := by rw [hw857]; exact own_r_f15_y
  have pre859 : own_P p e below T821 (mkF m 157 #[vI p0, vI p1, vI p2, vI p3, vI p4, vI p5, vI v565, vR a570, vI v605, vI v641, vI v676, vI v711, vI v746, vR b749, .val w818] [w818, w857]) s₁ (entryFrame m #[(.int p0), (.int p1), (.int p2), (.int p3), (.int p4), (.int p5)] maxLocals) := by
   intro t k
   refine pre858 t ?_
   refine XS.aload X821.here hx rfl (hb hby at_155) rfl (by first | exact hr_w818 | rfl) ?_
   exact k
  by_cases hc157_860 : (w857 : Value) = w818
  ·
   obtain ⟨fs, hr, hrun, hended, hRW⟩ := X821.leaveW (s := s) (vm₁ := T782.vm) hS782 (by rw [e821]; first | exact hk821 | exact Nat.le_refl _) (v := some (.int 1)) (fun h => by rw [Bd.returns] at h; cases h)
   refine ⟨_, _, pre859 _ ?_, hrun, hended, _, _, rfl, ?_, hRW.1, hRW.2.1, hRW.2.2.1, hRW.2.2.2.mono (by decide) (by decide)⟩
   ·
    refine Jvm.RoadKit.acmp (g := (mkF m 157 #[vI p0, vI p1, vI p2, vI p3, vI p4, vI p5, vI v565, vR a570, vI v605, vI v641, vI v676, vI v711, vI v746, vR b749, .val w818] [w818, w857])) X821 hx rfl hr_w857 hr_w818 (pc0 := 157) (pc' := 160) (same := true) rfl (hb hby at_157) rfl (decide_eq_true hc157_860) (by decide) (by decide) ?_
    refine XS.iconst X821.here hx rfl (hb hby at_160) ?_
    refine XS.goto X821.here hx rfl (pc0 := 161) (pc' := 165) rfl (hb hby at_161) (by decide) (by decide) ?_
    exact retN X821 hx (t := .boolean) Bd.returns (by simp) (hb hby at_165) hr
   ·
    show Q0 Z p0 p1 p2 p3 p4 p5 gc1 gf3 s_GLOP s_CLP s_PDLP s__VALUES k__VALUES n_GLOP t_GLOP k_t_GLOP n_CLP t_CLP k_t_CLP n_PDLP t_PDLP k_t_PDLP h0 n0 _ T821.heap _
    rw [e821]
    exact ⟨rfl, N821⟩
  ·
   have pre861 : ∀ t, Steps p.tables e below (T821.setTop (mkF m 165 #[vI p0, vI p1, vI p2, vI p3, vI p4, vI p5, vI v565, vR a570, vI v605, vI v641, vI v676, vI v711, vI v746, vR b749, .val w818] [(.int 0)])) t → Steps p.tables e below (s₁.setTop (entryFrame m #[(.int p0), (.int p1), (.int p2), (.int p3), (.int p4), (.int p5)] maxLocals)) t := by
    intro t k
    refine pre859 t ?_
    refine Jvm.RoadKit.acmp (g := (mkF m 157 #[vI p0, vI p1, vI p2, vI p3, vI p4, vI p5, vI v565, vR a570, vI v605, vI v641, vI v676, vI v711, vI v746, vR b749, .val w818] [w818, w857])) X821 hx rfl hr_w857 hr_w818 (pc0 := 157) (pc' := 164) (same := false) rfl (hb hby at_157) rfl (decide_eq_false hc157_860) (by decide) (by decide) ?_
    refine XS.iconst X821.here hx rfl (hb hby at_164) ?_
    exact k
   exact (own_leaf1 rG3 P5 hv565 hc8_568 hv605 hv641 hv676 hv711 hv746 hw818 hw857 hc157_860).elim
 ·
  have pre862 : ∀ t, Steps p.tables e below (s₁.setTop (mkF m 19 #[vI p0, vI p1, vI p2, vI p3, vI p4, vI p5, vI v565, .unset, .unset, .unset, .unset, .unset, .unset, .unset, .unset] [(.int 2), (.int v565)])) t → Steps p.tables e below (s₁.setTop (entryFrame m #[(.int p0), (.int p1), (.int p2), (.int p3), (.int p4), (.int p5)] maxLocals)) t := by
   intro t k
   refine pre567 t ?_
   refine XS.icmpYes X0.here hx rfl (pc0 := 8) (pc' := 16) rfl (hb hby at_8) rfl (feq hc8_568).2 (by decide) (by decide) ?_
   refine XS.iload X0.here hx rfl (hb hby at_16) rfl ?_
   refine XS.iconst X0.here hx rfl (hb hby at_18) ?_
   exact k
  by_cases hc19_863 : v565 = (2 : Int32)
  ·
   have pre864 : ∀ t, Steps p.tables e below (s₁.setTop (mkF m 22 #[vI p0, vI p1, vI p2, vI p3, vI p4, vI p5, vI v565, .unset, .unset, .unset, .unset, .unset, .unset, .unset, .unset] [])) t → Steps p.tables e below (s₁.setTop (entryFrame m #[(.int p0), (.int p1), (.int p2), (.int p3), (.int p4), (.int p5)] maxLocals)) t := by
    intro t k
    refine pre862 t ?_
    refine XS.icmpNo X0.here hx rfl (hb hby at_19) rfl (teq hc19_863).2 ?_
    exact k
   obtain ⟨a865, T865, h865, k865, b865, kb865, X865, e865, E865, hS865, hk865, hZ865, ho865, Ea865, Ca865, Va865, Ab865, la865, lb865, hC865, -, hn865, st865⟩ := ldcCH (s := s) (vm0 := s.vm) X0 hx hZ hown (own_w hw 67 rfl) (own_strW hw) e0 hS0 (Nat.zero_le _) hEL (List.mem_of_getElem? (i := 1) rfl) hCR0.1 (vs := [(.int 99), (.int 108), (.int 112)]) (z := (3 : Int32)) ⟨by decide, rfl⟩ (by decide) rfl (g := (mkF m 22 #[vI p0, vI p1, vI p2, vI p3, vI p4, vI p5, vI v565, .unset, .unset, .unset, .unset, .unset, .unset, .unset, .unset] [])) rfl (hb hby at_22) (n := 12) (by decide) (by decide) (by decide) (by decide)
   have CR865 := hCR0.trans hC865
   have Z865 : n0 ≤ h865.size := Nat.le_trans Z0 E865.1
   have K865 : Keep h0 h865 [] := (Keep.refl h0 []).ext E865
   have Sf866 : Sta Z h865 "java/lang/String" "COMPACT_STRINGS" "Z" (.int gc1) := (S_COMPACT_STRINGS).ext E865
   have Sf867 : Sta Z h865 "jdk/internal/util/Preconditions" "SIOOBE_FORMATTER" "Ljava/util/function/BiFunction;" gf3 := (S_SIOOBE_FORMATTER).ext E865
   have Sf868 : Sta Z h865 "com/example/timely_exodus/timelyexodus/plan/LpSolver" "GLOP" "Lcom/example/timely_exodus/timelyexodus/plan/LpSolver;" (.ref s_GLOP) := (S_GLOP).ext E865
   have Sf869 : Sta Z h865 "com/example/timely_exodus/timelyexodus/plan/LpSolver" "CLP" "Lcom/example/timely_exodus/timelyexodus/plan/LpSolver;" (.ref s_CLP) := (S_CLP).ext E865
   have Sf870 : Sta Z h865 "com/example/timely_exodus/timelyexodus/plan/LpSolver" "PDLP" "Lcom/example/timely_exodus/timelyexodus/plan/LpSolver;" (.ref s_PDLP) := (S_PDLP).ext E865
   have Sf871 : Sta Z h865 "com/example/timely_exodus/timelyexodus/plan/LpSolver" "$VALUES" "[Lcom/example/timely_exodus/timelyexodus/plan/LpSolver;" (.ref s__VALUES) := (S__VALUES).ext E865
   have Vf872 : Arv Z h865 s__VALUES k__VALUES (.object "com/example/timely_exodus/timelyexodus/plan/LpSolver") (3 : Int32) [(.ref s_GLOP), (.ref s_CLP), (.ref s_PDLP)] .null := (V_s__VALUES).ext E865
   have Ef873 : Exa Z h865 s__VALUES "[Lcom/example/timely_exodus/timelyexodus/plan/LpSolver;" := (E_s__VALUES).ext E865
   have Ef874 : Exa Z h865 s_GLOP "com/example/timely_exodus/timelyexodus/plan/LpSolver" := (E_s_GLOP).ext E865
   have Ff875 : Fld Z h865 s_GLOP "com/example/timely_exodus/timelyexodus/plan/LpSolver" "name" "Ljava/lang/String;" (.ref n_GLOP) := (F_name_s_GLOP).ext E865
   have Ef876 : Exa Z h865 n_GLOP "java/lang/String" := (E_n_GLOP).ext E865
   have Ff877 : Fld Z h865 n_GLOP "java/lang/String" "value" "[B" (.ref t_GLOP) := (F_value_n_GLOP).ext E865
   have Ff878 : Fld Z h865 n_GLOP "java/lang/String" "coder" "B" (.int 0) := (F_coder_n_GLOP).ext E865
   have Vf879 : Arv Z h865 t_GLOP k_t_GLOP .byte (4 : Int32) ((([103, 108, 111, 112] : List Int32).map (fun c => c.toInt8.toInt32)).map Value.int) (.int 0) := (B_t_GLOP).ext E865
   have Ef880 : Exa Z h865 s_CLP "com/example/timely_exodus/timelyexodus/plan/LpSolver" := (E_s_CLP).ext E865
   have Ff881 : Fld Z h865 s_CLP "com/example/timely_exodus/timelyexodus/plan/LpSolver" "name" "Ljava/lang/String;" (.ref n_CLP) := (F_name_s_CLP).ext E865
   have Ef882 : Exa Z h865 n_CLP "java/lang/String" := (E_n_CLP).ext E865
   have Ff883 : Fld Z h865 n_CLP "java/lang/String" "value" "[B" (.ref t_CLP) := (F_value_n_CLP).ext E865
   have Ff884 : Fld Z h865 n_CLP "java/lang/String" "coder" "B" (.int 0) := (F_coder_n_CLP).ext E865
   have Vf885 : Arv Z h865 t_CLP k_t_CLP .byte (3 : Int32) ((([99, 108, 112] : List Int32).map (fun c => c.toInt8.toInt32)).map Value.int) (.int 0) := (B_t_CLP).ext E865
   have Ef886 : Exa Z h865 s_PDLP "com/example/timely_exodus/timelyexodus/plan/LpSolver" := (E_s_PDLP).ext E865
   have Ff887 : Fld Z h865 s_PDLP "com/example/timely_exodus/timelyexodus/plan/LpSolver" "name" "Ljava/lang/String;" (.ref n_PDLP) := (F_name_s_PDLP).ext E865
   have Ef888 : Exa Z h865 n_PDLP "java/lang/String" := (E_n_PDLP).ext E865
   have Ff889 : Fld Z h865 n_PDLP "java/lang/String" "value" "[B" (.ref t_PDLP) := (F_value_n_PDLP).ext E865
   have Ff890 : Fld Z h865 n_PDLP "java/lang/String" "coder" "B" (.int 0) := (F_coder_n_PDLP).ext E865
   have Vf891 : Arv Z h865 t_PDLP k_t_PDLP .byte (4 : Int32) ((([112, 100, 108, 112] : List Int32).map (fun c => c.toInt8.toInt32)).map Value.int) (.int 0) := (B_t_PDLP).ext E865
   have pre892 : own_P p e below T865 (mkF m 24 #[vI p0, vI p1, vI p2, vI p3, vI p4, vI p5, vI v565, .unset, .unset, .unset, .unset, .unset, .unset, .unset, .unset] [(.ref a865)]) s₁ (entryFrame m #[(.int p0), (.int p1), (.int p2), (.int p3), (.int p4), (.int p5)] maxLocals) := fun t k => pre864 t (st865 t k)
   have pre893 : own_P p e below T865 (mkF m 51 #[vI p0, vI p1, vI p2, vI p3, vI p4, vI p5, vI v565, vR a865, .unset, .unset, .unset, .unset, .unset, .unset, .unset] [(.int (p0 &&& (64 : Int32)))]) s₁ (entryFrame m #[(.int p0), (.int p1), (.int p2), (.int p3), (.int p4), (.int p5)] maxLocals) := by
    intro t k
    refine pre892 t ?_
    refine XS.goto X865.here hx rfl (pc0 := 24) (pc' := 40) rfl (hb hby at_24) (by decide) (by decide) ?_
    refine XS.astore X865.here hx rfl (hb hby at_40) rfl rfl (l' := #[vI p0, vI p1, vI p2, vI p3, vI p4, vI p5, vI v565, vR a865, .unset, .unset, .unset, .unset, .unset, .unset, .unset]) rfl ?_
    refine XS.iload X865.here hx rfl (hb hby at_42) rfl ?_
    refine XS.ifNo X865.here hx rfl (hb hby at_44) rfl ((if0 _ _).trans (feq (fun z => absurd (z.symm.trans hc19_863) (by decide))).1) ?_
    refine XS.iloadN X865.here hx rfl (hb hby at_47) rfl ?_
    refine XS.bipush X865.here hx rfl (hb hby at_48) ?_
    refine XS.iand X865.here hx rfl (hb hby at_50) rfl ?_
    exact k
   obtain ⟨T902, L902, v900, X902, N902, e902, pre901, hv900⟩ : ∃ (T902 : State) (L902 : List Loc) (v900 : Int32), Stand p l e room_1 (s.setVm T865.vm) m #[(.int p0), (.int p1), (.int p2), (.int p3), (.int p4), (.int p5)] below meth c T902 L902 2 16 ∧ Fr n0 L902 ∧ T902.heap = h865 ∧ (∀ t, Steps p.tables e below (T902.setTop (mkF m 68 #[vI p0, vI p1, vI p2, vI p3, vI p4, vI p5, vI v565, vR a865, .unset, .unset, .unset, .unset, .unset, .unset, .unset] [(.int v900)])) t → Steps p.tables e below (s₁.setTop (entryFrame m #[(.int p0), (.int p1), (.int p2), (.int p3), (.int p4), (.int p5)] maxLocals)) t) ∧ v900 = (if (p0 &&& (64 : Int32)) = (0 : Int32) then (Int32.ofNat ([99, 108, 112] : List Int32).length) else ((p1 &&& (7 : Int32)) % (5 : Int32))) := by
    by_cases hc51_894 : (p0 &&& (64 : Int32)) = (0 : Int32)
    ·
     have pre895 : ∀ t, Steps p.tables e below (T865.setTop (mkF m 56 #[vI p0, vI p1, vI p2, vI p3, vI p4, vI p5, vI v565, vR a865, .unset, .unset, .unset, .unset, .unset, .unset, .unset] [(.ref a865)])) t → Steps p.tables e below (s₁.setTop (entryFrame m #[(.int p0), (.int p1), (.int p2), (.int p3), (.int p4), (.int p5)] maxLocals)) t := by
      intro t k
      refine pre893 t ?_
      refine XS.ifNo X865.here hx rfl (hb hby at_51) rfl ((if0 _ _).trans (teq hc51_894).2) ?_
      refine XS.aload X865.here hx rfl (hb hby at_54) rfl rfl ?_
      exact k
     obtain ⟨cq896, kq896, q896a, q896b, q896c⟩ := isOf hZ865 e865 Ea865
     obtain ⟨_, _, ⟨T896, L896, k896, n896⟩, -, X896, ⟨Lc896, hQ896, l896, y896, z896⟩, st896⟩ := X865.virtualBack hx (y := (⟨"java/lang/String", "length", "()I"⟩ : MethodName)) (z := (⟨"java/lang/String", "length", "()I"⟩ : MethodName)) ho865 (mvT hZ865 (own_w hw 12 rfl)) (mvT hZ865 (own_w hw 13 rfl)) (notFace_of_selects (args := #[]) (mvT hZ865 (own_w hw 15 rfl))) (mvT hZ865 (own_w hw 15 rfl)) (mvT hZ865 (own_w hw 14 rfl)) (by decide) (StrChars.Road.lenW (W := 0) hZ865 (own_wordsLen hw) (kI := 4) (own_w hw 2 rfl) Ea865 Va865 Ca865 Ab865 (own_hcdG (cs := [99, 108, 112]) (by decide)) (own_up [99, 108, 112] (by decide)) Sf866 P5 (Nat.le_of_ble_eq_true rfl) (by decide) (by decide)) q896a q896c (g := (mkF m 56 #[vI p0, vI p1, vI p2, vI p3, vI p4, vI p5, vI v565, vR a865, .unset, .unset, .unset, .unset, .unset, .unset, .unset] [(.ref a865)])) rfl (by rw [hml]; rfl) (Steps.refl _) (argsL := []) (rest := []) (lenOf pd_2 rfl) rfl (by show 2 * 0 + _ ≤ _; exact Nat.le_of_eq rfl) (hb hby at_56) (fun _ _ => ⟨rfl, e865, (by decide : 2 + 0 ≤ _), (by decide : 16 + 0 ≤ _)⟩)
     dsimp only [Pt.U, Pt.locs, Pt.cells, Pt.slots] at X896 l896 y896 z896 st896 hQ896
     subst l896 y896 z896
     obtain ⟨rfl, rfl, e896⟩ := hQ896
     try rw [List.append_nil] at X896
     have pre897 : own_P p e below T896 (mkF m 59 #[vI p0, vI p1, vI p2, vI p3, vI p4, vI p5, vI v565, vR a865, .unset, .unset, .unset, .unset, .unset, .unset, .unset] [(.int (Int32.ofNat ([99, 108, 112] : List Int32).length))]) s₁ (entryFrame m #[(.int p0), (.int p1), (.int p2), (.int p3), (.int p4), (.int p5)] maxLocals) := fun t k => pre895 t (st896.trans k)
     have pre898 : own_P p e below T896 (mkF m 68 #[vI p0, vI p1, vI p2, vI p3, vI p4, vI p5, vI v565, vR a865, .unset, .unset, .unset, .unset, .unset, .unset, .unset] [(.int (Int32.ofNat ([99, 108, 112] : List Int32).length))]) s₁ (entryFrame m #[(.int p0), (.int p1), (.int p2), (.int p3), (.int p4), (.int p5)] maxLocals) := by
      intro t k
      refine pre897 t ?_
      refine XS.goto X896.here hx rfl (pc0 := 59) (pc' := 68) rfl (hb hby at_59) (by decide) (by decide) ?_
      exact k
     exact ⟨T896, _, (Int32.ofNat ([99, 108, 112] : List Int32).length), X896, N0, e896, pre898, by rw [if_pos hc51_894]⟩
    ·
     have pre899 : ∀ t, Steps p.tables e below (T865.setTop (mkF m 68 #[vI p0, vI p1, vI p2, vI p3, vI p4, vI p5, vI v565, vR a865, .unset, .unset, .unset, .unset, .unset, .unset, .unset] [(.int ((p1 &&& (7 : Int32)) % (5 : Int32)))])) t → Steps p.tables e below (s₁.setTop (entryFrame m #[(.int p0), (.int p1), (.int p2), (.int p3), (.int p4), (.int p5)] maxLocals)) t := by
      intro t k
      refine pre893 t ?_
      refine XS.ifYes X865.here hx rfl (pc0 := 51) (pc' := 62) rfl (hb hby at_51) rfl ((if0 _ _).trans (feq hc51_894).2) (by decide) (by decide) ?_
      refine XS.iloadN X865.here hx rfl (hb hby at_62) rfl ?_
      refine XS.bipush X865.here hx rfl (hb hby at_63) ?_
      refine XS.iand X865.here hx rfl (hb hby at_65) rfl ?_
      refine XS.iconst X865.here hx rfl (hb hby at_66) ?_
      refine iremM X865 hx rfl (hb hby at_67) rfl (by decide) ?_
      exact k
     exact ⟨T865, _, ((p1 &&& (7 : Int32)) % (5 : Int32)), X865, N0, e865, pre899, by rw [if_neg hc51_894]⟩
   have pre903 : own_P p e below T902 (mkF m 75 #[vI p0, vI p1, vI p2, vI p3, vI p4, vI p5, vI v565, vR a865, vI v900, .unset, .unset, .unset, .unset, .unset, .unset] [(.int p0), (.int p2), (.ref a865), (.int 0)]) s₁ (entryFrame m #[(.int p0), (.int p1), (.int p2), (.int p3), (.int p4), (.int p5)] maxLocals) := by
    intro t k
    refine pre901 t ?_
    refine XS.istore X902.here hx rfl (hb hby at_68) rfl (l' := #[vI p0, vI p1, vI p2, vI p3, vI p4, vI p5, vI v565, vR a865, vI v900, .unset, .unset, .unset, .unset, .unset, .unset]) rfl ?_
    refine XS.iconst X902.here hx rfl (hb hby at_70) ?_
    refine XS.aload X902.here hx rfl (hb hby at_71) rfl rfl ?_
    refine XS.iloadN X902.here hx rfl (hb hby at_73) rfl ?_
    refine XS.iloadN X902.here hx rfl (hb hby at_74) rfl ?_
    exact k
   obtain ⟨_, _, ⟨T904, L904, k904, n904⟩, -, X904r, hS904r, hg904r, ⟨Lc904, hQ904, l904, y904, z904, hC904⟩, st904⟩ := callSS X902 hx (y := (⟨"com/example/timely_exodus/timelyexodus/plan/LpSolverFromNamePinLaw", "ch", "(ILjava/lang/String;II)C"⟩ : MethodName)) ho865 (mvT hZ865 (own_w hw 8 rfl)) (mvT hZ865 (own_w hw 9 rfl)) (mvT hZ865 (own_w hw 10 rfl)) (mvT hZ865 (own_w hw 11 rfl)) (by decide) (backOfSH (W := 0) (rm1_0 l Z ar0 hw [] a865 p2 p0 ([99, 108, 112]) gc1 gf3 b865 kb865 h865 n0 Z865 P5 rG3 (by decide) (by decide) Sf866 Sf867 Ea865 Va865 Ca865 Ab865) hZ865 (own_w hw 11 rfl) (own_w hw 10 rfl) (by decide) (by decide) hEL CR865.1) (g := (mkF m 75 #[vI p0, vI p1, vI p2, vI p3, vI p4, vI p5, vI v565, vR a865, vI v900, .unset, .unset, .unset, .unset, .unset, .unset] [(.int p0), (.int p2), (.ref a865), (.int 0)])) rfl (by rw [hml]; rfl) (argsL := [(.int 0), (.ref a865), (.int p2), (.int p0)]) (rest := []) (lenOf pd_6 rfl) rfl (by show 2 * 0 + _ ≤ _; exact Nat.le_of_eq rfl) (hb hby at_75) (fun _ _ => ⟨rfl, e902, (by decide : 2 + 2 ≤ _), (by decide : 16 + 28 ≤ _)⟩)
   dsimp only [Pt.U, Pt.locs, Pt.cells, Pt.slots] at X904r hS904r hg904r l904 y904 z904 st904 hQ904 hC904
   subst l904 y904 z904
   obtain ⟨X904, hS904, hZ904, ho904⟩ := rebS (s := s) (vm0 := T865.vm) (n1 := T902.heap.size) hS865 (by rw [e902]; first | exact hk865 | exact Nat.le_refl _) X904r hS904r hg904r hZ865 ho865
   obtain ⟨h904, e904⟩ : ∃ h, T904.heap = h := ⟨_, rfl⟩
   rw [e904] at hQ904
   obtain ⟨rfl, N904q, K904q⟩ := hQ904
   have N904 := Fr.app N902 N904q
   have Z904 : n0 ≤ h904.size := Nat.le_trans Z865 K904q.1
   have K904 : Keep h0 h904 [] := K865.trans K904q (fun x hx => absurd hx List.not_mem_nil)
   have Sf905 : Sta Z h904 "java/lang/String" "COMPACT_STRINGS" "Z" (.int gc1) := own_sta_keep0 Sf866 K904q
   have Sf906 : Sta Z h904 "jdk/internal/util/Preconditions" "SIOOBE_FORMATTER" "Ljava/util/function/BiFunction;" gf3 := own_sta_keep0 Sf867 K904q
   have Sf907 : Sta Z h904 "com/example/timely_exodus/timelyexodus/plan/LpSolver" "GLOP" "Lcom/example/timely_exodus/timelyexodus/plan/LpSolver;" (.ref s_GLOP) := own_sta_keep0 Sf868 K904q
   have Sf908 : Sta Z h904 "com/example/timely_exodus/timelyexodus/plan/LpSolver" "CLP" "Lcom/example/timely_exodus/timelyexodus/plan/LpSolver;" (.ref s_CLP) := own_sta_keep0 Sf869 K904q
   have Sf909 : Sta Z h904 "com/example/timely_exodus/timelyexodus/plan/LpSolver" "PDLP" "Lcom/example/timely_exodus/timelyexodus/plan/LpSolver;" (.ref s_PDLP) := own_sta_keep0 Sf870 K904q
   have Sf910 : Sta Z h904 "com/example/timely_exodus/timelyexodus/plan/LpSolver" "$VALUES" "[Lcom/example/timely_exodus/timelyexodus/plan/LpSolver;" (.ref s__VALUES) := own_sta_keep0 Sf871 K904q
   have Vf911 : Arv Z h904 s__VALUES k__VALUES (.object "com/example/timely_exodus/timelyexodus/plan/LpSolver") (3 : Int32) [(.ref s_GLOP), (.ref s_CLP), (.ref s_PDLP)] .null := (Vf872).keep K904q List.not_mem_nil
   have Ef912 : Exa Z h904 s__VALUES "[Lcom/example/timely_exodus/timelyexodus/plan/LpSolver;" := (Ef873).keep K904q
   have Ef913 : Exa Z h904 s_GLOP "com/example/timely_exodus/timelyexodus/plan/LpSolver" := (Ef874).keep K904q
   have Ff914 : Fld Z h904 s_GLOP "com/example/timely_exodus/timelyexodus/plan/LpSolver" "name" "Ljava/lang/String;" (.ref n_GLOP) := (Ff875).keep K904q List.not_mem_nil
   have Ef915 : Exa Z h904 n_GLOP "java/lang/String" := (Ef876).keep K904q
   have Ff916 : Fld Z h904 n_GLOP "java/lang/String" "value" "[B" (.ref t_GLOP) := (Ff877).keep K904q List.not_mem_nil
   have Ff917 : Fld Z h904 n_GLOP "java/lang/String" "coder" "B" (.int 0) := (Ff878).keep K904q List.not_mem_nil
   have Vf918 : Arv Z h904 t_GLOP k_t_GLOP .byte (4 : Int32) ((([103, 108, 111, 112] : List Int32).map (fun c => c.toInt8.toInt32)).map Value.int) (.int 0) := (Vf879).keep K904q List.not_mem_nil
   have Ef919 : Exa Z h904 s_CLP "com/example/timely_exodus/timelyexodus/plan/LpSolver" := (Ef880).keep K904q
   have Ff920 : Fld Z h904 s_CLP "com/example/timely_exodus/timelyexodus/plan/LpSolver" "name" "Ljava/lang/String;" (.ref n_CLP) := (Ff881).keep K904q List.not_mem_nil
   have Ef921 : Exa Z h904 n_CLP "java/lang/String" := (Ef882).keep K904q
   have Ff922 : Fld Z h904 n_CLP "java/lang/String" "value" "[B" (.ref t_CLP) := (Ff883).keep K904q List.not_mem_nil
   have Ff923 : Fld Z h904 n_CLP "java/lang/String" "coder" "B" (.int 0) := (Ff884).keep K904q List.not_mem_nil
   have Vf924 : Arv Z h904 t_CLP k_t_CLP .byte (3 : Int32) ((([99, 108, 112] : List Int32).map (fun c => c.toInt8.toInt32)).map Value.int) (.int 0) := (Vf885).keep K904q List.not_mem_nil
   have Ef925 : Exa Z h904 s_PDLP "com/example/timely_exodus/timelyexodus/plan/LpSolver" := (Ef886).keep K904q
   have Ff926 : Fld Z h904 s_PDLP "com/example/timely_exodus/timelyexodus/plan/LpSolver" "name" "Ljava/lang/String;" (.ref n_PDLP) := (Ff887).keep K904q List.not_mem_nil
   have Ef927 : Exa Z h904 n_PDLP "java/lang/String" := (Ef888).keep K904q
   have Ff928 : Fld Z h904 n_PDLP "java/lang/String" "value" "[B" (.ref t_PDLP) := (Ff889).keep K904q List.not_mem_nil
   have Ff929 : Fld Z h904 n_PDLP "java/lang/String" "coder" "B" (.int 0) := (Ff890).keep K904q List.not_mem_nil
   have Vf930 : Arv Z h904 t_PDLP k_t_PDLP .byte (4 : Int32) ((([112, 100, 108, 112] : List Int32).map (fun c => c.toInt8.toInt32)).map Value.int) (.int 0) := (Vf891).keep K904q List.not_mem_nil
   have Ef931 : Exa Z h904 a865 "java/lang/String" := (Ea865).keep K904q
   have Ff932 : Fld Z h904 a865 "java/lang/String" "coder" "B" (.int 0) := (Ca865).keep K904q List.not_mem_nil
   have Ff933 : Fld Z h904 a865 "java/lang/String" "value" "[B" (.ref b865) := (Va865).keep K904q List.not_mem_nil
   have Vf934 : Arv Z h904 b865 kb865 .byte (3 : Int32) ((([99, 108, 112] : List Int32).map (fun c => c.toInt8.toInt32)).map Value.int) (.int 0) := (Ab865).keep K904q List.not_mem_nil
   rw [e904] at hC904
   have CR904 := CR865.trans hC904
   have hk904 : T904.heap.size ≤ h904.size := by rw [e904]; exact Nat.le_refl _
   have pre935 : own_P p e below T904 (mkF m 78 #[vI p0, vI p1, vI p2, vI p3, vI p4, vI p5, vI v565, vR a865, vI v900, .unset, .unset, .unset, .unset, .unset, .unset] [(.int (f1_0 p2 p0 ([99, 108, 112])))]) s₁ (entryFrame m #[(.int p0), (.int p1), (.int p2), (.int p3), (.int p4), (.int p5)] maxLocals) := fun t k => pre903 t (st904.trans k)
   obtain ⟨v936, hv936⟩ : ∃ z : Int32, z = (f1_0 p2 p0 ([99, 108, 112])) := ⟨_, rfl⟩
   have pre937 : own_P p e below T904 (mkF m 78 #[vI p0, vI p1, vI p2, vI p3, vI p4, vI p5, vI v565, vR a865, vI v900, .unset, .unset, .unset, .unset, .unset, .unset] [(.int v936)]) s₁ (entryFrame m #[(.int p0), (.int p1), (.int p2), (.int p3), (.int p4), (.int p5)] maxLocals) := by rw [hv936]; exact pre935
   have pre938 : own_P p e below T904 (mkF m 85 #[vI p0, vI p1, vI p2, vI p3, vI p4, vI p5, vI v565, vR a865, vI v900, vI v936, .unset, .unset, .unset, .unset, .unset] [(.int p0), (.int p3), (.ref a865), (.int 1)]) s₁ (entryFrame m #[(.int p0), (.int p1), (.int p2), (.int p3), (.int p4), (.int p5)] maxLocals) := by
    intro t k
    refine pre937 t ?_
    refine XS.istore X904.here hx rfl (hb hby at_78) rfl (l' := #[vI p0, vI p1, vI p2, vI p3, vI p4, vI p5, vI v565, vR a865, vI v900, vI v936, .unset, .unset, .unset, .unset, .unset]) rfl ?_
    refine XS.iconst X904.here hx rfl (hb hby at_80) ?_
    refine XS.aload X904.here hx rfl (hb hby at_81) rfl rfl ?_
    refine XS.iloadN X904.here hx rfl (hb hby at_83) rfl ?_
    refine XS.iloadN X904.here hx rfl (hb hby at_84) rfl ?_
    exact k
   obtain ⟨_, _, ⟨T939, L939, k939, n939⟩, -, X939r, hS939r, hg939r, ⟨Lc939, hQ939, l939, y939, z939, hC939⟩, st939⟩ := callSS X904 hx (y := (⟨"com/example/timely_exodus/timelyexodus/plan/LpSolverFromNamePinLaw", "ch", "(ILjava/lang/String;II)C"⟩ : MethodName)) ho904 (mvT hZ904 (own_w hw 8 rfl)) (mvT hZ904 (own_w hw 9 rfl)) (mvT hZ904 (own_w hw 10 rfl)) (mvT hZ904 (own_w hw 11 rfl)) (by decide) (backOfSH (W := 0) (rm1_1 l Z ar0 hw [] a865 p3 p0 ([99, 108, 112]) gc1 gf3 b865 kb865 h904 n0 Z904 P5 rG3 (by decide) (by decide) Sf905 Sf906 Ef931 Ff933 Ff932 Vf934) hZ904 (own_w hw 11 rfl) (own_w hw 10 rfl) (by decide) (by decide) hEL CR904.1) (g := (mkF m 85 #[vI p0, vI p1, vI p2, vI p3, vI p4, vI p5, vI v565, vR a865, vI v900, vI v936, .unset, .unset, .unset, .unset, .unset] [(.int p0), (.int p3), (.ref a865), (.int 1)])) rfl (by rw [hml]; rfl) (argsL := [(.int 1), (.ref a865), (.int p3), (.int p0)]) (rest := []) (lenOf pd_6 rfl) rfl (by show 2 * 0 + _ ≤ _; exact Nat.le_of_eq rfl) (hb hby at_85) (fun _ _ => ⟨rfl, e904, (by decide : 4 + 2 ≤ _), (by decide : 44 + 28 ≤ _)⟩)
   dsimp only [Pt.U, Pt.locs, Pt.cells, Pt.slots] at X939r hS939r hg939r l939 y939 z939 st939 hQ939 hC939
   subst l939 y939 z939
   obtain ⟨X939, hS939, hZ939, ho939⟩ := rebS (s := s) (vm0 := T904.vm) (n1 := T904.heap.size) hS904 (by rw [e904]; first | exact hk904 | exact Nat.le_refl _) X939r hS939r hg939r hZ904 ho904
   obtain ⟨h939, e939⟩ : ∃ h, T939.heap = h := ⟨_, rfl⟩
   rw [e939] at hQ939
   obtain ⟨rfl, N939q, K939q⟩ := hQ939
   have N939 := Fr.app N904 N939q
   have Z939 : n0 ≤ h939.size := Nat.le_trans Z904 K939q.1
   have K939 : Keep h0 h939 [] := K904.trans K939q (fun x hx => absurd hx List.not_mem_nil)
   have Sf940 : Sta Z h939 "java/lang/String" "COMPACT_STRINGS" "Z" (.int gc1) := own_sta_keep0 Sf905 K939q
   have Sf941 : Sta Z h939 "jdk/internal/util/Preconditions" "SIOOBE_FORMATTER" "Ljava/util/function/BiFunction;" gf3 := own_sta_keep0 Sf906 K939q
   have Sf942 : Sta Z h939 "com/example/timely_exodus/timelyexodus/plan/LpSolver" "GLOP" "Lcom/example/timely_exodus/timelyexodus/plan/LpSolver;" (.ref s_GLOP) := own_sta_keep0 Sf907 K939q
   have Sf943 : Sta Z h939 "com/example/timely_exodus/timelyexodus/plan/LpSolver" "CLP" "Lcom/example/timely_exodus/timelyexodus/plan/LpSolver;" (.ref s_CLP) := own_sta_keep0 Sf908 K939q
   have Sf944 : Sta Z h939 "com/example/timely_exodus/timelyexodus/plan/LpSolver" "PDLP" "Lcom/example/timely_exodus/timelyexodus/plan/LpSolver;" (.ref s_PDLP) := own_sta_keep0 Sf909 K939q
   have Sf945 : Sta Z h939 "com/example/timely_exodus/timelyexodus/plan/LpSolver" "$VALUES" "[Lcom/example/timely_exodus/timelyexodus/plan/LpSolver;" (.ref s__VALUES) := own_sta_keep0 Sf910 K939q
   have Vf946 : Arv Z h939 s__VALUES k__VALUES (.object "com/example/timely_exodus/timelyexodus/plan/LpSolver") (3 : Int32) [(.ref s_GLOP), (.ref s_CLP), (.ref s_PDLP)] .null := (Vf911).keep K939q List.not_mem_nil
   have Ef947 : Exa Z h939 s__VALUES "[Lcom/example/timely_exodus/timelyexodus/plan/LpSolver;" := (Ef912).keep K939q
   have Ef948 : Exa Z h939 s_GLOP "com/example/timely_exodus/timelyexodus/plan/LpSolver" := (Ef913).keep K939q
   have Ff949 : Fld Z h939 s_GLOP "com/example/timely_exodus/timelyexodus/plan/LpSolver" "name" "Ljava/lang/String;" (.ref n_GLOP) := (Ff914).keep K939q List.not_mem_nil
   have Ef950 : Exa Z h939 n_GLOP "java/lang/String" := (Ef915).keep K939q
   have Ff951 : Fld Z h939 n_GLOP "java/lang/String" "value" "[B" (.ref t_GLOP) := (Ff916).keep K939q List.not_mem_nil
   have Ff952 : Fld Z h939 n_GLOP "java/lang/String" "coder" "B" (.int 0) := (Ff917).keep K939q List.not_mem_nil
   have Vf953 : Arv Z h939 t_GLOP k_t_GLOP .byte (4 : Int32) ((([103, 108, 111, 112] : List Int32).map (fun c => c.toInt8.toInt32)).map Value.int) (.int 0) := (Vf918).keep K939q List.not_mem_nil
   have Ef954 : Exa Z h939 s_CLP "com/example/timely_exodus/timelyexodus/plan/LpSolver" := (Ef919).keep K939q
   have Ff955 : Fld Z h939 s_CLP "com/example/timely_exodus/timelyexodus/plan/LpSolver" "name" "Ljava/lang/String;" (.ref n_CLP) := (Ff920).keep K939q List.not_mem_nil
   have Ef956 : Exa Z h939 n_CLP "java/lang/String" := (Ef921).keep K939q
   have Ff957 : Fld Z h939 n_CLP "java/lang/String" "value" "[B" (.ref t_CLP) := (Ff922).keep K939q List.not_mem_nil
   have Ff958 : Fld Z h939 n_CLP "java/lang/String" "coder" "B" (.int 0) := (Ff923).keep K939q List.not_mem_nil
   have Vf959 : Arv Z h939 t_CLP k_t_CLP .byte (3 : Int32) ((([99, 108, 112] : List Int32).map (fun c => c.toInt8.toInt32)).map Value.int) (.int 0) := (Vf924).keep K939q List.not_mem_nil
   have Ef960 : Exa Z h939 s_PDLP "com/example/timely_exodus/timelyexodus/plan/LpSolver" := (Ef925).keep K939q
   have Ff961 : Fld Z h939 s_PDLP "com/example/timely_exodus/timelyexodus/plan/LpSolver" "name" "Ljava/lang/String;" (.ref n_PDLP) := (Ff926).keep K939q List.not_mem_nil
   have Ef962 : Exa Z h939 n_PDLP "java/lang/String" := (Ef927).keep K939q
   have Ff963 : Fld Z h939 n_PDLP "java/lang/String" "value" "[B" (.ref t_PDLP) := (Ff928).keep K939q List.not_mem_nil
   have Ff964 : Fld Z h939 n_PDLP "java/lang/String" "coder" "B" (.int 0) := (Ff929).keep K939q List.not_mem_nil
   have Vf965 : Arv Z h939 t_PDLP k_t_PDLP .byte (4 : Int32) ((([112, 100, 108, 112] : List Int32).map (fun c => c.toInt8.toInt32)).map Value.int) (.int 0) := (Vf930).keep K939q List.not_mem_nil
   have Ef966 : Exa Z h939 a865 "java/lang/String" := (Ef931).keep K939q
   have Ff967 : Fld Z h939 a865 "java/lang/String" "coder" "B" (.int 0) := (Ff932).keep K939q List.not_mem_nil
   have Ff968 : Fld Z h939 a865 "java/lang/String" "value" "[B" (.ref b865) := (Ff933).keep K939q List.not_mem_nil
   have Vf969 : Arv Z h939 b865 kb865 .byte (3 : Int32) ((([99, 108, 112] : List Int32).map (fun c => c.toInt8.toInt32)).map Value.int) (.int 0) := (Vf934).keep K939q List.not_mem_nil
   rw [e939] at hC939
   have CR939 := CR904.trans hC939
   have hk939 : T939.heap.size ≤ h939.size := by rw [e939]; exact Nat.le_refl _
   have pre970 : own_P p e below T939 (mkF m 88 #[vI p0, vI p1, vI p2, vI p3, vI p4, vI p5, vI v565, vR a865, vI v900, vI v936, .unset, .unset, .unset, .unset, .unset] [(.int (f1_1 p3 p0 ([99, 108, 112])))]) s₁ (entryFrame m #[(.int p0), (.int p1), (.int p2), (.int p3), (.int p4), (.int p5)] maxLocals) := fun t k => pre938 t (st939.trans k)
   obtain ⟨v971, hv971⟩ : ∃ z : Int32, z = (f1_1 p3 p0 ([99, 108, 112])) := ⟨_, rfl⟩
   have pre972 : own_P p e below T939 (mkF m 88 #[vI p0, vI p1, vI p2, vI p3, vI p4, vI p5, vI v565, vR a865, vI v900, vI v936, .unset, .unset, .unset, .unset, .unset] [(.int v971)]) s₁ (entryFrame m #[(.int p0), (.int p1), (.int p2), (.int p3), (.int p4), (.int p5)] maxLocals) := by rw [hv971]; exact pre970
   have pre973 : own_P p e below T939 (mkF m 96 #[vI p0, vI p1, vI p2, vI p3, vI p4, vI p5, vI v565, vR a865, vI v900, vI v936, vI v971, .unset, .unset, .unset, .unset] [(.int p0), (.int p4), (.ref a865), (.int 2)]) s₁ (entryFrame m #[(.int p0), (.int p1), (.int p2), (.int p3), (.int p4), (.int p5)] maxLocals) := by
    intro t k
    refine pre972 t ?_
    refine XS.istore X939.here hx rfl (hb hby at_88) rfl (l' := #[vI p0, vI p1, vI p2, vI p3, vI p4, vI p5, vI v565, vR a865, vI v900, vI v936, vI v971, .unset, .unset, .unset, .unset]) rfl ?_
    refine XS.iconst X939.here hx rfl (hb hby at_90) ?_
    refine XS.aload X939.here hx rfl (hb hby at_91) rfl rfl ?_
    refine XS.iload X939.here hx rfl (hb hby at_93) rfl ?_
    refine XS.iloadN X939.here hx rfl (hb hby at_95) rfl ?_
    exact k
   obtain ⟨_, _, ⟨T974, L974, k974, n974⟩, -, X974r, hS974r, hg974r, ⟨Lc974, hQ974, l974, y974, z974, hC974⟩, st974⟩ := callSS X939 hx (y := (⟨"com/example/timely_exodus/timelyexodus/plan/LpSolverFromNamePinLaw", "ch", "(ILjava/lang/String;II)C"⟩ : MethodName)) ho939 (mvT hZ939 (own_w hw 8 rfl)) (mvT hZ939 (own_w hw 9 rfl)) (mvT hZ939 (own_w hw 10 rfl)) (mvT hZ939 (own_w hw 11 rfl)) (by decide) (backOfSH (W := 0) (rm1_2 l Z ar0 hw [] a865 p4 p0 ([99, 108, 112]) gc1 gf3 b865 kb865 h939 n0 Z939 P5 rG3 (by decide) (by decide) Sf940 Sf941 Ef966 Ff968 Ff967 Vf969) hZ939 (own_w hw 11 rfl) (own_w hw 10 rfl) (by decide) (by decide) hEL CR939.1) (g := (mkF m 96 #[vI p0, vI p1, vI p2, vI p3, vI p4, vI p5, vI v565, vR a865, vI v900, vI v936, vI v971, .unset, .unset, .unset, .unset] [(.int p0), (.int p4), (.ref a865), (.int 2)])) rfl (by rw [hml]; rfl) (argsL := [(.int 2), (.ref a865), (.int p4), (.int p0)]) (rest := []) (lenOf pd_6 rfl) rfl (by show 2 * 0 + _ ≤ _; exact Nat.le_of_eq rfl) (hb hby at_96) (fun _ _ => ⟨rfl, e939, (by decide : 6 + 2 ≤ _), (by decide : 72 + 28 ≤ _)⟩)
   dsimp only [Pt.U, Pt.locs, Pt.cells, Pt.slots] at X974r hS974r hg974r l974 y974 z974 st974 hQ974 hC974
   subst l974 y974 z974
   obtain ⟨X974, hS974, hZ974, ho974⟩ := rebS (s := s) (vm0 := T939.vm) (n1 := T939.heap.size) hS939 (by rw [e939]; first | exact hk939 | exact Nat.le_refl _) X974r hS974r hg974r hZ939 ho939
   obtain ⟨h974, e974⟩ : ∃ h, T974.heap = h := ⟨_, rfl⟩
   rw [e974] at hQ974
   obtain ⟨rfl, N974q, K974q⟩ := hQ974
   have N974 := Fr.app N939 N974q
   have Z974 : n0 ≤ h974.size := Nat.le_trans Z939 K974q.1
   have K974 : Keep h0 h974 [] := K939.trans K974q (fun x hx => absurd hx List.not_mem_nil)
   have Sf975 : Sta Z h974 "java/lang/String" "COMPACT_STRINGS" "Z" (.int gc1) := own_sta_keep0 Sf940 K974q
   have Sf976 : Sta Z h974 "jdk/internal/util/Preconditions" "SIOOBE_FORMATTER" "Ljava/util/function/BiFunction;" gf3 := own_sta_keep0 Sf941 K974q
   have Sf977 : Sta Z h974 "com/example/timely_exodus/timelyexodus/plan/LpSolver" "GLOP" "Lcom/example/timely_exodus/timelyexodus/plan/LpSolver;" (.ref s_GLOP) := own_sta_keep0 Sf942 K974q
   have Sf978 : Sta Z h974 "com/example/timely_exodus/timelyexodus/plan/LpSolver" "CLP" "Lcom/example/timely_exodus/timelyexodus/plan/LpSolver;" (.ref s_CLP) := own_sta_keep0 Sf943 K974q
   have Sf979 : Sta Z h974 "com/example/timely_exodus/timelyexodus/plan/LpSolver" "PDLP" "Lcom/example/timely_exodus/timelyexodus/plan/LpSolver;" (.ref s_PDLP) := own_sta_keep0 Sf944 K974q
   have Sf980 : Sta Z h974 "com/example/timely_exodus/timelyexodus/plan/LpSolver" "$VALUES" "[Lcom/example/timely_exodus/timelyexodus/plan/LpSolver;" (.ref s__VALUES) := own_sta_keep0 Sf945 K974q
   have Vf981 : Arv Z h974 s__VALUES k__VALUES (.object "com/example/timely_exodus/timelyexodus/plan/LpSolver") (3 : Int32) [(.ref s_GLOP), (.ref s_CLP), (.ref s_PDLP)] .null := (Vf946).keep K974q List.not_mem_nil
   have Ef982 : Exa Z h974 s__VALUES "[Lcom/example/timely_exodus/timelyexodus/plan/LpSolver;" := (Ef947).keep K974q
   have Ef983 : Exa Z h974 s_GLOP "com/example/timely_exodus/timelyexodus/plan/LpSolver" := (Ef948).keep K974q
   have Ff984 : Fld Z h974 s_GLOP "com/example/timely_exodus/timelyexodus/plan/LpSolver" "name" "Ljava/lang/String;" (.ref n_GLOP) := (Ff949).keep K974q List.not_mem_nil
   have Ef985 : Exa Z h974 n_GLOP "java/lang/String" := (Ef950).keep K974q
   have Ff986 : Fld Z h974 n_GLOP "java/lang/String" "value" "[B" (.ref t_GLOP) := (Ff951).keep K974q List.not_mem_nil
   have Ff987 : Fld Z h974 n_GLOP "java/lang/String" "coder" "B" (.int 0) := (Ff952).keep K974q List.not_mem_nil
   have Vf988 : Arv Z h974 t_GLOP k_t_GLOP .byte (4 : Int32) ((([103, 108, 111, 112] : List Int32).map (fun c => c.toInt8.toInt32)).map Value.int) (.int 0) := (Vf953).keep K974q List.not_mem_nil
   have Ef989 : Exa Z h974 s_CLP "com/example/timely_exodus/timelyexodus/plan/LpSolver" := (Ef954).keep K974q
   have Ff990 : Fld Z h974 s_CLP "com/example/timely_exodus/timelyexodus/plan/LpSolver" "name" "Ljava/lang/String;" (.ref n_CLP) := (Ff955).keep K974q List.not_mem_nil
   have Ef991 : Exa Z h974 n_CLP "java/lang/String" := (Ef956).keep K974q
   have Ff992 : Fld Z h974 n_CLP "java/lang/String" "value" "[B" (.ref t_CLP) := (Ff957).keep K974q List.not_mem_nil
   have Ff993 : Fld Z h974 n_CLP "java/lang/String" "coder" "B" (.int 0) := (Ff958).keep K974q List.not_mem_nil
   have Vf994 : Arv Z h974 t_CLP k_t_CLP .byte (3 : Int32) ((([99, 108, 112] : List Int32).map (fun c => c.toInt8.toInt32)).map Value.int) (.int 0) := (Vf959).keep K974q List.not_mem_nil
   have Ef995 : Exa Z h974 s_PDLP "com/example/timely_exodus/timelyexodus/plan/LpSolver" := (Ef960).keep K974q
   have Ff996 : Fld Z h974 s_PDLP "com/example/timely_exodus/timelyexodus/plan/LpSolver" "name" "Ljava/lang/String;" (.ref n_PDLP) := (Ff961).keep K974q List.not_mem_nil
   have Ef997 : Exa Z h974 n_PDLP "java/lang/String" := (Ef962).keep K974q
   have Ff998 : Fld Z h974 n_PDLP "java/lang/String" "value" "[B" (.ref t_PDLP) := (Ff963).keep K974q List.not_mem_nil
   have Ff999 : Fld Z h974 n_PDLP "java/lang/String" "coder" "B" (.int 0) := (Ff964).keep K974q List.not_mem_nil
   have Vf1000 : Arv Z h974 t_PDLP k_t_PDLP .byte (4 : Int32) ((([112, 100, 108, 112] : List Int32).map (fun c => c.toInt8.toInt32)).map Value.int) (.int 0) := (Vf965).keep K974q List.not_mem_nil
   have Ef1001 : Exa Z h974 a865 "java/lang/String" := (Ef966).keep K974q
   have Ff1002 : Fld Z h974 a865 "java/lang/String" "coder" "B" (.int 0) := (Ff967).keep K974q List.not_mem_nil
   have Ff1003 : Fld Z h974 a865 "java/lang/String" "value" "[B" (.ref b865) := (Ff968).keep K974q List.not_mem_nil
   have Vf1004 : Arv Z h974 b865 kb865 .byte (3 : Int32) ((([99, 108, 112] : List Int32).map (fun c => c.toInt8.toInt32)).map Value.int) (.int 0) := (Vf969).keep K974q List.not_mem_nil
   rw [e974] at hC974
   have CR974 := CR939.trans hC974
   have hk974 : T974.heap.size ≤ h974.size := by rw [e974]; exact Nat.le_refl _
   have pre1005 : own_P p e below T974 (mkF m 99 #[vI p0, vI p1, vI p2, vI p3, vI p4, vI p5, vI v565, vR a865, vI v900, vI v936, vI v971, .unset, .unset, .unset, .unset] [(.int (f1_2 p4 p0 ([99, 108, 112])))]) s₁ (entryFrame m #[(.int p0), (.int p1), (.int p2), (.int p3), (.int p4), (.int p5)] maxLocals) := fun t k => pre973 t (st974.trans k)
   obtain ⟨v1006, hv1006⟩ : ∃ z : Int32, z = (f1_2 p4 p0 ([99, 108, 112])) := ⟨_, rfl⟩
   have pre1007 : own_P p e below T974 (mkF m 99 #[vI p0, vI p1, vI p2, vI p3, vI p4, vI p5, vI v565, vR a865, vI v900, vI v936, vI v971, .unset, .unset, .unset, .unset] [(.int v1006)]) s₁ (entryFrame m #[(.int p0), (.int p1), (.int p2), (.int p3), (.int p4), (.int p5)] maxLocals) := by rw [hv1006]; exact pre1005
   have pre1008 : own_P p e below T974 (mkF m 107 #[vI p0, vI p1, vI p2, vI p3, vI p4, vI p5, vI v565, vR a865, vI v900, vI v936, vI v971, vI v1006, .unset, .unset, .unset] [(.int p0), (.int p5), (.ref a865), (.int 3)]) s₁ (entryFrame m #[(.int p0), (.int p1), (.int p2), (.int p3), (.int p4), (.int p5)] maxLocals) := by
    intro t k
    refine pre1007 t ?_
    refine XS.istore X974.here hx rfl (hb hby at_99) rfl (l' := #[vI p0, vI p1, vI p2, vI p3, vI p4, vI p5, vI v565, vR a865, vI v900, vI v936, vI v971, vI v1006, .unset, .unset, .unset]) rfl ?_
    refine XS.iconst X974.here hx rfl (hb hby at_101) ?_
    refine XS.aload X974.here hx rfl (hb hby at_102) rfl rfl ?_
    refine XS.iload X974.here hx rfl (hb hby at_104) rfl ?_
    refine XS.iloadN X974.here hx rfl (hb hby at_106) rfl ?_
    exact k
   obtain ⟨_, _, ⟨T1009, L1009, k1009, n1009⟩, -, X1009r, hS1009r, hg1009r, ⟨Lc1009, hQ1009, l1009, y1009, z1009, hC1009⟩, st1009⟩ := callSS X974 hx (y := (⟨"com/example/timely_exodus/timelyexodus/plan/LpSolverFromNamePinLaw", "ch", "(ILjava/lang/String;II)C"⟩ : MethodName)) ho974 (mvT hZ974 (own_w hw 8 rfl)) (mvT hZ974 (own_w hw 9 rfl)) (mvT hZ974 (own_w hw 10 rfl)) (mvT hZ974 (own_w hw 11 rfl)) (by decide) (backOfSH (W := 0) (rm1_3 l Z ar0 hw [] a865 p5 p0 ([99, 108, 112]) gc1 gf3 b865 kb865 h974 n0 Z974 P5 rG3 (by decide) (by decide) Sf975 Sf976 Ef1001 Ff1003 Ff1002 Vf1004) hZ974 (own_w hw 11 rfl) (own_w hw 10 rfl) (by decide) (by decide) hEL CR974.1) (g := (mkF m 107 #[vI p0, vI p1, vI p2, vI p3, vI p4, vI p5, vI v565, vR a865, vI v900, vI v936, vI v971, vI v1006, .unset, .unset, .unset] [(.int p0), (.int p5), (.ref a865), (.int 3)])) rfl (by rw [hml]; rfl) (argsL := [(.int 3), (.ref a865), (.int p5), (.int p0)]) (rest := []) (lenOf pd_6 rfl) rfl (by show 2 * 0 + _ ≤ _; exact Nat.le_of_eq rfl) (hb hby at_107) (fun _ _ => ⟨rfl, e974, (by decide : 8 + 2 ≤ _), (by decide : 100 + 28 ≤ _)⟩)
   dsimp only [Pt.U, Pt.locs, Pt.cells, Pt.slots] at X1009r hS1009r hg1009r l1009 y1009 z1009 st1009 hQ1009 hC1009
   subst l1009 y1009 z1009
   obtain ⟨X1009, hS1009, hZ1009, ho1009⟩ := rebS (s := s) (vm0 := T974.vm) (n1 := T974.heap.size) hS974 (by rw [e974]; first | exact hk974 | exact Nat.le_refl _) X1009r hS1009r hg1009r hZ974 ho974
   obtain ⟨h1009, e1009⟩ : ∃ h, T1009.heap = h := ⟨_, rfl⟩
   rw [e1009] at hQ1009
   obtain ⟨rfl, N1009q, K1009q⟩ := hQ1009
   have N1009 := Fr.app N974 N1009q
   have Z1009 : n0 ≤ h1009.size := Nat.le_trans Z974 K1009q.1
   have K1009 : Keep h0 h1009 [] := K974.trans K1009q (fun x hx => absurd hx List.not_mem_nil)
   have Sf1010 : Sta Z h1009 "java/lang/String" "COMPACT_STRINGS" "Z" (.int gc1) := own_sta_keep0 Sf975 K1009q
   have Sf1011 : Sta Z h1009 "jdk/internal/util/Preconditions" "SIOOBE_FORMATTER" "Ljava/util/function/BiFunction;" gf3 := own_sta_keep0 Sf976 K1009q
   have Sf1012 : Sta Z h1009 "com/example/timely_exodus/timelyexodus/plan/LpSolver" "GLOP" "Lcom/example/timely_exodus/timelyexodus/plan/LpSolver;" (.ref s_GLOP) := own_sta_keep0 Sf977 K1009q
   have Sf1013 : Sta Z h1009 "com/example/timely_exodus/timelyexodus/plan/LpSolver" "CLP" "Lcom/example/timely_exodus/timelyexodus/plan/LpSolver;" (.ref s_CLP) := own_sta_keep0 Sf978 K1009q
   have Sf1014 : Sta Z h1009 "com/example/timely_exodus/timelyexodus/plan/LpSolver" "PDLP" "Lcom/example/timely_exodus/timelyexodus/plan/LpSolver;" (.ref s_PDLP) := own_sta_keep0 Sf979 K1009q
   have Sf1015 : Sta Z h1009 "com/example/timely_exodus/timelyexodus/plan/LpSolver" "$VALUES" "[Lcom/example/timely_exodus/timelyexodus/plan/LpSolver;" (.ref s__VALUES) := own_sta_keep0 Sf980 K1009q
   have Vf1016 : Arv Z h1009 s__VALUES k__VALUES (.object "com/example/timely_exodus/timelyexodus/plan/LpSolver") (3 : Int32) [(.ref s_GLOP), (.ref s_CLP), (.ref s_PDLP)] .null := (Vf981).keep K1009q List.not_mem_nil
   have Ef1017 : Exa Z h1009 s__VALUES "[Lcom/example/timely_exodus/timelyexodus/plan/LpSolver;" := (Ef982).keep K1009q
   have Ef1018 : Exa Z h1009 s_GLOP "com/example/timely_exodus/timelyexodus/plan/LpSolver" := (Ef983).keep K1009q
   have Ff1019 : Fld Z h1009 s_GLOP "com/example/timely_exodus/timelyexodus/plan/LpSolver" "name" "Ljava/lang/String;" (.ref n_GLOP) := (Ff984).keep K1009q List.not_mem_nil
   have Ef1020 : Exa Z h1009 n_GLOP "java/lang/String" := (Ef985).keep K1009q
   have Ff1021 : Fld Z h1009 n_GLOP "java/lang/String" "value" "[B" (.ref t_GLOP) := (Ff986).keep K1009q List.not_mem_nil
   have Ff1022 : Fld Z h1009 n_GLOP "java/lang/String" "coder" "B" (.int 0) := (Ff987).keep K1009q List.not_mem_nil
   have Vf1023 : Arv Z h1009 t_GLOP k_t_GLOP .byte (4 : Int32) ((([103, 108, 111, 112] : List Int32).map (fun c => c.toInt8.toInt32)).map Value.int) (.int 0) := (Vf988).keep K1009q List.not_mem_nil
   have Ef1024 : Exa Z h1009 s_CLP "com/example/timely_exodus/timelyexodus/plan/LpSolver" := (Ef989).keep K1009q
   have Ff1025 : Fld Z h1009 s_CLP "com/example/timely_exodus/timelyexodus/plan/LpSolver" "name" "Ljava/lang/String;" (.ref n_CLP) := (Ff990).keep K1009q List.not_mem_nil
   have Ef1026 : Exa Z h1009 n_CLP "java/lang/String" := (Ef991).keep K1009q
   have Ff1027 : Fld Z h1009 n_CLP "java/lang/String" "value" "[B" (.ref t_CLP) := (Ff992).keep K1009q List.not_mem_nil
   have Ff1028 : Fld Z h1009 n_CLP "java/lang/String" "coder" "B" (.int 0) := (Ff993).keep K1009q List.not_mem_nil
   have Vf1029 : Arv Z h1009 t_CLP k_t_CLP .byte (3 : Int32) ((([99, 108, 112] : List Int32).map (fun c => c.toInt8.toInt32)).map Value.int) (.int 0) := (Vf994).keep K1009q List.not_mem_nil
   have Ef1030 : Exa Z h1009 s_PDLP "com/example/timely_exodus/timelyexodus/plan/LpSolver" := (Ef995).keep K1009q
   have Ff1031 : Fld Z h1009 s_PDLP "com/example/timely_exodus/timelyexodus/plan/LpSolver" "name" "Ljava/lang/String;" (.ref n_PDLP) := (Ff996).keep K1009q List.not_mem_nil
   have Ef1032 : Exa Z h1009 n_PDLP "java/lang/String" := (Ef997).keep K1009q
   have Ff1033 : Fld Z h1009 n_PDLP "java/lang/String" "value" "[B" (.ref t_PDLP) := (Ff998).keep K1009q List.not_mem_nil
   have Ff1034 : Fld Z h1009 n_PDLP "java/lang/String" "coder" "B" (.int 0) := (Ff999).keep K1009q List.not_mem_nil
   have Vf1035 : Arv Z h1009 t_PDLP k_t_PDLP .byte (4 : Int32) ((([112, 100, 108, 112] : List Int32).map (fun c => c.toInt8.toInt32)).map Value.int) (.int 0) := (Vf1000).keep K1009q List.not_mem_nil
   have Ef1036 : Exa Z h1009 a865 "java/lang/String" := (Ef1001).keep K1009q
   have Ff1037 : Fld Z h1009 a865 "java/lang/String" "coder" "B" (.int 0) := (Ff1002).keep K1009q List.not_mem_nil
   have Ff1038 : Fld Z h1009 a865 "java/lang/String" "value" "[B" (.ref b865) := (Ff1003).keep K1009q List.not_mem_nil
   have Vf1039 : Arv Z h1009 b865 kb865 .byte (3 : Int32) ((([99, 108, 112] : List Int32).map (fun c => c.toInt8.toInt32)).map Value.int) (.int 0) := (Vf1004).keep K1009q List.not_mem_nil
   rw [e1009] at hC1009
   have CR1009 := CR974.trans hC1009
   have hk1009 : T1009.heap.size ≤ h1009.size := by rw [e1009]; exact Nat.le_refl _
   have pre1040 : own_P p e below T1009 (mkF m 110 #[vI p0, vI p1, vI p2, vI p3, vI p4, vI p5, vI v565, vR a865, vI v900, vI v936, vI v971, vI v1006, .unset, .unset, .unset] [(.int (f1_3 p5 p0 ([99, 108, 112])))]) s₁ (entryFrame m #[(.int p0), (.int p1), (.int p2), (.int p3), (.int p4), (.int p5)] maxLocals) := fun t k => pre1008 t (st1009.trans k)
   obtain ⟨v1041, hv1041⟩ : ∃ z : Int32, z = (f1_3 p5 p0 ([99, 108, 112])) := ⟨_, rfl⟩
   have pre1042 : own_P p e below T1009 (mkF m 110 #[vI p0, vI p1, vI p2, vI p3, vI p4, vI p5, vI v565, vR a865, vI v900, vI v936, vI v971, vI v1006, .unset, .unset, .unset] [(.int v1041)]) s₁ (entryFrame m #[(.int p0), (.int p1), (.int p2), (.int p3), (.int p4), (.int p5)] maxLocals) := by rw [hv1041]; exact pre1040
   have pre1043 : own_P p e below T1009 (mkF m 138 #[vI p0, vI p1, vI p2, vI p3, vI p4, vI p5, vI v565, vR a865, vI v900, vI v936, vI v971, vI v1006, vI v1041, .unset, .unset] [(.int v1041), (.int v1006), (.int v971), (.int v936), (.int v900)]) s₁ (entryFrame m #[(.int p0), (.int p1), (.int p2), (.int p3), (.int p4), (.int p5)] maxLocals) := by
    intro t k
    refine pre1042 t ?_
    refine XS.istore X1009.here hx rfl (hb hby at_110) rfl (l' := #[vI p0, vI p1, vI p2, vI p3, vI p4, vI p5, vI v565, vR a865, vI v900, vI v936, vI v971, vI v1006, vI v1041, .unset, .unset]) rfl ?_
    refine XS.iload X1009.here hx rfl (hb hby at_112) rfl ?_
    refine XS.ifYes X1009.here hx rfl (pc0 := 114) (pc' := 128) rfl (hb hby at_114) rfl ((if0 _ _).trans (feq (fun z => absurd (z.symm.trans hc19_863) (by decide))).2) (by decide) (by decide) ?_
    refine XS.iload X1009.here hx rfl (hb hby at_128) rfl ?_
    refine XS.iload X1009.here hx rfl (hb hby at_130) rfl ?_
    refine XS.iload X1009.here hx rfl (hb hby at_132) rfl ?_
    refine XS.iload X1009.here hx rfl (hb hby at_134) rfl ?_
    refine XS.iload X1009.here hx rfl (hb hby at_136) rfl ?_
    exact k
   obtain ⟨_, _, ⟨T1044, L1044, k1044, n1044⟩, -, X1044r, hS1044r, hg1044r, ⟨Lc1044, hQ1044, l1044, y1044, z1044, hC1044⟩, st1044⟩ := callSS X1009 hx (y := (⟨"com/example/timely_exodus/timelyexodus/plan/LpSolverFromNamePinLaw", "make", "(ICCCC)Ljava/lang/String;"⟩ : MethodName)) ho1009 (mvT hZ1009 (own_w hw 28 rfl)) (mvT hZ1009 (own_w hw 29 rfl)) (mvT hZ1009 (own_w hw 10 rfl)) (mvT hZ1009 (own_w hw 30 rfl)) (by decide) (backOfSH (W := 0) (rm5 l Z ar0 hw [] v900 v936 v971 v1006 v1041 gc1 h1009 n0 Z1009 P5 (by rw [hv936]; exact own_Rf1_0 (by decide)) (by rw [hv971]; exact own_Rf1_1 (by decide)) (by rw [hv1006]; exact own_Rf1_2 (by decide)) (by rw [hv1041]; exact own_Rf1_3 (by decide)) Sf1010) hZ1009 (own_w hw 30 rfl) (own_w hw 10 rfl) (by decide) (by decide) hEL CR1009.1) (g := (mkF m 138 #[vI p0, vI p1, vI p2, vI p3, vI p4, vI p5, vI v565, vR a865, vI v900, vI v936, vI v971, vI v1006, vI v1041, .unset, .unset] [(.int v1041), (.int v1006), (.int v971), (.int v936), (.int v900)])) rfl (by rw [hml]; rfl) (argsL := [(.int v900), (.int v936), (.int v971), (.int v1006), (.int v1041)]) (rest := []) (lenOf pd_7 rfl) rfl (by show 2 * 0 + _ ≤ _; exact Nat.le_of_eq rfl) (hb hby at_138) (fun _ _ => ⟨rfl, e1009, (by decide : 10 + 6 ≤ _), (by decide : 128 + 12 ≤ _)⟩)
   dsimp only [Pt.U, Pt.locs, Pt.cells, Pt.slots] at X1044r hS1044r hg1044r l1044 y1044 z1044 st1044 hQ1044 hC1044
   subst l1044 y1044 z1044
   obtain ⟨X1044, hS1044, hZ1044, ho1044⟩ := rebS (s := s) (vm0 := T1009.vm) (n1 := T1009.heap.size) hS1009 (by rw [e1009]; first | exact hk1009 | exact Nat.le_refl _) X1044r hS1044r hg1044r hZ1009 ho1009
   obtain ⟨h1044, e1044⟩ : ∃ h, T1044.heap = h := ⟨_, rfl⟩
   rw [e1044] at hQ1044
   obtain ⟨b1044, b1044b, kb1044b, rfl, N1044q, K1044q, y_b1044, Ob1044_0, Ob1044_1, Ob1044_2, Ob1044b_0⟩ := hQ1044
   have N1044 := Fr.app N1009 N1044q
   have ne_s__VALUES_b1044 : s__VALUES ≠ b1044 := Nat.ne_of_lt (Nat.lt_of_lt_of_le (Vf1016).lt y_b1044)
   have ne_s_GLOP_b1044 : s_GLOP ≠ b1044 := Nat.ne_of_lt (Nat.lt_of_lt_of_le (Ef1018).lt y_b1044)
   have ne_n_GLOP_b1044 : n_GLOP ≠ b1044 := Nat.ne_of_lt (Nat.lt_of_lt_of_le (Ef1020).lt y_b1044)
   have ne_t_GLOP_b1044 : t_GLOP ≠ b1044 := Nat.ne_of_lt (Nat.lt_of_lt_of_le (Vf1023).lt y_b1044)
   have ne_s_CLP_b1044 : s_CLP ≠ b1044 := Nat.ne_of_lt (Nat.lt_of_lt_of_le (Ef1024).lt y_b1044)
   have ne_n_CLP_b1044 : n_CLP ≠ b1044 := Nat.ne_of_lt (Nat.lt_of_lt_of_le (Ef1026).lt y_b1044)
   have ne_t_CLP_b1044 : t_CLP ≠ b1044 := Nat.ne_of_lt (Nat.lt_of_lt_of_le (Vf1029).lt y_b1044)
   have ne_s_PDLP_b1044 : s_PDLP ≠ b1044 := Nat.ne_of_lt (Nat.lt_of_lt_of_le (Ef1030).lt y_b1044)
   have ne_n_PDLP_b1044 : n_PDLP ≠ b1044 := Nat.ne_of_lt (Nat.lt_of_lt_of_le (Ef1032).lt y_b1044)
   have ne_t_PDLP_b1044 : t_PDLP ≠ b1044 := Nat.ne_of_lt (Nat.lt_of_lt_of_le (Vf1035).lt y_b1044)
   have ne_a865_b1044 : a865 ≠ b1044 := Nat.ne_of_lt (Nat.lt_of_lt_of_le (Ef1036).lt y_b1044)
   have ne_b865_b1044 : b865 ≠ b1044 := Nat.ne_of_lt (Nat.lt_of_lt_of_le (Vf1039).lt y_b1044)
   have g_b1044 : n0 ≤ b1044 := Nat.le_trans Z1009 y_b1044
   have sz_b1044 : h0.size ≤ b1044 := Nat.le_trans K1009.1 y_b1044
   have Z1044 : n0 ≤ h1044.size := Nat.le_trans Z1009 K1044q.1
   have K1044 : Keep h0 h1044 [] := K1009.trans K1044q (fun x hx => absurd hx List.not_mem_nil)
   have Sf1045 : Sta Z h1044 "java/lang/String" "COMPACT_STRINGS" "Z" (.int gc1) := own_sta_keep0 Sf1010 K1044q
   have Sf1046 : Sta Z h1044 "jdk/internal/util/Preconditions" "SIOOBE_FORMATTER" "Ljava/util/function/BiFunction;" gf3 := own_sta_keep0 Sf1011 K1044q
   have Sf1047 : Sta Z h1044 "com/example/timely_exodus/timelyexodus/plan/LpSolver" "GLOP" "Lcom/example/timely_exodus/timelyexodus/plan/LpSolver;" (.ref s_GLOP) := own_sta_keep0 Sf1012 K1044q
   have Sf1048 : Sta Z h1044 "com/example/timely_exodus/timelyexodus/plan/LpSolver" "CLP" "Lcom/example/timely_exodus/timelyexodus/plan/LpSolver;" (.ref s_CLP) := own_sta_keep0 Sf1013 K1044q
   have Sf1049 : Sta Z h1044 "com/example/timely_exodus/timelyexodus/plan/LpSolver" "PDLP" "Lcom/example/timely_exodus/timelyexodus/plan/LpSolver;" (.ref s_PDLP) := own_sta_keep0 Sf1014 K1044q
   have Sf1050 : Sta Z h1044 "com/example/timely_exodus/timelyexodus/plan/LpSolver" "$VALUES" "[Lcom/example/timely_exodus/timelyexodus/plan/LpSolver;" (.ref s__VALUES) := own_sta_keep0 Sf1015 K1044q
   have Vf1051 : Arv Z h1044 s__VALUES k__VALUES (.object "com/example/timely_exodus/timelyexodus/plan/LpSolver") (3 : Int32) [(.ref s_GLOP), (.ref s_CLP), (.ref s_PDLP)] .null := (Vf1016).keep K1044q List.not_mem_nil
   have Ef1052 : Exa Z h1044 s__VALUES "[Lcom/example/timely_exodus/timelyexodus/plan/LpSolver;" := (Ef1017).keep K1044q
   have Ef1053 : Exa Z h1044 s_GLOP "com/example/timely_exodus/timelyexodus/plan/LpSolver" := (Ef1018).keep K1044q
   have Ff1054 : Fld Z h1044 s_GLOP "com/example/timely_exodus/timelyexodus/plan/LpSolver" "name" "Ljava/lang/String;" (.ref n_GLOP) := (Ff1019).keep K1044q List.not_mem_nil
   have Ef1055 : Exa Z h1044 n_GLOP "java/lang/String" := (Ef1020).keep K1044q
   have Ff1056 : Fld Z h1044 n_GLOP "java/lang/String" "value" "[B" (.ref t_GLOP) := (Ff1021).keep K1044q List.not_mem_nil
   have Ff1057 : Fld Z h1044 n_GLOP "java/lang/String" "coder" "B" (.int 0) := (Ff1022).keep K1044q List.not_mem_nil
   have Vf1058 : Arv Z h1044 t_GLOP k_t_GLOP .byte (4 : Int32) ((([103, 108, 111, 112] : List Int32).map (fun c => c.toInt8.toInt32)).map Value.int) (.int 0) := (Vf1023).keep K1044q List.not_mem_nil
   have Ef1059 : Exa Z h1044 s_CLP "com/example/timely_exodus/timelyexodus/plan/LpSolver" := (Ef1024).keep K1044q
   have Ff1060 : Fld Z h1044 s_CLP "com/example/timely_exodus/timelyexodus/plan/LpSolver" "name" "Ljava/lang/String;" (.ref n_CLP) := (Ff1025).keep K1044q List.not_mem_nil
   have Ef1061 : Exa Z h1044 n_CLP "java/lang/String" := (Ef1026).keep K1044q
   have Ff1062 : Fld Z h1044 n_CLP "java/lang/String" "value" "[B" (.ref t_CLP) := (Ff1027).keep K1044q List.not_mem_nil
   have Ff1063 : Fld Z h1044 n_CLP "java/lang/String" "coder" "B" (.int 0) := (Ff1028).keep K1044q List.not_mem_nil
   have Vf1064 : Arv Z h1044 t_CLP k_t_CLP .byte (3 : Int32) ((([99, 108, 112] : List Int32).map (fun c => c.toInt8.toInt32)).map Value.int) (.int 0) := (Vf1029).keep K1044q List.not_mem_nil
   have Ef1065 : Exa Z h1044 s_PDLP "com/example/timely_exodus/timelyexodus/plan/LpSolver" := (Ef1030).keep K1044q
   have Ff1066 : Fld Z h1044 s_PDLP "com/example/timely_exodus/timelyexodus/plan/LpSolver" "name" "Ljava/lang/String;" (.ref n_PDLP) := (Ff1031).keep K1044q List.not_mem_nil
   have Ef1067 : Exa Z h1044 n_PDLP "java/lang/String" := (Ef1032).keep K1044q
   have Ff1068 : Fld Z h1044 n_PDLP "java/lang/String" "value" "[B" (.ref t_PDLP) := (Ff1033).keep K1044q List.not_mem_nil
   have Ff1069 : Fld Z h1044 n_PDLP "java/lang/String" "coder" "B" (.int 0) := (Ff1034).keep K1044q List.not_mem_nil
   have Vf1070 : Arv Z h1044 t_PDLP k_t_PDLP .byte (4 : Int32) ((([112, 100, 108, 112] : List Int32).map (fun c => c.toInt8.toInt32)).map Value.int) (.int 0) := (Vf1035).keep K1044q List.not_mem_nil
   have Ef1071 : Exa Z h1044 a865 "java/lang/String" := (Ef1036).keep K1044q
   have Ff1072 : Fld Z h1044 a865 "java/lang/String" "coder" "B" (.int 0) := (Ff1037).keep K1044q List.not_mem_nil
   have Ff1073 : Fld Z h1044 a865 "java/lang/String" "value" "[B" (.ref b865) := (Ff1038).keep K1044q List.not_mem_nil
   have Vf1074 : Arv Z h1044 b865 kb865 .byte (3 : Int32) ((([99, 108, 112] : List Int32).map (fun c => c.toInt8.toInt32)).map Value.int) (.int 0) := (Vf1039).keep K1044q List.not_mem_nil
   rw [e1044] at hC1044
   have CR1044 := CR1009.trans hC1044
   have hk1044 : T1044.heap.size ≤ h1044.size := by rw [e1044]; exact Nat.le_refl _
   have pre1075 : own_P p e below T1044 (mkF m 141 #[vI p0, vI p1, vI p2, vI p3, vI p4, vI p5, vI v565, vR a865, vI v900, vI v936, vI v971, vI v1006, vI v1041, .unset, .unset] [(.ref b1044)]) s₁ (entryFrame m #[(.int p0), (.int p1), (.int p2), (.int p3), (.int p4), (.int p5)] maxLocals) := fun t k => pre1043 t (st1044.trans k)
   have pre1076 : own_P p e below T1044 (mkF m 145 #[vI p0, vI p1, vI p2, vI p3, vI p4, vI p5, vI v565, vR a865, vI v900, vI v936, vI v971, vI v1006, vI v1041, vR b1044, .unset] [(.ref b1044)]) s₁ (entryFrame m #[(.int p0), (.int p1), (.int p2), (.int p3), (.int p4), (.int p5)] maxLocals) := by
    intro t k
    refine pre1075 t ?_
    refine XS.astore X1044.here hx rfl (hb hby at_141) rfl rfl (l' := #[vI p0, vI p1, vI p2, vI p3, vI p4, vI p5, vI v565, vR a865, vI v900, vI v936, vI v971, vI v1006, vI v1041, vR b1044, .unset]) rfl ?_
    refine XS.aload X1044.here hx rfl (hb hby at_143) rfl rfl ?_
    exact k
   obtain ⟨_, _, ⟨T1077, L1077, k1077, n1077⟩, -, X1077r, hS1077r, hg1077r, ⟨Lc1077, hQ1077, l1077, y1077, z1077, hC1077⟩, st1077⟩ := callSS X1044 hx (y := (⟨"com/example/timely_exodus/timelyexodus/plan/LpSolverFromNamePinLaw", "ref", "(Ljava/lang/String;)Lcom/example/timely_exodus/timelyexodus/plan/LpSolver;"⟩ : MethodName)) ho1044 (mvT hZ1044 (own_w hw 53 rfl)) (mvT hZ1044 (own_w hw 54 rfl)) (mvT hZ1044 (own_w hw 10 rfl)) (mvT hZ1044 (own_w hw 55 rfl)) (by decide) (backOfSH (W := 0) (rm12_y l Z ar0 hw [] b1044 (own_cs v900 v936 v971 v1006 v1041) gc1 b1044b kb1044b s_GLOP s_CLP s_PDLP h1044 n0 Z1044 P5 (own_hpcs (by rw [hv936]; exact own_Rf1_0 (by decide)) (by rw [hv971]; exact own_Rf1_1 (by decide)) (by rw [hv1006]; exact own_Rf1_2 (by decide)) (by rw [hv1041]; exact own_Rf1_3 (by decide))) own_hlcs Sf1045 Ob1044_0 Ob1044_1 Ob1044_2 Ob1044b_0 Sf1047 Sf1048 Sf1049) hZ1044 (own_w hw 55 rfl) (own_w hw 10 rfl) (by decide) (by decide) hEL CR1044.1) (g := (mkF m 145 #[vI p0, vI p1, vI p2, vI p3, vI p4, vI p5, vI v565, vR a865, vI v900, vI v936, vI v971, vI v1006, vI v1041, vR b1044, .unset] [(.ref b1044)])) rfl (by rw [hml]; rfl) (argsL := [(.ref b1044)]) (rest := []) (lenOf pd_8 rfl) rfl (by show 2 * 0 + _ ≤ _; exact Nat.le_of_eq rfl) (hb hby at_145) (fun _ _ => ⟨rfl, e1044, (by decide : 16 + 6 ≤ _), (by decide : 140 + 56 ≤ _)⟩)
   dsimp only [Pt.U, Pt.locs, Pt.cells, Pt.slots] at X1077r hS1077r hg1077r l1077 y1077 z1077 st1077 hQ1077 hC1077
   subst l1077 y1077 z1077
   obtain ⟨X1077, hS1077, hZ1077, ho1077⟩ := rebS (s := s) (vm0 := T1044.vm) (n1 := T1044.heap.size) hS1044 (by rw [e1044]; first | exact hk1044 | exact Nat.le_refl _) X1077r hS1077r hg1077r hZ1044 ho1044
   obtain ⟨h1077, e1077⟩ : ∃ h, T1077.heap = h := ⟨_, rfl⟩
   rw [e1077] at hQ1077
   obtain ⟨rfl, N1077q, K1077q⟩ := hQ1077
   have N1077 := Fr.app N1044 N1077q
   have Z1077 : n0 ≤ h1077.size := Nat.le_trans Z1044 K1077q.1
   have K1077 : Keep h0 h1077 [] := K1044.trans K1077q (fun x hx => absurd hx List.not_mem_nil)
   have Sf1078 : Sta Z h1077 "java/lang/String" "COMPACT_STRINGS" "Z" (.int gc1) := own_sta_keep0 Sf1045 K1077q
   have Sf1079 : Sta Z h1077 "jdk/internal/util/Preconditions" "SIOOBE_FORMATTER" "Ljava/util/function/BiFunction;" gf3 := own_sta_keep0 Sf1046 K1077q
   have Sf1080 : Sta Z h1077 "com/example/timely_exodus/timelyexodus/plan/LpSolver" "GLOP" "Lcom/example/timely_exodus/timelyexodus/plan/LpSolver;" (.ref s_GLOP) := own_sta_keep0 Sf1047 K1077q
   have Sf1081 : Sta Z h1077 "com/example/timely_exodus/timelyexodus/plan/LpSolver" "CLP" "Lcom/example/timely_exodus/timelyexodus/plan/LpSolver;" (.ref s_CLP) := own_sta_keep0 Sf1048 K1077q
   have Sf1082 : Sta Z h1077 "com/example/timely_exodus/timelyexodus/plan/LpSolver" "PDLP" "Lcom/example/timely_exodus/timelyexodus/plan/LpSolver;" (.ref s_PDLP) := own_sta_keep0 Sf1049 K1077q
   have Sf1083 : Sta Z h1077 "com/example/timely_exodus/timelyexodus/plan/LpSolver" "$VALUES" "[Lcom/example/timely_exodus/timelyexodus/plan/LpSolver;" (.ref s__VALUES) := own_sta_keep0 Sf1050 K1077q
   have Vf1084 : Arv Z h1077 s__VALUES k__VALUES (.object "com/example/timely_exodus/timelyexodus/plan/LpSolver") (3 : Int32) [(.ref s_GLOP), (.ref s_CLP), (.ref s_PDLP)] .null := (Vf1051).keep K1077q List.not_mem_nil
   have Ef1085 : Exa Z h1077 s__VALUES "[Lcom/example/timely_exodus/timelyexodus/plan/LpSolver;" := (Ef1052).keep K1077q
   have Ef1086 : Exa Z h1077 s_GLOP "com/example/timely_exodus/timelyexodus/plan/LpSolver" := (Ef1053).keep K1077q
   have Ff1087 : Fld Z h1077 s_GLOP "com/example/timely_exodus/timelyexodus/plan/LpSolver" "name" "Ljava/lang/String;" (.ref n_GLOP) := (Ff1054).keep K1077q List.not_mem_nil
   have Ef1088 : Exa Z h1077 n_GLOP "java/lang/String" := (Ef1055).keep K1077q
   have Ff1089 : Fld Z h1077 n_GLOP "java/lang/String" "value" "[B" (.ref t_GLOP) := (Ff1056).keep K1077q List.not_mem_nil
   have Ff1090 : Fld Z h1077 n_GLOP "java/lang/String" "coder" "B" (.int 0) := (Ff1057).keep K1077q List.not_mem_nil
   have Vf1091 : Arv Z h1077 t_GLOP k_t_GLOP .byte (4 : Int32) ((([103, 108, 111, 112] : List Int32).map (fun c => c.toInt8.toInt32)).map Value.int) (.int 0) := (Vf1058).keep K1077q List.not_mem_nil
   have Ef1092 : Exa Z h1077 s_CLP "com/example/timely_exodus/timelyexodus/plan/LpSolver" := (Ef1059).keep K1077q
   have Ff1093 : Fld Z h1077 s_CLP "com/example/timely_exodus/timelyexodus/plan/LpSolver" "name" "Ljava/lang/String;" (.ref n_CLP) := (Ff1060).keep K1077q List.not_mem_nil
   have Ef1094 : Exa Z h1077 n_CLP "java/lang/String" := (Ef1061).keep K1077q
   have Ff1095 : Fld Z h1077 n_CLP "java/lang/String" "value" "[B" (.ref t_CLP) := (Ff1062).keep K1077q List.not_mem_nil
   have Ff1096 : Fld Z h1077 n_CLP "java/lang/String" "coder" "B" (.int 0) := (Ff1063).keep K1077q List.not_mem_nil
   have Vf1097 : Arv Z h1077 t_CLP k_t_CLP .byte (3 : Int32) ((([99, 108, 112] : List Int32).map (fun c => c.toInt8.toInt32)).map Value.int) (.int 0) := (Vf1064).keep K1077q List.not_mem_nil
   have Ef1098 : Exa Z h1077 s_PDLP "com/example/timely_exodus/timelyexodus/plan/LpSolver" := (Ef1065).keep K1077q
   have Ff1099 : Fld Z h1077 s_PDLP "com/example/timely_exodus/timelyexodus/plan/LpSolver" "name" "Ljava/lang/String;" (.ref n_PDLP) := (Ff1066).keep K1077q List.not_mem_nil
   have Ef1100 : Exa Z h1077 n_PDLP "java/lang/String" := (Ef1067).keep K1077q
   have Ff1101 : Fld Z h1077 n_PDLP "java/lang/String" "value" "[B" (.ref t_PDLP) := (Ff1068).keep K1077q List.not_mem_nil
   have Ff1102 : Fld Z h1077 n_PDLP "java/lang/String" "coder" "B" (.int 0) := (Ff1069).keep K1077q List.not_mem_nil
   have Vf1103 : Arv Z h1077 t_PDLP k_t_PDLP .byte (4 : Int32) ((([112, 100, 108, 112] : List Int32).map (fun c => c.toInt8.toInt32)).map Value.int) (.int 0) := (Vf1070).keep K1077q List.not_mem_nil
   have Ef1104 : Exa Z h1077 a865 "java/lang/String" := (Ef1071).keep K1077q
   have Ff1105 : Fld Z h1077 a865 "java/lang/String" "coder" "B" (.int 0) := (Ff1072).keep K1077q List.not_mem_nil
   have Ff1106 : Fld Z h1077 a865 "java/lang/String" "value" "[B" (.ref b865) := (Ff1073).keep K1077q List.not_mem_nil
   have Vf1107 : Arv Z h1077 b865 kb865 .byte (3 : Int32) ((([99, 108, 112] : List Int32).map (fun c => c.toInt8.toInt32)).map Value.int) (.int 0) := (Vf1074).keep K1077q List.not_mem_nil
   have Ef1108 : Exa Z h1077 b1044 "java/lang/String" := (Ob1044_0).keep K1077q
   have Ff1109 : Fld Z h1077 b1044 "java/lang/String" "value" "[B" (.ref b1044b) := (Ob1044_1).keep K1077q List.not_mem_nil
   have Ff1110 : Fld Z h1077 b1044 "java/lang/String" "coder" "B" (.int 0) := (Ob1044_2).keep K1077q List.not_mem_nil
   have Vf1111 : Arv Z h1077 b1044b kb1044b .byte (Int32.ofNat (own_cs v900 v936 v971 v1006 v1041).length) ((((own_cs v900 v936 v971 v1006 v1041) : List Int32).map (fun c => c.toInt8.toInt32)).map Value.int) (.int 0) := (Ob1044b_0).keep K1077q List.not_mem_nil
   rw [e1077] at hC1077
   have CR1077 := CR1044.trans hC1077
   have hk1077 : T1077.heap.size ≤ h1077.size := by rw [e1077]; exact Nat.le_refl _
   have pre1112 : own_P p e below T1077 (mkF m 148 #[vI p0, vI p1, vI p2, vI p3, vI p4, vI p5, vI v565, vR a865, vI v900, vI v936, vI v971, vI v1006, vI v1041, vR b1044, .unset] [(f12_y (own_cs v900 v936 v971 v1006 v1041) s_GLOP s_CLP s_PDLP)]) s₁ (entryFrame m #[(.int p0), (.int p1), (.int p2), (.int p3), (.int p4), (.int p5)] maxLocals) := fun t k => pre1076 t (st1077.trans k)
   obtain ⟨w1113, hw1113⟩ : ∃ z : Value, z = (f12_y (own_cs v900 v936 v971 v1006 v1041) s_GLOP s_CLP s_PDLP) := ⟨_, rfl⟩
   have pre1114 : own_P p e below T1077 (mkF m 148 #[vI p0, vI p1, vI p2, vI p3, vI p4, vI p5, vI v565, vR a865, vI v900, vI v936, vI v971, vI v1006, vI v1041, vR b1044, .unset] [w1113]) s₁ (entryFrame m #[(.int p0), (.int p1), (.int p2), (.int p3), (.int p4), (.int p5)] maxLocals) := by rw [hw1113]; exact pre1112
   have hr_w1113 : w1113.isRef = true := by rw [hw1113]; exact own_r_f12_y
   have pre1115 : own_P p e below T1077 (mkF m 152 #[vI p0, vI p1, vI p2, vI p3, vI p4, vI p5, vI v565, vR a865, vI v900, vI v936, vI v971, vI v1006, vI v1041, vR b1044, .val w1113] [(.ref b1044)]) s₁ (entryFrame m #[(.int p0), (.int p1), (.int p2), (.int p3), (.int p4), (.int p5)] maxLocals) := by
    intro t k
    refine pre1114 t ?_
    refine XS.astore X1077.here hx rfl (hb hby at_148) rfl (by first | exact hr_w1113 | rfl) (l' := #[vI p0, vI p1, vI p2, vI p3, vI p4, vI p5, vI v565, vR a865, vI v900, vI v936, vI v971, vI v1006, vI v1041, vR b1044, .val w1113]) (by rcases own_rc hr_w1113 with q | ⟨b, q⟩ <;> rw [q] <;> rfl) ?_
    refine XS.aload X1077.here hx rfl (hb hby at_150) rfl rfl ?_
    exact k
   obtain ⟨_, _, ⟨T1116, L1116, k1116, n1116⟩, -, X1116, ⟨Lc1116, hQ1116, l1116, y1116, z1116⟩, st1116⟩ := Jvm.LawKit.callS X1077 hx (y := (⟨"com/example/timely_exodus/timelyexodus/plan/LpSolver", "fromName", "(Ljava/lang/String;)Lcom/example/timely_exodus/timelyexodus/plan/LpSolver;"⟩ : MethodName)) ho1077 (mvT hZ1077 (own_w hw 69 rfl)) (mvT hZ1077 (own_w hw 70 rfl)) (mvT hZ1077 (own_w hw 71 rfl)) (mvT hZ1077 (own_w hw 72 rfl)) (by decide) (backOf (W := 0) (rm15_y l Z ar0 hw [] b1044 (own_cs v900 v936 v971 v1006 v1041) gc1 b1044b kb1044b s__VALUES k__VALUES s_GLOP s_CLP s_PDLP n_GLOP t_GLOP k_t_GLOP n_CLP t_CLP k_t_CLP n_PDLP t_PDLP k_t_PDLP h1077 n0 Z1077 P5 (own_hpcs (by rw [hv936]; exact own_Rf1_0 (by decide)) (by rw [hv971]; exact own_Rf1_1 (by decide)) (by rw [hv1006]; exact own_Rf1_2 (by decide)) (by rw [hv1041]; exact own_Rf1_3 (by decide))) own_hlcs Sf1078 Ef1108 Ff1109 Ff1110 Vf1111 Sf1083 Vf1084 Ef1085 Ef1086 Ff1087 Ef1088 Ff1089 Ff1090 Vf1091 Ef1092 Ff1093 Ef1094 Ff1095 Ff1096 Vf1097 Ef1098 Ff1099 Ef1100 Ff1101 Ff1102 Vf1103) hZ1077 (own_w hw 72 rfl) (own_w hw 71 rfl) (by decide) (by decide)) (g := (mkF m 152 #[vI p0, vI p1, vI p2, vI p3, vI p4, vI p5, vI v565, vR a865, vI v900, vI v936, vI v971, vI v1006, vI v1041, vR b1044, .val w1113] [(.ref b1044)])) rfl (by rw [hml]; rfl) (argsL := [(.ref b1044)]) (rest := []) (lenOf pd_8 rfl) rfl (by show 2 * 0 + _ ≤ _; exact Nat.le_of_eq rfl) (hb hby at_152) (fun _ _ => ⟨rfl, e1077, (by decide : 22 + 1 ≤ _), (by decide : 196 + 3 ≤ _)⟩)
   dsimp only [Pt.U, Pt.locs, Pt.cells, Pt.slots] at X1116 l1116 y1116 z1116 st1116 hQ1116
   subst l1116 y1116 z1116
   obtain ⟨h1116, e1116⟩ : ∃ h, T1116.heap = h := ⟨_, rfl⟩
   rw [e1116] at hQ1116
   obtain ⟨rfl, N1116q, K1116q⟩ := hQ1116
   have N1116 := Fr.app N1077 N1116q
   have Z1116 : n0 ≤ h1116.size := Nat.le_trans Z1077 K1116q.1
   have hk1116 := Nat.le_trans hk1077 K1116q.1
   have K1116 : Keep h0 h1116 [] := K1077.trans K1116q (fun x hx => absurd hx List.not_mem_nil)
   have CR1116 := CR1077.trans (CHr.keep K1116q sf0 CR1077.1)
   have Sf1117 : Sta Z h1116 "java/lang/String" "COMPACT_STRINGS" "Z" (.int gc1) := own_sta_keep0 Sf1078 K1116q
   have Sf1118 : Sta Z h1116 "jdk/internal/util/Preconditions" "SIOOBE_FORMATTER" "Ljava/util/function/BiFunction;" gf3 := own_sta_keep0 Sf1079 K1116q
   have Sf1119 : Sta Z h1116 "com/example/timely_exodus/timelyexodus/plan/LpSolver" "GLOP" "Lcom/example/timely_exodus/timelyexodus/plan/LpSolver;" (.ref s_GLOP) := own_sta_keep0 Sf1080 K1116q
   have Sf1120 : Sta Z h1116 "com/example/timely_exodus/timelyexodus/plan/LpSolver" "CLP" "Lcom/example/timely_exodus/timelyexodus/plan/LpSolver;" (.ref s_CLP) := own_sta_keep0 Sf1081 K1116q
   have Sf1121 : Sta Z h1116 "com/example/timely_exodus/timelyexodus/plan/LpSolver" "PDLP" "Lcom/example/timely_exodus/timelyexodus/plan/LpSolver;" (.ref s_PDLP) := own_sta_keep0 Sf1082 K1116q
   have Sf1122 : Sta Z h1116 "com/example/timely_exodus/timelyexodus/plan/LpSolver" "$VALUES" "[Lcom/example/timely_exodus/timelyexodus/plan/LpSolver;" (.ref s__VALUES) := own_sta_keep0 Sf1083 K1116q
   have Vf1123 : Arv Z h1116 s__VALUES k__VALUES (.object "com/example/timely_exodus/timelyexodus/plan/LpSolver") (3 : Int32) [(.ref s_GLOP), (.ref s_CLP), (.ref s_PDLP)] .null := (Vf1084).keep K1116q List.not_mem_nil
   have Ef1124 : Exa Z h1116 s__VALUES "[Lcom/example/timely_exodus/timelyexodus/plan/LpSolver;" := (Ef1085).keep K1116q
   have Ef1125 : Exa Z h1116 s_GLOP "com/example/timely_exodus/timelyexodus/plan/LpSolver" := (Ef1086).keep K1116q
   have Ff1126 : Fld Z h1116 s_GLOP "com/example/timely_exodus/timelyexodus/plan/LpSolver" "name" "Ljava/lang/String;" (.ref n_GLOP) := (Ff1087).keep K1116q List.not_mem_nil
   have Ef1127 : Exa Z h1116 n_GLOP "java/lang/String" := (Ef1088).keep K1116q
   have Ff1128 : Fld Z h1116 n_GLOP "java/lang/String" "value" "[B" (.ref t_GLOP) := (Ff1089).keep K1116q List.not_mem_nil
   have Ff1129 : Fld Z h1116 n_GLOP "java/lang/String" "coder" "B" (.int 0) := (Ff1090).keep K1116q List.not_mem_nil
   have Vf1130 : Arv Z h1116 t_GLOP k_t_GLOP .byte (4 : Int32) ((([103, 108, 111, 112] : List Int32).map (fun c => c.toInt8.toInt32)).map Value.int) (.int 0) := (Vf1091).keep K1116q List.not_mem_nil
   have Ef1131 : Exa Z h1116 s_CLP "com/example/timely_exodus/timelyexodus/plan/LpSolver" := (Ef1092).keep K1116q
   have Ff1132 : Fld Z h1116 s_CLP "com/example/timely_exodus/timelyexodus/plan/LpSolver" "name" "Ljava/lang/String;" (.ref n_CLP) := (Ff1093).keep K1116q List.not_mem_nil
   have Ef1133 : Exa Z h1116 n_CLP "java/lang/String" := (Ef1094).keep K1116q
   have Ff1134 : Fld Z h1116 n_CLP "java/lang/String" "value" "[B" (.ref t_CLP) := (Ff1095).keep K1116q List.not_mem_nil
   have Ff1135 : Fld Z h1116 n_CLP "java/lang/String" "coder" "B" (.int 0) := (Ff1096).keep K1116q List.not_mem_nil
   have Vf1136 : Arv Z h1116 t_CLP k_t_CLP .byte (3 : Int32) ((([99, 108, 112] : List Int32).map (fun c => c.toInt8.toInt32)).map Value.int) (.int 0) := (Vf1097).keep K1116q List.not_mem_nil
   have Ef1137 : Exa Z h1116 s_PDLP "com/example/timely_exodus/timelyexodus/plan/LpSolver" := (Ef1098).keep K1116q
   have Ff1138 : Fld Z h1116 s_PDLP "com/example/timely_exodus/timelyexodus/plan/LpSolver" "name" "Ljava/lang/String;" (.ref n_PDLP) := (Ff1099).keep K1116q List.not_mem_nil
   have Ef1139 : Exa Z h1116 n_PDLP "java/lang/String" := (Ef1100).keep K1116q
   have Ff1140 : Fld Z h1116 n_PDLP "java/lang/String" "value" "[B" (.ref t_PDLP) := (Ff1101).keep K1116q List.not_mem_nil
   have Ff1141 : Fld Z h1116 n_PDLP "java/lang/String" "coder" "B" (.int 0) := (Ff1102).keep K1116q List.not_mem_nil
   have Vf1142 : Arv Z h1116 t_PDLP k_t_PDLP .byte (4 : Int32) ((([112, 100, 108, 112] : List Int32).map (fun c => c.toInt8.toInt32)).map Value.int) (.int 0) := (Vf1103).keep K1116q List.not_mem_nil
   have Ef1143 : Exa Z h1116 a865 "java/lang/String" := (Ef1104).keep K1116q
   have Ff1144 : Fld Z h1116 a865 "java/lang/String" "coder" "B" (.int 0) := (Ff1105).keep K1116q List.not_mem_nil
   have Ff1145 : Fld Z h1116 a865 "java/lang/String" "value" "[B" (.ref b865) := (Ff1106).keep K1116q List.not_mem_nil
   have Vf1146 : Arv Z h1116 b865 kb865 .byte (3 : Int32) ((([99, 108, 112] : List Int32).map (fun c => c.toInt8.toInt32)).map Value.int) (.int 0) := (Vf1107).keep K1116q List.not_mem_nil
   have Ef1147 : Exa Z h1116 b1044 "java/lang/String" := (Ef1108).keep K1116q
   have Ff1148 : Fld Z h1116 b1044 "java/lang/String" "value" "[B" (.ref b1044b) := (Ff1109).keep K1116q List.not_mem_nil
   have Ff1149 : Fld Z h1116 b1044 "java/lang/String" "coder" "B" (.int 0) := (Ff1110).keep K1116q List.not_mem_nil
   have Vf1150 : Arv Z h1116 b1044b kb1044b .byte (Int32.ofNat (own_cs v900 v936 v971 v1006 v1041).length) ((((own_cs v900 v936 v971 v1006 v1041) : List Int32).map (fun c => c.toInt8.toInt32)).map Value.int) (.int 0) := (Vf1111).keep K1116q List.not_mem_nil
   have pre1151 : own_P p e below T1116 (mkF m 155 #[vI p0, vI p1, vI p2, vI p3, vI p4, vI p5, vI v565, vR a865, vI v900, vI v936, vI v971, vI v1006, vI v1041, vR b1044, .val w1113] [(f15_y (own_cs v900 v936 v971 v1006 v1041) s_GLOP s_CLP s_PDLP)]) s₁ (entryFrame m #[(.int p0), (.int p1), (.int p2), (.int p3), (.int p4), (.int p5)] maxLocals) := fun t k => pre1115 t (st1116 t k)
   obtain ⟨w1152, hw1152⟩ : ∃ z : Value, z = (f15_y (own_cs v900 v936 v971 v1006 v1041) s_GLOP s_CLP s_PDLP) := ⟨_, rfl⟩
   have pre1153 : own_P p e below T1116 (mkF m 155 #[vI p0, vI p1, vI p2, vI p3, vI p4, vI p5, vI v565, vR a865, vI v900, vI v936, vI v971, vI v1006, vI v1041, vR b1044, .val w1113] [w1152]) s₁ (entryFrame m #[(.int p0), (.int p1), (.int p2), (.int p3), (.int p4), (.int p5)] maxLocals) := by rw [hw1152]; exact pre1151
   have hr_w1152 : w1152.isRef = true := by rw [hw1152]; exact own_r_f15_y
   have pre1154 : own_P p e below T1116 (mkF m 157 #[vI p0, vI p1, vI p2, vI p3, vI p4, vI p5, vI v565, vR a865, vI v900, vI v936, vI v971, vI v1006, vI v1041, vR b1044, .val w1113] [w1113, w1152]) s₁ (entryFrame m #[(.int p0), (.int p1), (.int p2), (.int p3), (.int p4), (.int p5)] maxLocals) := by
    intro t k
    refine pre1153 t ?_
    refine XS.aload X1116.here hx rfl (hb hby at_155) rfl (by first | exact hr_w1113 | rfl) ?_
    exact k
   by_cases hc157_1155 : (w1152 : Value) = w1113
   ·
    obtain ⟨fs, hr, hrun, hended, hRW⟩ := X1116.leaveW (s := s) (vm₁ := T1077.vm) hS1077 (by rw [e1116]; first | exact hk1116 | exact Nat.le_refl _) (v := some (.int 1)) (fun h => by rw [Bd.returns] at h; cases h)
    refine ⟨_, _, pre1154 _ ?_, hrun, hended, _, _, rfl, ?_, hRW.1, hRW.2.1, hRW.2.2.1, hRW.2.2.2.mono (by decide) (by decide)⟩
    ·
     refine Jvm.RoadKit.acmp (g := (mkF m 157 #[vI p0, vI p1, vI p2, vI p3, vI p4, vI p5, vI v565, vR a865, vI v900, vI v936, vI v971, vI v1006, vI v1041, vR b1044, .val w1113] [w1113, w1152])) X1116 hx rfl hr_w1152 hr_w1113 (pc0 := 157) (pc' := 160) (same := true) rfl (hb hby at_157) rfl (decide_eq_true hc157_1155) (by decide) (by decide) ?_
     refine XS.iconst X1116.here hx rfl (hb hby at_160) ?_
     refine XS.goto X1116.here hx rfl (pc0 := 161) (pc' := 165) rfl (hb hby at_161) (by decide) (by decide) ?_
     exact retN X1116 hx (t := .boolean) Bd.returns (by simp) (hb hby at_165) hr
    ·
     show Q0 Z p0 p1 p2 p3 p4 p5 gc1 gf3 s_GLOP s_CLP s_PDLP s__VALUES k__VALUES n_GLOP t_GLOP k_t_GLOP n_CLP t_CLP k_t_CLP n_PDLP t_PDLP k_t_PDLP h0 n0 _ T1116.heap _
     rw [e1116]
     exact ⟨rfl, N1116⟩
   ·
    have pre1156 : ∀ t, Steps p.tables e below (T1116.setTop (mkF m 165 #[vI p0, vI p1, vI p2, vI p3, vI p4, vI p5, vI v565, vR a865, vI v900, vI v936, vI v971, vI v1006, vI v1041, vR b1044, .val w1113] [(.int 0)])) t → Steps p.tables e below (s₁.setTop (entryFrame m #[(.int p0), (.int p1), (.int p2), (.int p3), (.int p4), (.int p5)] maxLocals)) t := by
     intro t k
     refine pre1154 t ?_
     refine Jvm.RoadKit.acmp (g := (mkF m 157 #[vI p0, vI p1, vI p2, vI p3, vI p4, vI p5, vI v565, vR a865, vI v900, vI v936, vI v971, vI v1006, vI v1041, vR b1044, .val w1113] [w1113, w1152])) X1116 hx rfl hr_w1152 hr_w1113 (pc0 := 157) (pc' := 164) (same := false) rfl (hb hby at_157) rfl (decide_eq_false hc157_1155) (by decide) (by decide) ?_
     refine XS.iconst X1116.here hx rfl (hb hby at_164) ?_
     exact k
    exact (own_leaf2 rG3 P5 hv565 hc8_568 hc19_863 hv900 hv936 hv971 hv1006 hv1041 hw1113 hw1152 hc157_1155).elim
  ·
   have pre1157 : ∀ t, Steps p.tables e below (s₁.setTop (mkF m 30 #[vI p0, vI p1, vI p2, vI p3, vI p4, vI p5, vI v565, .unset, .unset, .unset, .unset, .unset, .unset, .unset, .unset] [(.int 3), (.int v565)])) t → Steps p.tables e below (s₁.setTop (entryFrame m #[(.int p0), (.int p1), (.int p2), (.int p3), (.int p4), (.int p5)] maxLocals)) t := by
    intro t k
    refine pre862 t ?_
    refine XS.icmpYes X0.here hx rfl (pc0 := 19) (pc' := 27) rfl (hb hby at_19) rfl (feq hc19_863).2 (by decide) (by decide) ?_
    refine XS.iload X0.here hx rfl (hb hby at_27) rfl ?_
    refine XS.iconst X0.here hx rfl (hb hby at_29) ?_
    exact k
   by_cases hc30_1158 : v565 = (3 : Int32)
   ·
    have pre1159 : ∀ t, Steps p.tables e below (s₁.setTop (mkF m 33 #[vI p0, vI p1, vI p2, vI p3, vI p4, vI p5, vI v565, .unset, .unset, .unset, .unset, .unset, .unset, .unset, .unset] [])) t → Steps p.tables e below (s₁.setTop (entryFrame m #[(.int p0), (.int p1), (.int p2), (.int p3), (.int p4), (.int p5)] maxLocals)) t := by
     intro t k
     refine pre1157 t ?_
     refine XS.icmpNo X0.here hx rfl (hb hby at_30) rfl (teq hc30_1158).2 ?_
     exact k
    obtain ⟨a1160, T1160, h1160, k1160, b1160, kb1160, X1160, e1160, E1160, hS1160, hk1160, hZ1160, ho1160, Ea1160, Ca1160, Va1160, Ab1160, la1160, lb1160, hC1160, -, hn1160, st1160⟩ := ldcCH (s := s) (vm0 := s.vm) X0 hx hZ hown (own_w hw 68 rfl) (own_strW hw) e0 hS0 (Nat.zero_le _) hEL (List.mem_of_getElem? (i := 2) rfl) hCR0.1 (vs := [(.int 112), (.int 100), (.int 108), (.int 112)]) (z := (4 : Int32)) ⟨by decide, rfl⟩ (by decide) rfl (g := (mkF m 33 #[vI p0, vI p1, vI p2, vI p3, vI p4, vI p5, vI v565, .unset, .unset, .unset, .unset, .unset, .unset, .unset, .unset] [])) rfl (hb hby at_33) (n := 16) (by decide) (by decide) (by decide) (by decide)
    have CR1160 := hCR0.trans hC1160
    have Z1160 : n0 ≤ h1160.size := Nat.le_trans Z0 E1160.1
    have K1160 : Keep h0 h1160 [] := (Keep.refl h0 []).ext E1160
    have Sf1161 : Sta Z h1160 "java/lang/String" "COMPACT_STRINGS" "Z" (.int gc1) := (S_COMPACT_STRINGS).ext E1160
    have Sf1162 : Sta Z h1160 "jdk/internal/util/Preconditions" "SIOOBE_FORMATTER" "Ljava/util/function/BiFunction;" gf3 := (S_SIOOBE_FORMATTER).ext E1160
    have Sf1163 : Sta Z h1160 "com/example/timely_exodus/timelyexodus/plan/LpSolver" "GLOP" "Lcom/example/timely_exodus/timelyexodus/plan/LpSolver;" (.ref s_GLOP) := (S_GLOP).ext E1160
    have Sf1164 : Sta Z h1160 "com/example/timely_exodus/timelyexodus/plan/LpSolver" "CLP" "Lcom/example/timely_exodus/timelyexodus/plan/LpSolver;" (.ref s_CLP) := (S_CLP).ext E1160
    have Sf1165 : Sta Z h1160 "com/example/timely_exodus/timelyexodus/plan/LpSolver" "PDLP" "Lcom/example/timely_exodus/timelyexodus/plan/LpSolver;" (.ref s_PDLP) := (S_PDLP).ext E1160
    have Sf1166 : Sta Z h1160 "com/example/timely_exodus/timelyexodus/plan/LpSolver" "$VALUES" "[Lcom/example/timely_exodus/timelyexodus/plan/LpSolver;" (.ref s__VALUES) := (S__VALUES).ext E1160
    have Vf1167 : Arv Z h1160 s__VALUES k__VALUES (.object "com/example/timely_exodus/timelyexodus/plan/LpSolver") (3 : Int32) [(.ref s_GLOP), (.ref s_CLP), (.ref s_PDLP)] .null := (V_s__VALUES).ext E1160
    have Ef1168 : Exa Z h1160 s__VALUES "[Lcom/example/timely_exodus/timelyexodus/plan/LpSolver;" := (E_s__VALUES).ext E1160
    have Ef1169 : Exa Z h1160 s_GLOP "com/example/timely_exodus/timelyexodus/plan/LpSolver" := (E_s_GLOP).ext E1160
    have Ff1170 : Fld Z h1160 s_GLOP "com/example/timely_exodus/timelyexodus/plan/LpSolver" "name" "Ljava/lang/String;" (.ref n_GLOP) := (F_name_s_GLOP).ext E1160
    have Ef1171 : Exa Z h1160 n_GLOP "java/lang/String" := (E_n_GLOP).ext E1160
    have Ff1172 : Fld Z h1160 n_GLOP "java/lang/String" "value" "[B" (.ref t_GLOP) := (F_value_n_GLOP).ext E1160
    have Ff1173 : Fld Z h1160 n_GLOP "java/lang/String" "coder" "B" (.int 0) := (F_coder_n_GLOP).ext E1160
    have Vf1174 : Arv Z h1160 t_GLOP k_t_GLOP .byte (4 : Int32) ((([103, 108, 111, 112] : List Int32).map (fun c => c.toInt8.toInt32)).map Value.int) (.int 0) := (B_t_GLOP).ext E1160
    have Ef1175 : Exa Z h1160 s_CLP "com/example/timely_exodus/timelyexodus/plan/LpSolver" := (E_s_CLP).ext E1160
    have Ff1176 : Fld Z h1160 s_CLP "com/example/timely_exodus/timelyexodus/plan/LpSolver" "name" "Ljava/lang/String;" (.ref n_CLP) := (F_name_s_CLP).ext E1160
    have Ef1177 : Exa Z h1160 n_CLP "java/lang/String" := (E_n_CLP).ext E1160
    have Ff1178 : Fld Z h1160 n_CLP "java/lang/String" "value" "[B" (.ref t_CLP) := (F_value_n_CLP).ext E1160
    have Ff1179 : Fld Z h1160 n_CLP "java/lang/String" "coder" "B" (.int 0) := (F_coder_n_CLP).ext E1160
    have Vf1180 : Arv Z h1160 t_CLP k_t_CLP .byte (3 : Int32) ((([99, 108, 112] : List Int32).map (fun c => c.toInt8.toInt32)).map Value.int) (.int 0) := (B_t_CLP).ext E1160
    have Ef1181 : Exa Z h1160 s_PDLP "com/example/timely_exodus/timelyexodus/plan/LpSolver" := (E_s_PDLP).ext E1160
    have Ff1182 : Fld Z h1160 s_PDLP "com/example/timely_exodus/timelyexodus/plan/LpSolver" "name" "Ljava/lang/String;" (.ref n_PDLP) := (F_name_s_PDLP).ext E1160
    have Ef1183 : Exa Z h1160 n_PDLP "java/lang/String" := (E_n_PDLP).ext E1160
    have Ff1184 : Fld Z h1160 n_PDLP "java/lang/String" "value" "[B" (.ref t_PDLP) := (F_value_n_PDLP).ext E1160
    have Ff1185 : Fld Z h1160 n_PDLP "java/lang/String" "coder" "B" (.int 0) := (F_coder_n_PDLP).ext E1160
    have Vf1186 : Arv Z h1160 t_PDLP k_t_PDLP .byte (4 : Int32) ((([112, 100, 108, 112] : List Int32).map (fun c => c.toInt8.toInt32)).map Value.int) (.int 0) := (B_t_PDLP).ext E1160
    have pre1187 : own_P p e below T1160 (mkF m 35 #[vI p0, vI p1, vI p2, vI p3, vI p4, vI p5, vI v565, .unset, .unset, .unset, .unset, .unset, .unset, .unset, .unset] [(.ref a1160)]) s₁ (entryFrame m #[(.int p0), (.int p1), (.int p2), (.int p3), (.int p4), (.int p5)] maxLocals) := fun t k => pre1159 t (st1160 t k)
    have pre1188 : own_P p e below T1160 (mkF m 51 #[vI p0, vI p1, vI p2, vI p3, vI p4, vI p5, vI v565, vR a1160, .unset, .unset, .unset, .unset, .unset, .unset, .unset] [(.int (p0 &&& (64 : Int32)))]) s₁ (entryFrame m #[(.int p0), (.int p1), (.int p2), (.int p3), (.int p4), (.int p5)] maxLocals) := by
     intro t k
     refine pre1187 t ?_
     refine XS.goto X1160.here hx rfl (pc0 := 35) (pc' := 40) rfl (hb hby at_35) (by decide) (by decide) ?_
     refine XS.astore X1160.here hx rfl (hb hby at_40) rfl rfl (l' := #[vI p0, vI p1, vI p2, vI p3, vI p4, vI p5, vI v565, vR a1160, .unset, .unset, .unset, .unset, .unset, .unset, .unset]) rfl ?_
     refine XS.iload X1160.here hx rfl (hb hby at_42) rfl ?_
     refine XS.ifNo X1160.here hx rfl (hb hby at_44) rfl ((if0 _ _).trans (feq (fun z => absurd (z.symm.trans hc30_1158) (by decide))).1) ?_
     refine XS.iloadN X1160.here hx rfl (hb hby at_47) rfl ?_
     refine XS.bipush X1160.here hx rfl (hb hby at_48) ?_
     refine XS.iand X1160.here hx rfl (hb hby at_50) rfl ?_
     exact k
    obtain ⟨T1197, L1197, v1195, X1197, N1197, e1197, pre1196, hv1195⟩ : ∃ (T1197 : State) (L1197 : List Loc) (v1195 : Int32), Stand p l e room_1 (s.setVm T1160.vm) m #[(.int p0), (.int p1), (.int p2), (.int p3), (.int p4), (.int p5)] below meth c T1197 L1197 2 20 ∧ Fr n0 L1197 ∧ T1197.heap = h1160 ∧ (∀ t, Steps p.tables e below (T1197.setTop (mkF m 68 #[vI p0, vI p1, vI p2, vI p3, vI p4, vI p5, vI v565, vR a1160, .unset, .unset, .unset, .unset, .unset, .unset, .unset] [(.int v1195)])) t → Steps p.tables e below (s₁.setTop (entryFrame m #[(.int p0), (.int p1), (.int p2), (.int p3), (.int p4), (.int p5)] maxLocals)) t) ∧ v1195 = (if (p0 &&& (64 : Int32)) = (0 : Int32) then (Int32.ofNat ([112, 100, 108, 112] : List Int32).length) else ((p1 &&& (7 : Int32)) % (5 : Int32))) := by
     by_cases hc51_1189 : (p0 &&& (64 : Int32)) = (0 : Int32)
     ·
      have pre1190 : ∀ t, Steps p.tables e below (T1160.setTop (mkF m 56 #[vI p0, vI p1, vI p2, vI p3, vI p4, vI p5, vI v565, vR a1160, .unset, .unset, .unset, .unset, .unset, .unset, .unset] [(.ref a1160)])) t → Steps p.tables e below (s₁.setTop (entryFrame m #[(.int p0), (.int p1), (.int p2), (.int p3), (.int p4), (.int p5)] maxLocals)) t := by
       intro t k
       refine pre1188 t ?_
       refine XS.ifNo X1160.here hx rfl (hb hby at_51) rfl ((if0 _ _).trans (teq hc51_1189).2) ?_
       refine XS.aload X1160.here hx rfl (hb hby at_54) rfl rfl ?_
       exact k
      obtain ⟨cq1191, kq1191, q1191a, q1191b, q1191c⟩ := isOf hZ1160 e1160 Ea1160
      obtain ⟨_, _, ⟨T1191, L1191, k1191, n1191⟩, -, X1191, ⟨Lc1191, hQ1191, l1191, y1191, z1191⟩, st1191⟩ := X1160.virtualBack hx (y := (⟨"java/lang/String", "length", "()I"⟩ : MethodName)) (z := (⟨"java/lang/String", "length", "()I"⟩ : MethodName)) ho1160 (mvT hZ1160 (own_w hw 12 rfl)) (mvT hZ1160 (own_w hw 13 rfl)) (notFace_of_selects (args := #[]) (mvT hZ1160 (own_w hw 15 rfl))) (mvT hZ1160 (own_w hw 15 rfl)) (mvT hZ1160 (own_w hw 14 rfl)) (by decide) (StrChars.Road.lenW (W := 0) hZ1160 (own_wordsLen hw) (kI := 4) (own_w hw 2 rfl) Ea1160 Va1160 Ca1160 Ab1160 (own_hcdG (cs := [112, 100, 108, 112]) (by decide)) (own_up [112, 100, 108, 112] (by decide)) Sf1161 P5 (Nat.le_of_ble_eq_true rfl) (by decide) (by decide)) q1191a q1191c (g := (mkF m 56 #[vI p0, vI p1, vI p2, vI p3, vI p4, vI p5, vI v565, vR a1160, .unset, .unset, .unset, .unset, .unset, .unset, .unset] [(.ref a1160)])) rfl (by rw [hml]; rfl) (Steps.refl _) (argsL := []) (rest := []) (lenOf pd_2 rfl) rfl (by show 2 * 0 + _ ≤ _; exact Nat.le_of_eq rfl) (hb hby at_56) (fun _ _ => ⟨rfl, e1160, (by decide : 2 + 0 ≤ _), (by decide : 20 + 0 ≤ _)⟩)
      dsimp only [Pt.U, Pt.locs, Pt.cells, Pt.slots] at X1191 l1191 y1191 z1191 st1191 hQ1191
      subst l1191 y1191 z1191
      obtain ⟨rfl, rfl, e1191⟩ := hQ1191
      try rw [List.append_nil] at X1191
      have pre1192 : own_P p e below T1191 (mkF m 59 #[vI p0, vI p1, vI p2, vI p3, vI p4, vI p5, vI v565, vR a1160, .unset, .unset, .unset, .unset, .unset, .unset, .unset] [(.int (Int32.ofNat ([112, 100, 108, 112] : List Int32).length))]) s₁ (entryFrame m #[(.int p0), (.int p1), (.int p2), (.int p3), (.int p4), (.int p5)] maxLocals) := fun t k => pre1190 t (st1191.trans k)
      have pre1193 : own_P p e below T1191 (mkF m 68 #[vI p0, vI p1, vI p2, vI p3, vI p4, vI p5, vI v565, vR a1160, .unset, .unset, .unset, .unset, .unset, .unset, .unset] [(.int (Int32.ofNat ([112, 100, 108, 112] : List Int32).length))]) s₁ (entryFrame m #[(.int p0), (.int p1), (.int p2), (.int p3), (.int p4), (.int p5)] maxLocals) := by
       intro t k
       refine pre1192 t ?_
       refine XS.goto X1191.here hx rfl (pc0 := 59) (pc' := 68) rfl (hb hby at_59) (by decide) (by decide) ?_
       exact k
      exact ⟨T1191, _, (Int32.ofNat ([112, 100, 108, 112] : List Int32).length), X1191, N0, e1191, pre1193, by rw [if_pos hc51_1189]⟩
     ·
      have pre1194 : ∀ t, Steps p.tables e below (T1160.setTop (mkF m 68 #[vI p0, vI p1, vI p2, vI p3, vI p4, vI p5, vI v565, vR a1160, .unset, .unset, .unset, .unset, .unset, .unset, .unset] [(.int ((p1 &&& (7 : Int32)) % (5 : Int32)))])) t → Steps p.tables e below (s₁.setTop (entryFrame m #[(.int p0), (.int p1), (.int p2), (.int p3), (.int p4), (.int p5)] maxLocals)) t := by
       intro t k
       refine pre1188 t ?_
       refine XS.ifYes X1160.here hx rfl (pc0 := 51) (pc' := 62) rfl (hb hby at_51) rfl ((if0 _ _).trans (feq hc51_1189).2) (by decide) (by decide) ?_
       refine XS.iloadN X1160.here hx rfl (hb hby at_62) rfl ?_
       refine XS.bipush X1160.here hx rfl (hb hby at_63) ?_
       refine XS.iand X1160.here hx rfl (hb hby at_65) rfl ?_
       refine XS.iconst X1160.here hx rfl (hb hby at_66) ?_
       refine iremM X1160 hx rfl (hb hby at_67) rfl (by decide) ?_
       exact k
      exact ⟨T1160, _, ((p1 &&& (7 : Int32)) % (5 : Int32)), X1160, N0, e1160, pre1194, by rw [if_neg hc51_1189]⟩
    have pre1198 : own_P p e below T1197 (mkF m 75 #[vI p0, vI p1, vI p2, vI p3, vI p4, vI p5, vI v565, vR a1160, vI v1195, .unset, .unset, .unset, .unset, .unset, .unset] [(.int p0), (.int p2), (.ref a1160), (.int 0)]) s₁ (entryFrame m #[(.int p0), (.int p1), (.int p2), (.int p3), (.int p4), (.int p5)] maxLocals) := by
     intro t k
     refine pre1196 t ?_
     refine XS.istore X1197.here hx rfl (hb hby at_68) rfl (l' := #[vI p0, vI p1, vI p2, vI p3, vI p4, vI p5, vI v565, vR a1160, vI v1195, .unset, .unset, .unset, .unset, .unset, .unset]) rfl ?_
     refine XS.iconst X1197.here hx rfl (hb hby at_70) ?_
     refine XS.aload X1197.here hx rfl (hb hby at_71) rfl rfl ?_
     refine XS.iloadN X1197.here hx rfl (hb hby at_73) rfl ?_
     refine XS.iloadN X1197.here hx rfl (hb hby at_74) rfl ?_
     exact k
    obtain ⟨_, _, ⟨T1199, L1199, k1199, n1199⟩, -, X1199r, hS1199r, hg1199r, ⟨Lc1199, hQ1199, l1199, y1199, z1199, hC1199⟩, st1199⟩ := callSS X1197 hx (y := (⟨"com/example/timely_exodus/timelyexodus/plan/LpSolverFromNamePinLaw", "ch", "(ILjava/lang/String;II)C"⟩ : MethodName)) ho1160 (mvT hZ1160 (own_w hw 8 rfl)) (mvT hZ1160 (own_w hw 9 rfl)) (mvT hZ1160 (own_w hw 10 rfl)) (mvT hZ1160 (own_w hw 11 rfl)) (by decide) (backOfSH (W := 0) (rm1_0 l Z ar0 hw [] a1160 p2 p0 ([112, 100, 108, 112]) gc1 gf3 b1160 kb1160 h1160 n0 Z1160 P5 rG3 (by decide) (by decide) Sf1161 Sf1162 Ea1160 Va1160 Ca1160 Ab1160) hZ1160 (own_w hw 11 rfl) (own_w hw 10 rfl) (by decide) (by decide) hEL CR1160.1) (g := (mkF m 75 #[vI p0, vI p1, vI p2, vI p3, vI p4, vI p5, vI v565, vR a1160, vI v1195, .unset, .unset, .unset, .unset, .unset, .unset] [(.int p0), (.int p2), (.ref a1160), (.int 0)])) rfl (by rw [hml]; rfl) (argsL := [(.int 0), (.ref a1160), (.int p2), (.int p0)]) (rest := []) (lenOf pd_6 rfl) rfl (by show 2 * 0 + _ ≤ _; exact Nat.le_of_eq rfl) (hb hby at_75) (fun _ _ => ⟨rfl, e1197, (by decide : 2 + 2 ≤ _), (by decide : 20 + 28 ≤ _)⟩)
    dsimp only [Pt.U, Pt.locs, Pt.cells, Pt.slots] at X1199r hS1199r hg1199r l1199 y1199 z1199 st1199 hQ1199 hC1199
    subst l1199 y1199 z1199
    obtain ⟨X1199, hS1199, hZ1199, ho1199⟩ := rebS (s := s) (vm0 := T1160.vm) (n1 := T1197.heap.size) hS1160 (by rw [e1197]; first | exact hk1160 | exact Nat.le_refl _) X1199r hS1199r hg1199r hZ1160 ho1160
    obtain ⟨h1199, e1199⟩ : ∃ h, T1199.heap = h := ⟨_, rfl⟩
    rw [e1199] at hQ1199
    obtain ⟨rfl, N1199q, K1199q⟩ := hQ1199
    have N1199 := Fr.app N1197 N1199q
    have Z1199 : n0 ≤ h1199.size := Nat.le_trans Z1160 K1199q.1
    have K1199 : Keep h0 h1199 [] := K1160.trans K1199q (fun x hx => absurd hx List.not_mem_nil)
    have Sf1200 : Sta Z h1199 "java/lang/String" "COMPACT_STRINGS" "Z" (.int gc1) := own_sta_keep0 Sf1161 K1199q
    have Sf1201 : Sta Z h1199 "jdk/internal/util/Preconditions" "SIOOBE_FORMATTER" "Ljava/util/function/BiFunction;" gf3 := own_sta_keep0 Sf1162 K1199q
    have Sf1202 : Sta Z h1199 "com/example/timely_exodus/timelyexodus/plan/LpSolver" "GLOP" "Lcom/example/timely_exodus/timelyexodus/plan/LpSolver;" (.ref s_GLOP) := own_sta_keep0 Sf1163 K1199q
    have Sf1203 : Sta Z h1199 "com/example/timely_exodus/timelyexodus/plan/LpSolver" "CLP" "Lcom/example/timely_exodus/timelyexodus/plan/LpSolver;" (.ref s_CLP) := own_sta_keep0 Sf1164 K1199q
    have Sf1204 : Sta Z h1199 "com/example/timely_exodus/timelyexodus/plan/LpSolver" "PDLP" "Lcom/example/timely_exodus/timelyexodus/plan/LpSolver;" (.ref s_PDLP) := own_sta_keep0 Sf1165 K1199q
    have Sf1205 : Sta Z h1199 "com/example/timely_exodus/timelyexodus/plan/LpSolver" "$VALUES" "[Lcom/example/timely_exodus/timelyexodus/plan/LpSolver;" (.ref s__VALUES) := own_sta_keep0 Sf1166 K1199q
    have Vf1206 : Arv Z h1199 s__VALUES k__VALUES (.object "com/example/timely_exodus/timelyexodus/plan/LpSolver") (3 : Int32) [(.ref s_GLOP), (.ref s_CLP), (.ref s_PDLP)] .null := (Vf1167).keep K1199q List.not_mem_nil
    have Ef1207 : Exa Z h1199 s__VALUES "[Lcom/example/timely_exodus/timelyexodus/plan/LpSolver;" := (Ef1168).keep K1199q
    have Ef1208 : Exa Z h1199 s_GLOP "com/example/timely_exodus/timelyexodus/plan/LpSolver" := (Ef1169).keep K1199q
    have Ff1209 : Fld Z h1199 s_GLOP "com/example/timely_exodus/timelyexodus/plan/LpSolver" "name" "Ljava/lang/String;" (.ref n_GLOP) := (Ff1170).keep K1199q List.not_mem_nil
    have Ef1210 : Exa Z h1199 n_GLOP "java/lang/String" := (Ef1171).keep K1199q
    have Ff1211 : Fld Z h1199 n_GLOP "java/lang/String" "value" "[B" (.ref t_GLOP) := (Ff1172).keep K1199q List.not_mem_nil
    have Ff1212 : Fld Z h1199 n_GLOP "java/lang/String" "coder" "B" (.int 0) := (Ff1173).keep K1199q List.not_mem_nil
    have Vf1213 : Arv Z h1199 t_GLOP k_t_GLOP .byte (4 : Int32) ((([103, 108, 111, 112] : List Int32).map (fun c => c.toInt8.toInt32)).map Value.int) (.int 0) := (Vf1174).keep K1199q List.not_mem_nil
    have Ef1214 : Exa Z h1199 s_CLP "com/example/timely_exodus/timelyexodus/plan/LpSolver" := (Ef1175).keep K1199q
    have Ff1215 : Fld Z h1199 s_CLP "com/example/timely_exodus/timelyexodus/plan/LpSolver" "name" "Ljava/lang/String;" (.ref n_CLP) := (Ff1176).keep K1199q List.not_mem_nil
    have Ef1216 : Exa Z h1199 n_CLP "java/lang/String" := (Ef1177).keep K1199q
    have Ff1217 : Fld Z h1199 n_CLP "java/lang/String" "value" "[B" (.ref t_CLP) := (Ff1178).keep K1199q List.not_mem_nil
    have Ff1218 : Fld Z h1199 n_CLP "java/lang/String" "coder" "B" (.int 0) := (Ff1179).keep K1199q List.not_mem_nil
    have Vf1219 : Arv Z h1199 t_CLP k_t_CLP .byte (3 : Int32) ((([99, 108, 112] : List Int32).map (fun c => c.toInt8.toInt32)).map Value.int) (.int 0) := (Vf1180).keep K1199q List.not_mem_nil
    have Ef1220 : Exa Z h1199 s_PDLP "com/example/timely_exodus/timelyexodus/plan/LpSolver" := (Ef1181).keep K1199q
    have Ff1221 : Fld Z h1199 s_PDLP "com/example/timely_exodus/timelyexodus/plan/LpSolver" "name" "Ljava/lang/String;" (.ref n_PDLP) := (Ff1182).keep K1199q List.not_mem_nil
    have Ef1222 : Exa Z h1199 n_PDLP "java/lang/String" := (Ef1183).keep K1199q
    have Ff1223 : Fld Z h1199 n_PDLP "java/lang/String" "value" "[B" (.ref t_PDLP) := (Ff1184).keep K1199q List.not_mem_nil
    have Ff1224 : Fld Z h1199 n_PDLP "java/lang/String" "coder" "B" (.int 0) := (Ff1185).keep K1199q List.not_mem_nil
    have Vf1225 : Arv Z h1199 t_PDLP k_t_PDLP .byte (4 : Int32) ((([112, 100, 108, 112] : List Int32).map (fun c => c.toInt8.toInt32)).map Value.int) (.int 0) := (Vf1186).keep K1199q List.not_mem_nil
    have Ef1226 : Exa Z h1199 a1160 "java/lang/String" := (Ea1160).keep K1199q
    have Ff1227 : Fld Z h1199 a1160 "java/lang/String" "coder" "B" (.int 0) := (Ca1160).keep K1199q List.not_mem_nil
    have Ff1228 : Fld Z h1199 a1160 "java/lang/String" "value" "[B" (.ref b1160) := (Va1160).keep K1199q List.not_mem_nil
    have Vf1229 : Arv Z h1199 b1160 kb1160 .byte (4 : Int32) ((([112, 100, 108, 112] : List Int32).map (fun c => c.toInt8.toInt32)).map Value.int) (.int 0) := (Ab1160).keep K1199q List.not_mem_nil
    rw [e1199] at hC1199
    have CR1199 := CR1160.trans hC1199
    have hk1199 : T1199.heap.size ≤ h1199.size := by rw [e1199]; exact Nat.le_refl _
    have pre1230 : own_P p e below T1199 (mkF m 78 #[vI p0, vI p1, vI p2, vI p3, vI p4, vI p5, vI v565, vR a1160, vI v1195, .unset, .unset, .unset, .unset, .unset, .unset] [(.int (f1_0 p2 p0 ([112, 100, 108, 112])))]) s₁ (entryFrame m #[(.int p0), (.int p1), (.int p2), (.int p3), (.int p4), (.int p5)] maxLocals) := fun t k => pre1198 t (st1199.trans k)
    obtain ⟨v1231, hv1231⟩ : ∃ z : Int32, z = (f1_0 p2 p0 ([112, 100, 108, 112])) := ⟨_, rfl⟩
    have pre1232 : own_P p e below T1199 (mkF m 78 #[vI p0, vI p1, vI p2, vI p3, vI p4, vI p5, vI v565, vR a1160, vI v1195, .unset, .unset, .unset, .unset, .unset, .unset] [(.int v1231)]) s₁ (entryFrame m #[(.int p0), (.int p1), (.int p2), (.int p3), (.int p4), (.int p5)] maxLocals) := by rw [hv1231]; exact pre1230
    have pre1233 : own_P p e below T1199 (mkF m 85 #[vI p0, vI p1, vI p2, vI p3, vI p4, vI p5, vI v565, vR a1160, vI v1195, vI v1231, .unset, .unset, .unset, .unset, .unset] [(.int p0), (.int p3), (.ref a1160), (.int 1)]) s₁ (entryFrame m #[(.int p0), (.int p1), (.int p2), (.int p3), (.int p4), (.int p5)] maxLocals) := by
     intro t k
     refine pre1232 t ?_
     refine XS.istore X1199.here hx rfl (hb hby at_78) rfl (l' := #[vI p0, vI p1, vI p2, vI p3, vI p4, vI p5, vI v565, vR a1160, vI v1195, vI v1231, .unset, .unset, .unset, .unset, .unset]) rfl ?_
     refine XS.iconst X1199.here hx rfl (hb hby at_80) ?_
     refine XS.aload X1199.here hx rfl (hb hby at_81) rfl rfl ?_
     refine XS.iloadN X1199.here hx rfl (hb hby at_83) rfl ?_
     refine XS.iloadN X1199.here hx rfl (hb hby at_84) rfl ?_
     exact k
    obtain ⟨_, _, ⟨T1234, L1234, k1234, n1234⟩, -, X1234r, hS1234r, hg1234r, ⟨Lc1234, hQ1234, l1234, y1234, z1234, hC1234⟩, st1234⟩ := callSS X1199 hx (y := (⟨"com/example/timely_exodus/timelyexodus/plan/LpSolverFromNamePinLaw", "ch", "(ILjava/lang/String;II)C"⟩ : MethodName)) ho1199 (mvT hZ1199 (own_w hw 8 rfl)) (mvT hZ1199 (own_w hw 9 rfl)) (mvT hZ1199 (own_w hw 10 rfl)) (mvT hZ1199 (own_w hw 11 rfl)) (by decide) (backOfSH (W := 0) (rm1_1 l Z ar0 hw [] a1160 p3 p0 ([112, 100, 108, 112]) gc1 gf3 b1160 kb1160 h1199 n0 Z1199 P5 rG3 (by decide) (by decide) Sf1200 Sf1201 Ef1226 Ff1228 Ff1227 Vf1229) hZ1199 (own_w hw 11 rfl) (own_w hw 10 rfl) (by decide) (by decide) hEL CR1199.1) (g := (mkF m 85 #[vI p0, vI p1, vI p2, vI p3, vI p4, vI p5, vI v565, vR a1160, vI v1195, vI v1231, .unset, .unset, .unset, .unset, .unset] [(.int p0), (.int p3), (.ref a1160), (.int 1)])) rfl (by rw [hml]; rfl) (argsL := [(.int 1), (.ref a1160), (.int p3), (.int p0)]) (rest := []) (lenOf pd_6 rfl) rfl (by show 2 * 0 + _ ≤ _; exact Nat.le_of_eq rfl) (hb hby at_85) (fun _ _ => ⟨rfl, e1199, (by decide : 4 + 2 ≤ _), (by decide : 48 + 28 ≤ _)⟩)
    dsimp only [Pt.U, Pt.locs, Pt.cells, Pt.slots] at X1234r hS1234r hg1234r l1234 y1234 z1234 st1234 hQ1234 hC1234
    subst l1234 y1234 z1234
    obtain ⟨X1234, hS1234, hZ1234, ho1234⟩ := rebS (s := s) (vm0 := T1199.vm) (n1 := T1199.heap.size) hS1199 (by rw [e1199]; first | exact hk1199 | exact Nat.le_refl _) X1234r hS1234r hg1234r hZ1199 ho1199
    obtain ⟨h1234, e1234⟩ : ∃ h, T1234.heap = h := ⟨_, rfl⟩
    rw [e1234] at hQ1234
    obtain ⟨rfl, N1234q, K1234q⟩ := hQ1234
    have N1234 := Fr.app N1199 N1234q
    have Z1234 : n0 ≤ h1234.size := Nat.le_trans Z1199 K1234q.1
    have K1234 : Keep h0 h1234 [] := K1199.trans K1234q (fun x hx => absurd hx List.not_mem_nil)
    have Sf1235 : Sta Z h1234 "java/lang/String" "COMPACT_STRINGS" "Z" (.int gc1) := own_sta_keep0 Sf1200 K1234q
    have Sf1236 : Sta Z h1234 "jdk/internal/util/Preconditions" "SIOOBE_FORMATTER" "Ljava/util/function/BiFunction;" gf3 := own_sta_keep0 Sf1201 K1234q
    have Sf1237 : Sta Z h1234 "com/example/timely_exodus/timelyexodus/plan/LpSolver" "GLOP" "Lcom/example/timely_exodus/timelyexodus/plan/LpSolver;" (.ref s_GLOP) := own_sta_keep0 Sf1202 K1234q
    have Sf1238 : Sta Z h1234 "com/example/timely_exodus/timelyexodus/plan/LpSolver" "CLP" "Lcom/example/timely_exodus/timelyexodus/plan/LpSolver;" (.ref s_CLP) := own_sta_keep0 Sf1203 K1234q
    have Sf1239 : Sta Z h1234 "com/example/timely_exodus/timelyexodus/plan/LpSolver" "PDLP" "Lcom/example/timely_exodus/timelyexodus/plan/LpSolver;" (.ref s_PDLP) := own_sta_keep0 Sf1204 K1234q
    have Sf1240 : Sta Z h1234 "com/example/timely_exodus/timelyexodus/plan/LpSolver" "$VALUES" "[Lcom/example/timely_exodus/timelyexodus/plan/LpSolver;" (.ref s__VALUES) := own_sta_keep0 Sf1205 K1234q
    have Vf1241 : Arv Z h1234 s__VALUES k__VALUES (.object "com/example/timely_exodus/timelyexodus/plan/LpSolver") (3 : Int32) [(.ref s_GLOP), (.ref s_CLP), (.ref s_PDLP)] .null := (Vf1206).keep K1234q List.not_mem_nil
    have Ef1242 : Exa Z h1234 s__VALUES "[Lcom/example/timely_exodus/timelyexodus/plan/LpSolver;" := (Ef1207).keep K1234q
    have Ef1243 : Exa Z h1234 s_GLOP "com/example/timely_exodus/timelyexodus/plan/LpSolver" := (Ef1208).keep K1234q
    have Ff1244 : Fld Z h1234 s_GLOP "com/example/timely_exodus/timelyexodus/plan/LpSolver" "name" "Ljava/lang/String;" (.ref n_GLOP) := (Ff1209).keep K1234q List.not_mem_nil
    have Ef1245 : Exa Z h1234 n_GLOP "java/lang/String" := (Ef1210).keep K1234q
    have Ff1246 : Fld Z h1234 n_GLOP "java/lang/String" "value" "[B" (.ref t_GLOP) := (Ff1211).keep K1234q List.not_mem_nil
    have Ff1247 : Fld Z h1234 n_GLOP "java/lang/String" "coder" "B" (.int 0) := (Ff1212).keep K1234q List.not_mem_nil
    have Vf1248 : Arv Z h1234 t_GLOP k_t_GLOP .byte (4 : Int32) ((([103, 108, 111, 112] : List Int32).map (fun c => c.toInt8.toInt32)).map Value.int) (.int 0) := (Vf1213).keep K1234q List.not_mem_nil
    have Ef1249 : Exa Z h1234 s_CLP "com/example/timely_exodus/timelyexodus/plan/LpSolver" := (Ef1214).keep K1234q
    have Ff1250 : Fld Z h1234 s_CLP "com/example/timely_exodus/timelyexodus/plan/LpSolver" "name" "Ljava/lang/String;" (.ref n_CLP) := (Ff1215).keep K1234q List.not_mem_nil
    have Ef1251 : Exa Z h1234 n_CLP "java/lang/String" := (Ef1216).keep K1234q
    have Ff1252 : Fld Z h1234 n_CLP "java/lang/String" "value" "[B" (.ref t_CLP) := (Ff1217).keep K1234q List.not_mem_nil
    have Ff1253 : Fld Z h1234 n_CLP "java/lang/String" "coder" "B" (.int 0) := (Ff1218).keep K1234q List.not_mem_nil
    have Vf1254 : Arv Z h1234 t_CLP k_t_CLP .byte (3 : Int32) ((([99, 108, 112] : List Int32).map (fun c => c.toInt8.toInt32)).map Value.int) (.int 0) := (Vf1219).keep K1234q List.not_mem_nil
    have Ef1255 : Exa Z h1234 s_PDLP "com/example/timely_exodus/timelyexodus/plan/LpSolver" := (Ef1220).keep K1234q
    have Ff1256 : Fld Z h1234 s_PDLP "com/example/timely_exodus/timelyexodus/plan/LpSolver" "name" "Ljava/lang/String;" (.ref n_PDLP) := (Ff1221).keep K1234q List.not_mem_nil
    have Ef1257 : Exa Z h1234 n_PDLP "java/lang/String" := (Ef1222).keep K1234q
    have Ff1258 : Fld Z h1234 n_PDLP "java/lang/String" "value" "[B" (.ref t_PDLP) := (Ff1223).keep K1234q List.not_mem_nil
    have Ff1259 : Fld Z h1234 n_PDLP "java/lang/String" "coder" "B" (.int 0) := (Ff1224).keep K1234q List.not_mem_nil
    have Vf1260 : Arv Z h1234 t_PDLP k_t_PDLP .byte (4 : Int32) ((([112, 100, 108, 112] : List Int32).map (fun c => c.toInt8.toInt32)).map Value.int) (.int 0) := (Vf1225).keep K1234q List.not_mem_nil
    have Ef1261 : Exa Z h1234 a1160 "java/lang/String" := (Ef1226).keep K1234q
    have Ff1262 : Fld Z h1234 a1160 "java/lang/String" "coder" "B" (.int 0) := (Ff1227).keep K1234q List.not_mem_nil
    have Ff1263 : Fld Z h1234 a1160 "java/lang/String" "value" "[B" (.ref b1160) := (Ff1228).keep K1234q List.not_mem_nil
    have Vf1264 : Arv Z h1234 b1160 kb1160 .byte (4 : Int32) ((([112, 100, 108, 112] : List Int32).map (fun c => c.toInt8.toInt32)).map Value.int) (.int 0) := (Vf1229).keep K1234q List.not_mem_nil
    rw [e1234] at hC1234
    have CR1234 := CR1199.trans hC1234
    have hk1234 : T1234.heap.size ≤ h1234.size := by rw [e1234]; exact Nat.le_refl _
    have pre1265 : own_P p e below T1234 (mkF m 88 #[vI p0, vI p1, vI p2, vI p3, vI p4, vI p5, vI v565, vR a1160, vI v1195, vI v1231, .unset, .unset, .unset, .unset, .unset] [(.int (f1_1 p3 p0 ([112, 100, 108, 112])))]) s₁ (entryFrame m #[(.int p0), (.int p1), (.int p2), (.int p3), (.int p4), (.int p5)] maxLocals) := fun t k => pre1233 t (st1234.trans k)
    obtain ⟨v1266, hv1266⟩ : ∃ z : Int32, z = (f1_1 p3 p0 ([112, 100, 108, 112])) := ⟨_, rfl⟩
    have pre1267 : own_P p e below T1234 (mkF m 88 #[vI p0, vI p1, vI p2, vI p3, vI p4, vI p5, vI v565, vR a1160, vI v1195, vI v1231, .unset, .unset, .unset, .unset, .unset] [(.int v1266)]) s₁ (entryFrame m #[(.int p0), (.int p1), (.int p2), (.int p3), (.int p4), (.int p5)] maxLocals) := by rw [hv1266]; exact pre1265
    have pre1268 : own_P p e below T1234 (mkF m 96 #[vI p0, vI p1, vI p2, vI p3, vI p4, vI p5, vI v565, vR a1160, vI v1195, vI v1231, vI v1266, .unset, .unset, .unset, .unset] [(.int p0), (.int p4), (.ref a1160), (.int 2)]) s₁ (entryFrame m #[(.int p0), (.int p1), (.int p2), (.int p3), (.int p4), (.int p5)] maxLocals) := by
     intro t k
     refine pre1267 t ?_
     refine XS.istore X1234.here hx rfl (hb hby at_88) rfl (l' := #[vI p0, vI p1, vI p2, vI p3, vI p4, vI p5, vI v565, vR a1160, vI v1195, vI v1231, vI v1266, .unset, .unset, .unset, .unset]) rfl ?_
     refine XS.iconst X1234.here hx rfl (hb hby at_90) ?_
     refine XS.aload X1234.here hx rfl (hb hby at_91) rfl rfl ?_
     refine XS.iload X1234.here hx rfl (hb hby at_93) rfl ?_
     refine XS.iloadN X1234.here hx rfl (hb hby at_95) rfl ?_
     exact k
    obtain ⟨_, _, ⟨T1269, L1269, k1269, n1269⟩, -, X1269r, hS1269r, hg1269r, ⟨Lc1269, hQ1269, l1269, y1269, z1269, hC1269⟩, st1269⟩ := callSS X1234 hx (y := (⟨"com/example/timely_exodus/timelyexodus/plan/LpSolverFromNamePinLaw", "ch", "(ILjava/lang/String;II)C"⟩ : MethodName)) ho1234 (mvT hZ1234 (own_w hw 8 rfl)) (mvT hZ1234 (own_w hw 9 rfl)) (mvT hZ1234 (own_w hw 10 rfl)) (mvT hZ1234 (own_w hw 11 rfl)) (by decide) (backOfSH (W := 0) (rm1_2 l Z ar0 hw [] a1160 p4 p0 ([112, 100, 108, 112]) gc1 gf3 b1160 kb1160 h1234 n0 Z1234 P5 rG3 (by decide) (by decide) Sf1235 Sf1236 Ef1261 Ff1263 Ff1262 Vf1264) hZ1234 (own_w hw 11 rfl) (own_w hw 10 rfl) (by decide) (by decide) hEL CR1234.1) (g := (mkF m 96 #[vI p0, vI p1, vI p2, vI p3, vI p4, vI p5, vI v565, vR a1160, vI v1195, vI v1231, vI v1266, .unset, .unset, .unset, .unset] [(.int p0), (.int p4), (.ref a1160), (.int 2)])) rfl (by rw [hml]; rfl) (argsL := [(.int 2), (.ref a1160), (.int p4), (.int p0)]) (rest := []) (lenOf pd_6 rfl) rfl (by show 2 * 0 + _ ≤ _; exact Nat.le_of_eq rfl) (hb hby at_96) (fun _ _ => ⟨rfl, e1234, (by decide : 6 + 2 ≤ _), (by decide : 76 + 28 ≤ _)⟩)
    dsimp only [Pt.U, Pt.locs, Pt.cells, Pt.slots] at X1269r hS1269r hg1269r l1269 y1269 z1269 st1269 hQ1269 hC1269
    subst l1269 y1269 z1269
    obtain ⟨X1269, hS1269, hZ1269, ho1269⟩ := rebS (s := s) (vm0 := T1234.vm) (n1 := T1234.heap.size) hS1234 (by rw [e1234]; first | exact hk1234 | exact Nat.le_refl _) X1269r hS1269r hg1269r hZ1234 ho1234
    obtain ⟨h1269, e1269⟩ : ∃ h, T1269.heap = h := ⟨_, rfl⟩
    rw [e1269] at hQ1269
    obtain ⟨rfl, N1269q, K1269q⟩ := hQ1269
    have N1269 := Fr.app N1234 N1269q
    have Z1269 : n0 ≤ h1269.size := Nat.le_trans Z1234 K1269q.1
    have K1269 : Keep h0 h1269 [] := K1234.trans K1269q (fun x hx => absurd hx List.not_mem_nil)
    have Sf1270 : Sta Z h1269 "java/lang/String" "COMPACT_STRINGS" "Z" (.int gc1) := own_sta_keep0 Sf1235 K1269q
    have Sf1271 : Sta Z h1269 "jdk/internal/util/Preconditions" "SIOOBE_FORMATTER" "Ljava/util/function/BiFunction;" gf3 := own_sta_keep0 Sf1236 K1269q
    have Sf1272 : Sta Z h1269 "com/example/timely_exodus/timelyexodus/plan/LpSolver" "GLOP" "Lcom/example/timely_exodus/timelyexodus/plan/LpSolver;" (.ref s_GLOP) := own_sta_keep0 Sf1237 K1269q
    have Sf1273 : Sta Z h1269 "com/example/timely_exodus/timelyexodus/plan/LpSolver" "CLP" "Lcom/example/timely_exodus/timelyexodus/plan/LpSolver;" (.ref s_CLP) := own_sta_keep0 Sf1238 K1269q
    have Sf1274 : Sta Z h1269 "com/example/timely_exodus/timelyexodus/plan/LpSolver" "PDLP" "Lcom/example/timely_exodus/timelyexodus/plan/LpSolver;" (.ref s_PDLP) := own_sta_keep0 Sf1239 K1269q
    have Sf1275 : Sta Z h1269 "com/example/timely_exodus/timelyexodus/plan/LpSolver" "$VALUES" "[Lcom/example/timely_exodus/timelyexodus/plan/LpSolver;" (.ref s__VALUES) := own_sta_keep0 Sf1240 K1269q
    have Vf1276 : Arv Z h1269 s__VALUES k__VALUES (.object "com/example/timely_exodus/timelyexodus/plan/LpSolver") (3 : Int32) [(.ref s_GLOP), (.ref s_CLP), (.ref s_PDLP)] .null := (Vf1241).keep K1269q List.not_mem_nil
    have Ef1277 : Exa Z h1269 s__VALUES "[Lcom/example/timely_exodus/timelyexodus/plan/LpSolver;" := (Ef1242).keep K1269q
    have Ef1278 : Exa Z h1269 s_GLOP "com/example/timely_exodus/timelyexodus/plan/LpSolver" := (Ef1243).keep K1269q
    have Ff1279 : Fld Z h1269 s_GLOP "com/example/timely_exodus/timelyexodus/plan/LpSolver" "name" "Ljava/lang/String;" (.ref n_GLOP) := (Ff1244).keep K1269q List.not_mem_nil
    have Ef1280 : Exa Z h1269 n_GLOP "java/lang/String" := (Ef1245).keep K1269q
    have Ff1281 : Fld Z h1269 n_GLOP "java/lang/String" "value" "[B" (.ref t_GLOP) := (Ff1246).keep K1269q List.not_mem_nil
    have Ff1282 : Fld Z h1269 n_GLOP "java/lang/String" "coder" "B" (.int 0) := (Ff1247).keep K1269q List.not_mem_nil
    have Vf1283 : Arv Z h1269 t_GLOP k_t_GLOP .byte (4 : Int32) ((([103, 108, 111, 112] : List Int32).map (fun c => c.toInt8.toInt32)).map Value.int) (.int 0) := (Vf1248).keep K1269q List.not_mem_nil
    have Ef1284 : Exa Z h1269 s_CLP "com/example/timely_exodus/timelyexodus/plan/LpSolver" := (Ef1249).keep K1269q
    have Ff1285 : Fld Z h1269 s_CLP "com/example/timely_exodus/timelyexodus/plan/LpSolver" "name" "Ljava/lang/String;" (.ref n_CLP) := (Ff1250).keep K1269q List.not_mem_nil
    have Ef1286 : Exa Z h1269 n_CLP "java/lang/String" := (Ef1251).keep K1269q
    have Ff1287 : Fld Z h1269 n_CLP "java/lang/String" "value" "[B" (.ref t_CLP) := (Ff1252).keep K1269q List.not_mem_nil
    have Ff1288 : Fld Z h1269 n_CLP "java/lang/String" "coder" "B" (.int 0) := (Ff1253).keep K1269q List.not_mem_nil
    have Vf1289 : Arv Z h1269 t_CLP k_t_CLP .byte (3 : Int32) ((([99, 108, 112] : List Int32).map (fun c => c.toInt8.toInt32)).map Value.int) (.int 0) := (Vf1254).keep K1269q List.not_mem_nil
    have Ef1290 : Exa Z h1269 s_PDLP "com/example/timely_exodus/timelyexodus/plan/LpSolver" := (Ef1255).keep K1269q
    have Ff1291 : Fld Z h1269 s_PDLP "com/example/timely_exodus/timelyexodus/plan/LpSolver" "name" "Ljava/lang/String;" (.ref n_PDLP) := (Ff1256).keep K1269q List.not_mem_nil
    have Ef1292 : Exa Z h1269 n_PDLP "java/lang/String" := (Ef1257).keep K1269q
    have Ff1293 : Fld Z h1269 n_PDLP "java/lang/String" "value" "[B" (.ref t_PDLP) := (Ff1258).keep K1269q List.not_mem_nil
    have Ff1294 : Fld Z h1269 n_PDLP "java/lang/String" "coder" "B" (.int 0) := (Ff1259).keep K1269q List.not_mem_nil
    have Vf1295 : Arv Z h1269 t_PDLP k_t_PDLP .byte (4 : Int32) ((([112, 100, 108, 112] : List Int32).map (fun c => c.toInt8.toInt32)).map Value.int) (.int 0) := (Vf1260).keep K1269q List.not_mem_nil
    have Ef1296 : Exa Z h1269 a1160 "java/lang/String" := (Ef1261).keep K1269q
    have Ff1297 : Fld Z h1269 a1160 "java/lang/String" "coder" "B" (.int 0) := (Ff1262).keep K1269q List.not_mem_nil
    have Ff1298 : Fld Z h1269 a1160 "java/lang/String" "value" "[B" (.ref b1160) := (Ff1263).keep K1269q List.not_mem_nil
    have Vf1299 : Arv Z h1269 b1160 kb1160 .byte (4 : Int32) ((([112, 100, 108, 112] : List Int32).map (fun c => c.toInt8.toInt32)).map Value.int) (.int 0) := (Vf1264).keep K1269q List.not_mem_nil
    rw [e1269] at hC1269
    have CR1269 := CR1234.trans hC1269
    have hk1269 : T1269.heap.size ≤ h1269.size := by rw [e1269]; exact Nat.le_refl _
    have pre1300 : own_P p e below T1269 (mkF m 99 #[vI p0, vI p1, vI p2, vI p3, vI p4, vI p5, vI v565, vR a1160, vI v1195, vI v1231, vI v1266, .unset, .unset, .unset, .unset] [(.int (f1_2 p4 p0 ([112, 100, 108, 112])))]) s₁ (entryFrame m #[(.int p0), (.int p1), (.int p2), (.int p3), (.int p4), (.int p5)] maxLocals) := fun t k => pre1268 t (st1269.trans k)
    obtain ⟨v1301, hv1301⟩ : ∃ z : Int32, z = (f1_2 p4 p0 ([112, 100, 108, 112])) := ⟨_, rfl⟩
    have pre1302 : own_P p e below T1269 (mkF m 99 #[vI p0, vI p1, vI p2, vI p3, vI p4, vI p5, vI v565, vR a1160, vI v1195, vI v1231, vI v1266, .unset, .unset, .unset, .unset] [(.int v1301)]) s₁ (entryFrame m #[(.int p0), (.int p1), (.int p2), (.int p3), (.int p4), (.int p5)] maxLocals) := by rw [hv1301]; exact pre1300
    have pre1303 : own_P p e below T1269 (mkF m 107 #[vI p0, vI p1, vI p2, vI p3, vI p4, vI p5, vI v565, vR a1160, vI v1195, vI v1231, vI v1266, vI v1301, .unset, .unset, .unset] [(.int p0), (.int p5), (.ref a1160), (.int 3)]) s₁ (entryFrame m #[(.int p0), (.int p1), (.int p2), (.int p3), (.int p4), (.int p5)] maxLocals) := by
     intro t k
     refine pre1302 t ?_
     refine XS.istore X1269.here hx rfl (hb hby at_99) rfl (l' := #[vI p0, vI p1, vI p2, vI p3, vI p4, vI p5, vI v565, vR a1160, vI v1195, vI v1231, vI v1266, vI v1301, .unset, .unset, .unset]) rfl ?_
     refine XS.iconst X1269.here hx rfl (hb hby at_101) ?_
     refine XS.aload X1269.here hx rfl (hb hby at_102) rfl rfl ?_
     refine XS.iload X1269.here hx rfl (hb hby at_104) rfl ?_
     refine XS.iloadN X1269.here hx rfl (hb hby at_106) rfl ?_
     exact k
    obtain ⟨_, _, ⟨T1304, L1304, k1304, n1304⟩, -, X1304r, hS1304r, hg1304r, ⟨Lc1304, hQ1304, l1304, y1304, z1304, hC1304⟩, st1304⟩ := callSS X1269 hx (y := (⟨"com/example/timely_exodus/timelyexodus/plan/LpSolverFromNamePinLaw", "ch", "(ILjava/lang/String;II)C"⟩ : MethodName)) ho1269 (mvT hZ1269 (own_w hw 8 rfl)) (mvT hZ1269 (own_w hw 9 rfl)) (mvT hZ1269 (own_w hw 10 rfl)) (mvT hZ1269 (own_w hw 11 rfl)) (by decide) (backOfSH (W := 0) (rm1_3 l Z ar0 hw [] a1160 p5 p0 ([112, 100, 108, 112]) gc1 gf3 b1160 kb1160 h1269 n0 Z1269 P5 rG3 (by decide) (by decide) Sf1270 Sf1271 Ef1296 Ff1298 Ff1297 Vf1299) hZ1269 (own_w hw 11 rfl) (own_w hw 10 rfl) (by decide) (by decide) hEL CR1269.1) (g := (mkF m 107 #[vI p0, vI p1, vI p2, vI p3, vI p4, vI p5, vI v565, vR a1160, vI v1195, vI v1231, vI v1266, vI v1301, .unset, .unset, .unset] [(.int p0), (.int p5), (.ref a1160), (.int 3)])) rfl (by rw [hml]; rfl) (argsL := [(.int 3), (.ref a1160), (.int p5), (.int p0)]) (rest := []) (lenOf pd_6 rfl) rfl (by show 2 * 0 + _ ≤ _; exact Nat.le_of_eq rfl) (hb hby at_107) (fun _ _ => ⟨rfl, e1269, (by decide : 8 + 2 ≤ _), (by decide : 104 + 28 ≤ _)⟩)
    dsimp only [Pt.U, Pt.locs, Pt.cells, Pt.slots] at X1304r hS1304r hg1304r l1304 y1304 z1304 st1304 hQ1304 hC1304
    subst l1304 y1304 z1304
    obtain ⟨X1304, hS1304, hZ1304, ho1304⟩ := rebS (s := s) (vm0 := T1269.vm) (n1 := T1269.heap.size) hS1269 (by rw [e1269]; first | exact hk1269 | exact Nat.le_refl _) X1304r hS1304r hg1304r hZ1269 ho1269
    obtain ⟨h1304, e1304⟩ : ∃ h, T1304.heap = h := ⟨_, rfl⟩
    rw [e1304] at hQ1304
    obtain ⟨rfl, N1304q, K1304q⟩ := hQ1304
    have N1304 := Fr.app N1269 N1304q
    have Z1304 : n0 ≤ h1304.size := Nat.le_trans Z1269 K1304q.1
    have K1304 : Keep h0 h1304 [] := K1269.trans K1304q (fun x hx => absurd hx List.not_mem_nil)
    have Sf1305 : Sta Z h1304 "java/lang/String" "COMPACT_STRINGS" "Z" (.int gc1) := own_sta_keep0 Sf1270 K1304q
    have Sf1306 : Sta Z h1304 "jdk/internal/util/Preconditions" "SIOOBE_FORMATTER" "Ljava/util/function/BiFunction;" gf3 := own_sta_keep0 Sf1271 K1304q
    have Sf1307 : Sta Z h1304 "com/example/timely_exodus/timelyexodus/plan/LpSolver" "GLOP" "Lcom/example/timely_exodus/timelyexodus/plan/LpSolver;" (.ref s_GLOP) := own_sta_keep0 Sf1272 K1304q
    have Sf1308 : Sta Z h1304 "com/example/timely_exodus/timelyexodus/plan/LpSolver" "CLP" "Lcom/example/timely_exodus/timelyexodus/plan/LpSolver;" (.ref s_CLP) := own_sta_keep0 Sf1273 K1304q
    have Sf1309 : Sta Z h1304 "com/example/timely_exodus/timelyexodus/plan/LpSolver" "PDLP" "Lcom/example/timely_exodus/timelyexodus/plan/LpSolver;" (.ref s_PDLP) := own_sta_keep0 Sf1274 K1304q
    have Sf1310 : Sta Z h1304 "com/example/timely_exodus/timelyexodus/plan/LpSolver" "$VALUES" "[Lcom/example/timely_exodus/timelyexodus/plan/LpSolver;" (.ref s__VALUES) := own_sta_keep0 Sf1275 K1304q
    have Vf1311 : Arv Z h1304 s__VALUES k__VALUES (.object "com/example/timely_exodus/timelyexodus/plan/LpSolver") (3 : Int32) [(.ref s_GLOP), (.ref s_CLP), (.ref s_PDLP)] .null := (Vf1276).keep K1304q List.not_mem_nil
    have Ef1312 : Exa Z h1304 s__VALUES "[Lcom/example/timely_exodus/timelyexodus/plan/LpSolver;" := (Ef1277).keep K1304q
    have Ef1313 : Exa Z h1304 s_GLOP "com/example/timely_exodus/timelyexodus/plan/LpSolver" := (Ef1278).keep K1304q
    have Ff1314 : Fld Z h1304 s_GLOP "com/example/timely_exodus/timelyexodus/plan/LpSolver" "name" "Ljava/lang/String;" (.ref n_GLOP) := (Ff1279).keep K1304q List.not_mem_nil
    have Ef1315 : Exa Z h1304 n_GLOP "java/lang/String" := (Ef1280).keep K1304q
    have Ff1316 : Fld Z h1304 n_GLOP "java/lang/String" "value" "[B" (.ref t_GLOP) := (Ff1281).keep K1304q List.not_mem_nil
    have Ff1317 : Fld Z h1304 n_GLOP "java/lang/String" "coder" "B" (.int 0) := (Ff1282).keep K1304q List.not_mem_nil
    have Vf1318 : Arv Z h1304 t_GLOP k_t_GLOP .byte (4 : Int32) ((([103, 108, 111, 112] : List Int32).map (fun c => c.toInt8.toInt32)).map Value.int) (.int 0) := (Vf1283).keep K1304q List.not_mem_nil
    have Ef1319 : Exa Z h1304 s_CLP "com/example/timely_exodus/timelyexodus/plan/LpSolver" := (Ef1284).keep K1304q
    have Ff1320 : Fld Z h1304 s_CLP "com/example/timely_exodus/timelyexodus/plan/LpSolver" "name" "Ljava/lang/String;" (.ref n_CLP) := (Ff1285).keep K1304q List.not_mem_nil
    have Ef1321 : Exa Z h1304 n_CLP "java/lang/String" := (Ef1286).keep K1304q
    have Ff1322 : Fld Z h1304 n_CLP "java/lang/String" "value" "[B" (.ref t_CLP) := (Ff1287).keep K1304q List.not_mem_nil
    have Ff1323 : Fld Z h1304 n_CLP "java/lang/String" "coder" "B" (.int 0) := (Ff1288).keep K1304q List.not_mem_nil
    have Vf1324 : Arv Z h1304 t_CLP k_t_CLP .byte (3 : Int32) ((([99, 108, 112] : List Int32).map (fun c => c.toInt8.toInt32)).map Value.int) (.int 0) := (Vf1289).keep K1304q List.not_mem_nil
    have Ef1325 : Exa Z h1304 s_PDLP "com/example/timely_exodus/timelyexodus/plan/LpSolver" := (Ef1290).keep K1304q
    have Ff1326 : Fld Z h1304 s_PDLP "com/example/timely_exodus/timelyexodus/plan/LpSolver" "name" "Ljava/lang/String;" (.ref n_PDLP) := (Ff1291).keep K1304q List.not_mem_nil
    have Ef1327 : Exa Z h1304 n_PDLP "java/lang/String" := (Ef1292).keep K1304q
    have Ff1328 : Fld Z h1304 n_PDLP "java/lang/String" "value" "[B" (.ref t_PDLP) := (Ff1293).keep K1304q List.not_mem_nil
    have Ff1329 : Fld Z h1304 n_PDLP "java/lang/String" "coder" "B" (.int 0) := (Ff1294).keep K1304q List.not_mem_nil
    have Vf1330 : Arv Z h1304 t_PDLP k_t_PDLP .byte (4 : Int32) ((([112, 100, 108, 112] : List Int32).map (fun c => c.toInt8.toInt32)).map Value.int) (.int 0) := (Vf1295).keep K1304q List.not_mem_nil
    have Ef1331 : Exa Z h1304 a1160 "java/lang/String" := (Ef1296).keep K1304q
    have Ff1332 : Fld Z h1304 a1160 "java/lang/String" "coder" "B" (.int 0) := (Ff1297).keep K1304q List.not_mem_nil
    have Ff1333 : Fld Z h1304 a1160 "java/lang/String" "value" "[B" (.ref b1160) := (Ff1298).keep K1304q List.not_mem_nil
    have Vf1334 : Arv Z h1304 b1160 kb1160 .byte (4 : Int32) ((([112, 100, 108, 112] : List Int32).map (fun c => c.toInt8.toInt32)).map Value.int) (.int 0) := (Vf1299).keep K1304q List.not_mem_nil
    rw [e1304] at hC1304
    have CR1304 := CR1269.trans hC1304
    have hk1304 : T1304.heap.size ≤ h1304.size := by rw [e1304]; exact Nat.le_refl _
    have pre1335 : own_P p e below T1304 (mkF m 110 #[vI p0, vI p1, vI p2, vI p3, vI p4, vI p5, vI v565, vR a1160, vI v1195, vI v1231, vI v1266, vI v1301, .unset, .unset, .unset] [(.int (f1_3 p5 p0 ([112, 100, 108, 112])))]) s₁ (entryFrame m #[(.int p0), (.int p1), (.int p2), (.int p3), (.int p4), (.int p5)] maxLocals) := fun t k => pre1303 t (st1304.trans k)
    obtain ⟨v1336, hv1336⟩ : ∃ z : Int32, z = (f1_3 p5 p0 ([112, 100, 108, 112])) := ⟨_, rfl⟩
    have pre1337 : own_P p e below T1304 (mkF m 110 #[vI p0, vI p1, vI p2, vI p3, vI p4, vI p5, vI v565, vR a1160, vI v1195, vI v1231, vI v1266, vI v1301, .unset, .unset, .unset] [(.int v1336)]) s₁ (entryFrame m #[(.int p0), (.int p1), (.int p2), (.int p3), (.int p4), (.int p5)] maxLocals) := by rw [hv1336]; exact pre1335
    have pre1338 : own_P p e below T1304 (mkF m 138 #[vI p0, vI p1, vI p2, vI p3, vI p4, vI p5, vI v565, vR a1160, vI v1195, vI v1231, vI v1266, vI v1301, vI v1336, .unset, .unset] [(.int v1336), (.int v1301), (.int v1266), (.int v1231), (.int v1195)]) s₁ (entryFrame m #[(.int p0), (.int p1), (.int p2), (.int p3), (.int p4), (.int p5)] maxLocals) := by
     intro t k
     refine pre1337 t ?_
     refine XS.istore X1304.here hx rfl (hb hby at_110) rfl (l' := #[vI p0, vI p1, vI p2, vI p3, vI p4, vI p5, vI v565, vR a1160, vI v1195, vI v1231, vI v1266, vI v1301, vI v1336, .unset, .unset]) rfl ?_
     refine XS.iload X1304.here hx rfl (hb hby at_112) rfl ?_
     refine XS.ifYes X1304.here hx rfl (pc0 := 114) (pc' := 128) rfl (hb hby at_114) rfl ((if0 _ _).trans (feq (fun z => absurd (z.symm.trans hc30_1158) (by decide))).2) (by decide) (by decide) ?_
     refine XS.iload X1304.here hx rfl (hb hby at_128) rfl ?_
     refine XS.iload X1304.here hx rfl (hb hby at_130) rfl ?_
     refine XS.iload X1304.here hx rfl (hb hby at_132) rfl ?_
     refine XS.iload X1304.here hx rfl (hb hby at_134) rfl ?_
     refine XS.iload X1304.here hx rfl (hb hby at_136) rfl ?_
     exact k
    obtain ⟨_, _, ⟨T1339, L1339, k1339, n1339⟩, -, X1339r, hS1339r, hg1339r, ⟨Lc1339, hQ1339, l1339, y1339, z1339, hC1339⟩, st1339⟩ := callSS X1304 hx (y := (⟨"com/example/timely_exodus/timelyexodus/plan/LpSolverFromNamePinLaw", "make", "(ICCCC)Ljava/lang/String;"⟩ : MethodName)) ho1304 (mvT hZ1304 (own_w hw 28 rfl)) (mvT hZ1304 (own_w hw 29 rfl)) (mvT hZ1304 (own_w hw 10 rfl)) (mvT hZ1304 (own_w hw 30 rfl)) (by decide) (backOfSH (W := 0) (rm5 l Z ar0 hw [] v1195 v1231 v1266 v1301 v1336 gc1 h1304 n0 Z1304 P5 (by rw [hv1231]; exact own_Rf1_0 (by decide)) (by rw [hv1266]; exact own_Rf1_1 (by decide)) (by rw [hv1301]; exact own_Rf1_2 (by decide)) (by rw [hv1336]; exact own_Rf1_3 (by decide)) Sf1305) hZ1304 (own_w hw 30 rfl) (own_w hw 10 rfl) (by decide) (by decide) hEL CR1304.1) (g := (mkF m 138 #[vI p0, vI p1, vI p2, vI p3, vI p4, vI p5, vI v565, vR a1160, vI v1195, vI v1231, vI v1266, vI v1301, vI v1336, .unset, .unset] [(.int v1336), (.int v1301), (.int v1266), (.int v1231), (.int v1195)])) rfl (by rw [hml]; rfl) (argsL := [(.int v1195), (.int v1231), (.int v1266), (.int v1301), (.int v1336)]) (rest := []) (lenOf pd_7 rfl) rfl (by show 2 * 0 + _ ≤ _; exact Nat.le_of_eq rfl) (hb hby at_138) (fun _ _ => ⟨rfl, e1304, (by decide : 10 + 6 ≤ _), (by decide : 132 + 12 ≤ _)⟩)
    dsimp only [Pt.U, Pt.locs, Pt.cells, Pt.slots] at X1339r hS1339r hg1339r l1339 y1339 z1339 st1339 hQ1339 hC1339
    subst l1339 y1339 z1339
    obtain ⟨X1339, hS1339, hZ1339, ho1339⟩ := rebS (s := s) (vm0 := T1304.vm) (n1 := T1304.heap.size) hS1304 (by rw [e1304]; first | exact hk1304 | exact Nat.le_refl _) X1339r hS1339r hg1339r hZ1304 ho1304
    obtain ⟨h1339, e1339⟩ : ∃ h, T1339.heap = h := ⟨_, rfl⟩
    rw [e1339] at hQ1339
    obtain ⟨b1339, b1339b, kb1339b, rfl, N1339q, K1339q, y_b1339, Ob1339_0, Ob1339_1, Ob1339_2, Ob1339b_0⟩ := hQ1339
    have N1339 := Fr.app N1304 N1339q
    have ne_s__VALUES_b1339 : s__VALUES ≠ b1339 := Nat.ne_of_lt (Nat.lt_of_lt_of_le (Vf1311).lt y_b1339)
    have ne_s_GLOP_b1339 : s_GLOP ≠ b1339 := Nat.ne_of_lt (Nat.lt_of_lt_of_le (Ef1313).lt y_b1339)
    have ne_n_GLOP_b1339 : n_GLOP ≠ b1339 := Nat.ne_of_lt (Nat.lt_of_lt_of_le (Ef1315).lt y_b1339)
    have ne_t_GLOP_b1339 : t_GLOP ≠ b1339 := Nat.ne_of_lt (Nat.lt_of_lt_of_le (Vf1318).lt y_b1339)
    have ne_s_CLP_b1339 : s_CLP ≠ b1339 := Nat.ne_of_lt (Nat.lt_of_lt_of_le (Ef1319).lt y_b1339)
    have ne_n_CLP_b1339 : n_CLP ≠ b1339 := Nat.ne_of_lt (Nat.lt_of_lt_of_le (Ef1321).lt y_b1339)
    have ne_t_CLP_b1339 : t_CLP ≠ b1339 := Nat.ne_of_lt (Nat.lt_of_lt_of_le (Vf1324).lt y_b1339)
    have ne_s_PDLP_b1339 : s_PDLP ≠ b1339 := Nat.ne_of_lt (Nat.lt_of_lt_of_le (Ef1325).lt y_b1339)
    have ne_n_PDLP_b1339 : n_PDLP ≠ b1339 := Nat.ne_of_lt (Nat.lt_of_lt_of_le (Ef1327).lt y_b1339)
    have ne_t_PDLP_b1339 : t_PDLP ≠ b1339 := Nat.ne_of_lt (Nat.lt_of_lt_of_le (Vf1330).lt y_b1339)
    have ne_a1160_b1339 : a1160 ≠ b1339 := Nat.ne_of_lt (Nat.lt_of_lt_of_le (Ef1331).lt y_b1339)
    have ne_b1160_b1339 : b1160 ≠ b1339 := Nat.ne_of_lt (Nat.lt_of_lt_of_le (Vf1334).lt y_b1339)
    have g_b1339 : n0 ≤ b1339 := Nat.le_trans Z1304 y_b1339
    have sz_b1339 : h0.size ≤ b1339 := Nat.le_trans K1304.1 y_b1339
    have Z1339 : n0 ≤ h1339.size := Nat.le_trans Z1304 K1339q.1
    have K1339 : Keep h0 h1339 [] := K1304.trans K1339q (fun x hx => absurd hx List.not_mem_nil)
    have Sf1340 : Sta Z h1339 "java/lang/String" "COMPACT_STRINGS" "Z" (.int gc1) := own_sta_keep0 Sf1305 K1339q
    have Sf1341 : Sta Z h1339 "jdk/internal/util/Preconditions" "SIOOBE_FORMATTER" "Ljava/util/function/BiFunction;" gf3 := own_sta_keep0 Sf1306 K1339q
    have Sf1342 : Sta Z h1339 "com/example/timely_exodus/timelyexodus/plan/LpSolver" "GLOP" "Lcom/example/timely_exodus/timelyexodus/plan/LpSolver;" (.ref s_GLOP) := own_sta_keep0 Sf1307 K1339q
    have Sf1343 : Sta Z h1339 "com/example/timely_exodus/timelyexodus/plan/LpSolver" "CLP" "Lcom/example/timely_exodus/timelyexodus/plan/LpSolver;" (.ref s_CLP) := own_sta_keep0 Sf1308 K1339q
    have Sf1344 : Sta Z h1339 "com/example/timely_exodus/timelyexodus/plan/LpSolver" "PDLP" "Lcom/example/timely_exodus/timelyexodus/plan/LpSolver;" (.ref s_PDLP) := own_sta_keep0 Sf1309 K1339q
    have Sf1345 : Sta Z h1339 "com/example/timely_exodus/timelyexodus/plan/LpSolver" "$VALUES" "[Lcom/example/timely_exodus/timelyexodus/plan/LpSolver;" (.ref s__VALUES) := own_sta_keep0 Sf1310 K1339q
    have Vf1346 : Arv Z h1339 s__VALUES k__VALUES (.object "com/example/timely_exodus/timelyexodus/plan/LpSolver") (3 : Int32) [(.ref s_GLOP), (.ref s_CLP), (.ref s_PDLP)] .null := (Vf1311).keep K1339q List.not_mem_nil
    have Ef1347 : Exa Z h1339 s__VALUES "[Lcom/example/timely_exodus/timelyexodus/plan/LpSolver;" := (Ef1312).keep K1339q
    have Ef1348 : Exa Z h1339 s_GLOP "com/example/timely_exodus/timelyexodus/plan/LpSolver" := (Ef1313).keep K1339q
    have Ff1349 : Fld Z h1339 s_GLOP "com/example/timely_exodus/timelyexodus/plan/LpSolver" "name" "Ljava/lang/String;" (.ref n_GLOP) := (Ff1314).keep K1339q List.not_mem_nil
    have Ef1350 : Exa Z h1339 n_GLOP "java/lang/String" := (Ef1315).keep K1339q
    have Ff1351 : Fld Z h1339 n_GLOP "java/lang/String" "value" "[B" (.ref t_GLOP) := (Ff1316).keep K1339q List.not_mem_nil
    have Ff1352 : Fld Z h1339 n_GLOP "java/lang/String" "coder" "B" (.int 0) := (Ff1317).keep K1339q List.not_mem_nil
    have Vf1353 : Arv Z h1339 t_GLOP k_t_GLOP .byte (4 : Int32) ((([103, 108, 111, 112] : List Int32).map (fun c => c.toInt8.toInt32)).map Value.int) (.int 0) := (Vf1318).keep K1339q List.not_mem_nil
    have Ef1354 : Exa Z h1339 s_CLP "com/example/timely_exodus/timelyexodus/plan/LpSolver" := (Ef1319).keep K1339q
    have Ff1355 : Fld Z h1339 s_CLP "com/example/timely_exodus/timelyexodus/plan/LpSolver" "name" "Ljava/lang/String;" (.ref n_CLP) := (Ff1320).keep K1339q List.not_mem_nil
    have Ef1356 : Exa Z h1339 n_CLP "java/lang/String" := (Ef1321).keep K1339q
    have Ff1357 : Fld Z h1339 n_CLP "java/lang/String" "value" "[B" (.ref t_CLP) := (Ff1322).keep K1339q List.not_mem_nil
    have Ff1358 : Fld Z h1339 n_CLP "java/lang/String" "coder" "B" (.int 0) := (Ff1323).keep K1339q List.not_mem_nil
    have Vf1359 : Arv Z h1339 t_CLP k_t_CLP .byte (3 : Int32) ((([99, 108, 112] : List Int32).map (fun c => c.toInt8.toInt32)).map Value.int) (.int 0) := (Vf1324).keep K1339q List.not_mem_nil
    have Ef1360 : Exa Z h1339 s_PDLP "com/example/timely_exodus/timelyexodus/plan/LpSolver" := (Ef1325).keep K1339q
    have Ff1361 : Fld Z h1339 s_PDLP "com/example/timely_exodus/timelyexodus/plan/LpSolver" "name" "Ljava/lang/String;" (.ref n_PDLP) := (Ff1326).keep K1339q List.not_mem_nil
    have Ef1362 : Exa Z h1339 n_PDLP "java/lang/String" := (Ef1327).keep K1339q
    have Ff1363 : Fld Z h1339 n_PDLP "java/lang/String" "value" "[B" (.ref t_PDLP) := (Ff1328).keep K1339q List.not_mem_nil
    have Ff1364 : Fld Z h1339 n_PDLP "java/lang/String" "coder" "B" (.int 0) := (Ff1329).keep K1339q List.not_mem_nil
    have Vf1365 : Arv Z h1339 t_PDLP k_t_PDLP .byte (4 : Int32) ((([112, 100, 108, 112] : List Int32).map (fun c => c.toInt8.toInt32)).map Value.int) (.int 0) := (Vf1330).keep K1339q List.not_mem_nil
    have Ef1366 : Exa Z h1339 a1160 "java/lang/String" := (Ef1331).keep K1339q
    have Ff1367 : Fld Z h1339 a1160 "java/lang/String" "coder" "B" (.int 0) := (Ff1332).keep K1339q List.not_mem_nil
    have Ff1368 : Fld Z h1339 a1160 "java/lang/String" "value" "[B" (.ref b1160) := (Ff1333).keep K1339q List.not_mem_nil
    have Vf1369 : Arv Z h1339 b1160 kb1160 .byte (4 : Int32) ((([112, 100, 108, 112] : List Int32).map (fun c => c.toInt8.toInt32)).map Value.int) (.int 0) := (Vf1334).keep K1339q List.not_mem_nil
    rw [e1339] at hC1339
    have CR1339 := CR1304.trans hC1339
    have hk1339 : T1339.heap.size ≤ h1339.size := by rw [e1339]; exact Nat.le_refl _
    have pre1370 : own_P p e below T1339 (mkF m 141 #[vI p0, vI p1, vI p2, vI p3, vI p4, vI p5, vI v565, vR a1160, vI v1195, vI v1231, vI v1266, vI v1301, vI v1336, .unset, .unset] [(.ref b1339)]) s₁ (entryFrame m #[(.int p0), (.int p1), (.int p2), (.int p3), (.int p4), (.int p5)] maxLocals) := fun t k => pre1338 t (st1339.trans k)
    have pre1371 : own_P p e below T1339 (mkF m 145 #[vI p0, vI p1, vI p2, vI p3, vI p4, vI p5, vI v565, vR a1160, vI v1195, vI v1231, vI v1266, vI v1301, vI v1336, vR b1339, .unset] [(.ref b1339)]) s₁ (entryFrame m #[(.int p0), (.int p1), (.int p2), (.int p3), (.int p4), (.int p5)] maxLocals) := by
     intro t k
     refine pre1370 t ?_
     refine XS.astore X1339.here hx rfl (hb hby at_141) rfl rfl (l' := #[vI p0, vI p1, vI p2, vI p3, vI p4, vI p5, vI v565, vR a1160, vI v1195, vI v1231, vI v1266, vI v1301, vI v1336, vR b1339, .unset]) rfl ?_
     refine XS.aload X1339.here hx rfl (hb hby at_143) rfl rfl ?_
     exact k
    obtain ⟨_, _, ⟨T1372, L1372, k1372, n1372⟩, -, X1372r, hS1372r, hg1372r, ⟨Lc1372, hQ1372, l1372, y1372, z1372, hC1372⟩, st1372⟩ := callSS X1339 hx (y := (⟨"com/example/timely_exodus/timelyexodus/plan/LpSolverFromNamePinLaw", "ref", "(Ljava/lang/String;)Lcom/example/timely_exodus/timelyexodus/plan/LpSolver;"⟩ : MethodName)) ho1339 (mvT hZ1339 (own_w hw 53 rfl)) (mvT hZ1339 (own_w hw 54 rfl)) (mvT hZ1339 (own_w hw 10 rfl)) (mvT hZ1339 (own_w hw 55 rfl)) (by decide) (backOfSH (W := 0) (rm12_y l Z ar0 hw [] b1339 (own_cs v1195 v1231 v1266 v1301 v1336) gc1 b1339b kb1339b s_GLOP s_CLP s_PDLP h1339 n0 Z1339 P5 (own_hpcs (by rw [hv1231]; exact own_Rf1_0 (by decide)) (by rw [hv1266]; exact own_Rf1_1 (by decide)) (by rw [hv1301]; exact own_Rf1_2 (by decide)) (by rw [hv1336]; exact own_Rf1_3 (by decide))) own_hlcs Sf1340 Ob1339_0 Ob1339_1 Ob1339_2 Ob1339b_0 Sf1342 Sf1343 Sf1344) hZ1339 (own_w hw 55 rfl) (own_w hw 10 rfl) (by decide) (by decide) hEL CR1339.1) (g := (mkF m 145 #[vI p0, vI p1, vI p2, vI p3, vI p4, vI p5, vI v565, vR a1160, vI v1195, vI v1231, vI v1266, vI v1301, vI v1336, vR b1339, .unset] [(.ref b1339)])) rfl (by rw [hml]; rfl) (argsL := [(.ref b1339)]) (rest := []) (lenOf pd_8 rfl) rfl (by show 2 * 0 + _ ≤ _; exact Nat.le_of_eq rfl) (hb hby at_145) (fun _ _ => ⟨rfl, e1339, (by decide : 16 + 6 ≤ _), (by decide : 144 + 56 ≤ _)⟩)
    dsimp only [Pt.U, Pt.locs, Pt.cells, Pt.slots] at X1372r hS1372r hg1372r l1372 y1372 z1372 st1372 hQ1372 hC1372
    subst l1372 y1372 z1372
    obtain ⟨X1372, hS1372, hZ1372, ho1372⟩ := rebS (s := s) (vm0 := T1339.vm) (n1 := T1339.heap.size) hS1339 (by rw [e1339]; first | exact hk1339 | exact Nat.le_refl _) X1372r hS1372r hg1372r hZ1339 ho1339
    obtain ⟨h1372, e1372⟩ : ∃ h, T1372.heap = h := ⟨_, rfl⟩
    rw [e1372] at hQ1372
    obtain ⟨rfl, N1372q, K1372q⟩ := hQ1372
    have N1372 := Fr.app N1339 N1372q
    have Z1372 : n0 ≤ h1372.size := Nat.le_trans Z1339 K1372q.1
    have K1372 : Keep h0 h1372 [] := K1339.trans K1372q (fun x hx => absurd hx List.not_mem_nil)
    have Sf1373 : Sta Z h1372 "java/lang/String" "COMPACT_STRINGS" "Z" (.int gc1) := own_sta_keep0 Sf1340 K1372q
    have Sf1374 : Sta Z h1372 "jdk/internal/util/Preconditions" "SIOOBE_FORMATTER" "Ljava/util/function/BiFunction;" gf3 := own_sta_keep0 Sf1341 K1372q
    have Sf1375 : Sta Z h1372 "com/example/timely_exodus/timelyexodus/plan/LpSolver" "GLOP" "Lcom/example/timely_exodus/timelyexodus/plan/LpSolver;" (.ref s_GLOP) := own_sta_keep0 Sf1342 K1372q
    have Sf1376 : Sta Z h1372 "com/example/timely_exodus/timelyexodus/plan/LpSolver" "CLP" "Lcom/example/timely_exodus/timelyexodus/plan/LpSolver;" (.ref s_CLP) := own_sta_keep0 Sf1343 K1372q
    have Sf1377 : Sta Z h1372 "com/example/timely_exodus/timelyexodus/plan/LpSolver" "PDLP" "Lcom/example/timely_exodus/timelyexodus/plan/LpSolver;" (.ref s_PDLP) := own_sta_keep0 Sf1344 K1372q
    have Sf1378 : Sta Z h1372 "com/example/timely_exodus/timelyexodus/plan/LpSolver" "$VALUES" "[Lcom/example/timely_exodus/timelyexodus/plan/LpSolver;" (.ref s__VALUES) := own_sta_keep0 Sf1345 K1372q
    have Vf1379 : Arv Z h1372 s__VALUES k__VALUES (.object "com/example/timely_exodus/timelyexodus/plan/LpSolver") (3 : Int32) [(.ref s_GLOP), (.ref s_CLP), (.ref s_PDLP)] .null := (Vf1346).keep K1372q List.not_mem_nil
    have Ef1380 : Exa Z h1372 s__VALUES "[Lcom/example/timely_exodus/timelyexodus/plan/LpSolver;" := (Ef1347).keep K1372q
    have Ef1381 : Exa Z h1372 s_GLOP "com/example/timely_exodus/timelyexodus/plan/LpSolver" := (Ef1348).keep K1372q
    have Ff1382 : Fld Z h1372 s_GLOP "com/example/timely_exodus/timelyexodus/plan/LpSolver" "name" "Ljava/lang/String;" (.ref n_GLOP) := (Ff1349).keep K1372q List.not_mem_nil
    have Ef1383 : Exa Z h1372 n_GLOP "java/lang/String" := (Ef1350).keep K1372q
    have Ff1384 : Fld Z h1372 n_GLOP "java/lang/String" "value" "[B" (.ref t_GLOP) := (Ff1351).keep K1372q List.not_mem_nil
    have Ff1385 : Fld Z h1372 n_GLOP "java/lang/String" "coder" "B" (.int 0) := (Ff1352).keep K1372q List.not_mem_nil
    have Vf1386 : Arv Z h1372 t_GLOP k_t_GLOP .byte (4 : Int32) ((([103, 108, 111, 112] : List Int32).map (fun c => c.toInt8.toInt32)).map Value.int) (.int 0) := (Vf1353).keep K1372q List.not_mem_nil
    have Ef1387 : Exa Z h1372 s_CLP "com/example/timely_exodus/timelyexodus/plan/LpSolver" := (Ef1354).keep K1372q
    have Ff1388 : Fld Z h1372 s_CLP "com/example/timely_exodus/timelyexodus/plan/LpSolver" "name" "Ljava/lang/String;" (.ref n_CLP) := (Ff1355).keep K1372q List.not_mem_nil
    have Ef1389 : Exa Z h1372 n_CLP "java/lang/String" := (Ef1356).keep K1372q
    have Ff1390 : Fld Z h1372 n_CLP "java/lang/String" "value" "[B" (.ref t_CLP) := (Ff1357).keep K1372q List.not_mem_nil
    have Ff1391 : Fld Z h1372 n_CLP "java/lang/String" "coder" "B" (.int 0) := (Ff1358).keep K1372q List.not_mem_nil
    have Vf1392 : Arv Z h1372 t_CLP k_t_CLP .byte (3 : Int32) ((([99, 108, 112] : List Int32).map (fun c => c.toInt8.toInt32)).map Value.int) (.int 0) := (Vf1359).keep K1372q List.not_mem_nil
    have Ef1393 : Exa Z h1372 s_PDLP "com/example/timely_exodus/timelyexodus/plan/LpSolver" := (Ef1360).keep K1372q
    have Ff1394 : Fld Z h1372 s_PDLP "com/example/timely_exodus/timelyexodus/plan/LpSolver" "name" "Ljava/lang/String;" (.ref n_PDLP) := (Ff1361).keep K1372q List.not_mem_nil
    have Ef1395 : Exa Z h1372 n_PDLP "java/lang/String" := (Ef1362).keep K1372q
    have Ff1396 : Fld Z h1372 n_PDLP "java/lang/String" "value" "[B" (.ref t_PDLP) := (Ff1363).keep K1372q List.not_mem_nil
    have Ff1397 : Fld Z h1372 n_PDLP "java/lang/String" "coder" "B" (.int 0) := (Ff1364).keep K1372q List.not_mem_nil
    have Vf1398 : Arv Z h1372 t_PDLP k_t_PDLP .byte (4 : Int32) ((([112, 100, 108, 112] : List Int32).map (fun c => c.toInt8.toInt32)).map Value.int) (.int 0) := (Vf1365).keep K1372q List.not_mem_nil
    have Ef1399 : Exa Z h1372 a1160 "java/lang/String" := (Ef1366).keep K1372q
    have Ff1400 : Fld Z h1372 a1160 "java/lang/String" "coder" "B" (.int 0) := (Ff1367).keep K1372q List.not_mem_nil
    have Ff1401 : Fld Z h1372 a1160 "java/lang/String" "value" "[B" (.ref b1160) := (Ff1368).keep K1372q List.not_mem_nil
    have Vf1402 : Arv Z h1372 b1160 kb1160 .byte (4 : Int32) ((([112, 100, 108, 112] : List Int32).map (fun c => c.toInt8.toInt32)).map Value.int) (.int 0) := (Vf1369).keep K1372q List.not_mem_nil
    have Ef1403 : Exa Z h1372 b1339 "java/lang/String" := (Ob1339_0).keep K1372q
    have Ff1404 : Fld Z h1372 b1339 "java/lang/String" "value" "[B" (.ref b1339b) := (Ob1339_1).keep K1372q List.not_mem_nil
    have Ff1405 : Fld Z h1372 b1339 "java/lang/String" "coder" "B" (.int 0) := (Ob1339_2).keep K1372q List.not_mem_nil
    have Vf1406 : Arv Z h1372 b1339b kb1339b .byte (Int32.ofNat (own_cs v1195 v1231 v1266 v1301 v1336).length) ((((own_cs v1195 v1231 v1266 v1301 v1336) : List Int32).map (fun c => c.toInt8.toInt32)).map Value.int) (.int 0) := (Ob1339b_0).keep K1372q List.not_mem_nil
    rw [e1372] at hC1372
    have CR1372 := CR1339.trans hC1372
    have hk1372 : T1372.heap.size ≤ h1372.size := by rw [e1372]; exact Nat.le_refl _
    have pre1407 : own_P p e below T1372 (mkF m 148 #[vI p0, vI p1, vI p2, vI p3, vI p4, vI p5, vI v565, vR a1160, vI v1195, vI v1231, vI v1266, vI v1301, vI v1336, vR b1339, .unset] [(f12_y (own_cs v1195 v1231 v1266 v1301 v1336) s_GLOP s_CLP s_PDLP)]) s₁ (entryFrame m #[(.int p0), (.int p1), (.int p2), (.int p3), (.int p4), (.int p5)] maxLocals) := fun t k => pre1371 t (st1372.trans k)
    obtain ⟨w1408, hw1408⟩ : ∃ z : Value, z = (f12_y (own_cs v1195 v1231 v1266 v1301 v1336) s_GLOP s_CLP s_PDLP) := ⟨_, rfl⟩
    have pre1409 : own_P p e below T1372 (mkF m 148 #[vI p0, vI p1, vI p2, vI p3, vI p4, vI p5, vI v565, vR a1160, vI v1195, vI v1231, vI v1266, vI v1301, vI v1336, vR b1339, .unset] [w1408]) s₁ (entryFrame m #[(.int p0), (.int p1), (.int p2), (.int p3), (.int p4), (.int p5)] maxLocals) := by rw [hw1408]; exact pre1407
    have hr_w1408 : w1408.isRef = true := by rw [hw1408]; exact own_r_f12_y
    have pre1410 : own_P p e below T1372 (mkF m 152 #[vI p0, vI p1, vI p2, vI p3, vI p4, vI p5, vI v565, vR a1160, vI v1195, vI v1231, vI v1266, vI v1301, vI v1336, vR b1339, .val w1408] [(.ref b1339)]) s₁ (entryFrame m #[(.int p0), (.int p1), (.int p2), (.int p3), (.int p4), (.int p5)] maxLocals) := by
     intro t k
     refine pre1409 t ?_
     refine XS.astore X1372.here hx rfl (hb hby at_148) rfl (by first | exact hr_w1408 | rfl) (l' := #[vI p0, vI p1, vI p2, vI p3, vI p4, vI p5, vI v565, vR a1160, vI v1195, vI v1231, vI v1266, vI v1301, vI v1336, vR b1339, .val w1408]) (by rcases own_rc hr_w1408 with q | ⟨b, q⟩ <;> rw [q] <;> rfl) ?_
     refine XS.aload X1372.here hx rfl (hb hby at_150) rfl rfl ?_
     exact k
    obtain ⟨_, _, ⟨T1411, L1411, k1411, n1411⟩, -, X1411, ⟨Lc1411, hQ1411, l1411, y1411, z1411⟩, st1411⟩ := Jvm.LawKit.callS X1372 hx (y := (⟨"com/example/timely_exodus/timelyexodus/plan/LpSolver", "fromName", "(Ljava/lang/String;)Lcom/example/timely_exodus/timelyexodus/plan/LpSolver;"⟩ : MethodName)) ho1372 (mvT hZ1372 (own_w hw 69 rfl)) (mvT hZ1372 (own_w hw 70 rfl)) (mvT hZ1372 (own_w hw 71 rfl)) (mvT hZ1372 (own_w hw 72 rfl)) (by decide) (backOf (W := 0) (rm15_y l Z ar0 hw [] b1339 (own_cs v1195 v1231 v1266 v1301 v1336) gc1 b1339b kb1339b s__VALUES k__VALUES s_GLOP s_CLP s_PDLP n_GLOP t_GLOP k_t_GLOP n_CLP t_CLP k_t_CLP n_PDLP t_PDLP k_t_PDLP h1372 n0 Z1372 P5 (own_hpcs (by rw [hv1231]; exact own_Rf1_0 (by decide)) (by rw [hv1266]; exact own_Rf1_1 (by decide)) (by rw [hv1301]; exact own_Rf1_2 (by decide)) (by rw [hv1336]; exact own_Rf1_3 (by decide))) own_hlcs Sf1373 Ef1403 Ff1404 Ff1405 Vf1406 Sf1378 Vf1379 Ef1380 Ef1381 Ff1382 Ef1383 Ff1384 Ff1385 Vf1386 Ef1387 Ff1388 Ef1389 Ff1390 Ff1391 Vf1392 Ef1393 Ff1394 Ef1395 Ff1396 Ff1397 Vf1398) hZ1372 (own_w hw 72 rfl) (own_w hw 71 rfl) (by decide) (by decide)) (g := (mkF m 152 #[vI p0, vI p1, vI p2, vI p3, vI p4, vI p5, vI v565, vR a1160, vI v1195, vI v1231, vI v1266, vI v1301, vI v1336, vR b1339, .val w1408] [(.ref b1339)])) rfl (by rw [hml]; rfl) (argsL := [(.ref b1339)]) (rest := []) (lenOf pd_8 rfl) rfl (by show 2 * 0 + _ ≤ _; exact Nat.le_of_eq rfl) (hb hby at_152) (fun _ _ => ⟨rfl, e1372, (by decide : 22 + 1 ≤ _), (by decide : 200 + 3 ≤ _)⟩)
    dsimp only [Pt.U, Pt.locs, Pt.cells, Pt.slots] at X1411 l1411 y1411 z1411 st1411 hQ1411
    subst l1411 y1411 z1411
    obtain ⟨h1411, e1411⟩ : ∃ h, T1411.heap = h := ⟨_, rfl⟩
    rw [e1411] at hQ1411
    obtain ⟨rfl, N1411q, K1411q⟩ := hQ1411
    have N1411 := Fr.app N1372 N1411q
    have Z1411 : n0 ≤ h1411.size := Nat.le_trans Z1372 K1411q.1
    have hk1411 := Nat.le_trans hk1372 K1411q.1
    have K1411 : Keep h0 h1411 [] := K1372.trans K1411q (fun x hx => absurd hx List.not_mem_nil)
    have CR1411 := CR1372.trans (CHr.keep K1411q sf0 CR1372.1)
    have Sf1412 : Sta Z h1411 "java/lang/String" "COMPACT_STRINGS" "Z" (.int gc1) := own_sta_keep0 Sf1373 K1411q
    have Sf1413 : Sta Z h1411 "jdk/internal/util/Preconditions" "SIOOBE_FORMATTER" "Ljava/util/function/BiFunction;" gf3 := own_sta_keep0 Sf1374 K1411q
    have Sf1414 : Sta Z h1411 "com/example/timely_exodus/timelyexodus/plan/LpSolver" "GLOP" "Lcom/example/timely_exodus/timelyexodus/plan/LpSolver;" (.ref s_GLOP) := own_sta_keep0 Sf1375 K1411q
    have Sf1415 : Sta Z h1411 "com/example/timely_exodus/timelyexodus/plan/LpSolver" "CLP" "Lcom/example/timely_exodus/timelyexodus/plan/LpSolver;" (.ref s_CLP) := own_sta_keep0 Sf1376 K1411q
    have Sf1416 : Sta Z h1411 "com/example/timely_exodus/timelyexodus/plan/LpSolver" "PDLP" "Lcom/example/timely_exodus/timelyexodus/plan/LpSolver;" (.ref s_PDLP) := own_sta_keep0 Sf1377 K1411q
    have Sf1417 : Sta Z h1411 "com/example/timely_exodus/timelyexodus/plan/LpSolver" "$VALUES" "[Lcom/example/timely_exodus/timelyexodus/plan/LpSolver;" (.ref s__VALUES) := own_sta_keep0 Sf1378 K1411q
    have Vf1418 : Arv Z h1411 s__VALUES k__VALUES (.object "com/example/timely_exodus/timelyexodus/plan/LpSolver") (3 : Int32) [(.ref s_GLOP), (.ref s_CLP), (.ref s_PDLP)] .null := (Vf1379).keep K1411q List.not_mem_nil
    have Ef1419 : Exa Z h1411 s__VALUES "[Lcom/example/timely_exodus/timelyexodus/plan/LpSolver;" := (Ef1380).keep K1411q
    have Ef1420 : Exa Z h1411 s_GLOP "com/example/timely_exodus/timelyexodus/plan/LpSolver" := (Ef1381).keep K1411q
    have Ff1421 : Fld Z h1411 s_GLOP "com/example/timely_exodus/timelyexodus/plan/LpSolver" "name" "Ljava/lang/String;" (.ref n_GLOP) := (Ff1382).keep K1411q List.not_mem_nil
    have Ef1422 : Exa Z h1411 n_GLOP "java/lang/String" := (Ef1383).keep K1411q
    have Ff1423 : Fld Z h1411 n_GLOP "java/lang/String" "value" "[B" (.ref t_GLOP) := (Ff1384).keep K1411q List.not_mem_nil
    have Ff1424 : Fld Z h1411 n_GLOP "java/lang/String" "coder" "B" (.int 0) := (Ff1385).keep K1411q List.not_mem_nil
    have Vf1425 : Arv Z h1411 t_GLOP k_t_GLOP .byte (4 : Int32) ((([103, 108, 111, 112] : List Int32).map (fun c => c.toInt8.toInt32)).map Value.int) (.int 0) := (Vf1386).keep K1411q List.not_mem_nil
    have Ef1426 : Exa Z h1411 s_CLP "com/example/timely_exodus/timelyexodus/plan/LpSolver" := (Ef1387).keep K1411q
    have Ff1427 : Fld Z h1411 s_CLP "com/example/timely_exodus/timelyexodus/plan/LpSolver" "name" "Ljava/lang/String;" (.ref n_CLP) := (Ff1388).keep K1411q List.not_mem_nil
    have Ef1428 : Exa Z h1411 n_CLP "java/lang/String" := (Ef1389).keep K1411q
    have Ff1429 : Fld Z h1411 n_CLP "java/lang/String" "value" "[B" (.ref t_CLP) := (Ff1390).keep K1411q List.not_mem_nil
    have Ff1430 : Fld Z h1411 n_CLP "java/lang/String" "coder" "B" (.int 0) := (Ff1391).keep K1411q List.not_mem_nil
    have Vf1431 : Arv Z h1411 t_CLP k_t_CLP .byte (3 : Int32) ((([99, 108, 112] : List Int32).map (fun c => c.toInt8.toInt32)).map Value.int) (.int 0) := (Vf1392).keep K1411q List.not_mem_nil
    have Ef1432 : Exa Z h1411 s_PDLP "com/example/timely_exodus/timelyexodus/plan/LpSolver" := (Ef1393).keep K1411q
    have Ff1433 : Fld Z h1411 s_PDLP "com/example/timely_exodus/timelyexodus/plan/LpSolver" "name" "Ljava/lang/String;" (.ref n_PDLP) := (Ff1394).keep K1411q List.not_mem_nil
    have Ef1434 : Exa Z h1411 n_PDLP "java/lang/String" := (Ef1395).keep K1411q
    have Ff1435 : Fld Z h1411 n_PDLP "java/lang/String" "value" "[B" (.ref t_PDLP) := (Ff1396).keep K1411q List.not_mem_nil
    have Ff1436 : Fld Z h1411 n_PDLP "java/lang/String" "coder" "B" (.int 0) := (Ff1397).keep K1411q List.not_mem_nil
    have Vf1437 : Arv Z h1411 t_PDLP k_t_PDLP .byte (4 : Int32) ((([112, 100, 108, 112] : List Int32).map (fun c => c.toInt8.toInt32)).map Value.int) (.int 0) := (Vf1398).keep K1411q List.not_mem_nil
    have Ef1438 : Exa Z h1411 a1160 "java/lang/String" := (Ef1399).keep K1411q
    have Ff1439 : Fld Z h1411 a1160 "java/lang/String" "coder" "B" (.int 0) := (Ff1400).keep K1411q List.not_mem_nil
    have Ff1440 : Fld Z h1411 a1160 "java/lang/String" "value" "[B" (.ref b1160) := (Ff1401).keep K1411q List.not_mem_nil
    have Vf1441 : Arv Z h1411 b1160 kb1160 .byte (4 : Int32) ((([112, 100, 108, 112] : List Int32).map (fun c => c.toInt8.toInt32)).map Value.int) (.int 0) := (Vf1402).keep K1411q List.not_mem_nil
    have Ef1442 : Exa Z h1411 b1339 "java/lang/String" := (Ef1403).keep K1411q
    have Ff1443 : Fld Z h1411 b1339 "java/lang/String" "value" "[B" (.ref b1339b) := (Ff1404).keep K1411q List.not_mem_nil
    have Ff1444 : Fld Z h1411 b1339 "java/lang/String" "coder" "B" (.int 0) := (Ff1405).keep K1411q List.not_mem_nil
    have Vf1445 : Arv Z h1411 b1339b kb1339b .byte (Int32.ofNat (own_cs v1195 v1231 v1266 v1301 v1336).length) ((((own_cs v1195 v1231 v1266 v1301 v1336) : List Int32).map (fun c => c.toInt8.toInt32)).map Value.int) (.int 0) := (Vf1406).keep K1411q List.not_mem_nil
    have pre1446 : own_P p e below T1411 (mkF m 155 #[vI p0, vI p1, vI p2, vI p3, vI p4, vI p5, vI v565, vR a1160, vI v1195, vI v1231, vI v1266, vI v1301, vI v1336, vR b1339, .val w1408] [(f15_y (own_cs v1195 v1231 v1266 v1301 v1336) s_GLOP s_CLP s_PDLP)]) s₁ (entryFrame m #[(.int p0), (.int p1), (.int p2), (.int p3), (.int p4), (.int p5)] maxLocals) := fun t k => pre1410 t (st1411 t k)
    obtain ⟨w1447, hw1447⟩ : ∃ z : Value, z = (f15_y (own_cs v1195 v1231 v1266 v1301 v1336) s_GLOP s_CLP s_PDLP) := ⟨_, rfl⟩
    have pre1448 : own_P p e below T1411 (mkF m 155 #[vI p0, vI p1, vI p2, vI p3, vI p4, vI p5, vI v565, vR a1160, vI v1195, vI v1231, vI v1266, vI v1301, vI v1336, vR b1339, .val w1408] [w1447]) s₁ (entryFrame m #[(.int p0), (.int p1), (.int p2), (.int p3), (.int p4), (.int p5)] maxLocals) := by rw [hw1447]; exact pre1446
    have hr_w1447 : w1447.isRef = true := by rw [hw1447]; exact own_r_f15_y
    have pre1449 : own_P p e below T1411 (mkF m 157 #[vI p0, vI p1, vI p2, vI p3, vI p4, vI p5, vI v565, vR a1160, vI v1195, vI v1231, vI v1266, vI v1301, vI v1336, vR b1339, .val w1408] [w1408, w1447]) s₁ (entryFrame m #[(.int p0), (.int p1), (.int p2), (.int p3), (.int p4), (.int p5)] maxLocals) := by
     intro t k
     refine pre1448 t ?_
     refine XS.aload X1411.here hx rfl (hb hby at_155) rfl (by first | exact hr_w1408 | rfl) ?_
     exact k
    by_cases hc157_1450 : (w1447 : Value) = w1408
    ·
     obtain ⟨fs, hr, hrun, hended, hRW⟩ := X1411.leaveW (s := s) (vm₁ := T1372.vm) hS1372 (by rw [e1411]; first | exact hk1411 | exact Nat.le_refl _) (v := some (.int 1)) (fun h => by rw [Bd.returns] at h; cases h)
     refine ⟨_, _, pre1449 _ ?_, hrun, hended, _, _, rfl, ?_, hRW.1, hRW.2.1, hRW.2.2.1, hRW.2.2.2.mono (by decide) (by decide)⟩
     ·
      refine Jvm.RoadKit.acmp (g := (mkF m 157 #[vI p0, vI p1, vI p2, vI p3, vI p4, vI p5, vI v565, vR a1160, vI v1195, vI v1231, vI v1266, vI v1301, vI v1336, vR b1339, .val w1408] [w1408, w1447])) X1411 hx rfl hr_w1447 hr_w1408 (pc0 := 157) (pc' := 160) (same := true) rfl (hb hby at_157) rfl (decide_eq_true hc157_1450) (by decide) (by decide) ?_
      refine XS.iconst X1411.here hx rfl (hb hby at_160) ?_
      refine XS.goto X1411.here hx rfl (pc0 := 161) (pc' := 165) rfl (hb hby at_161) (by decide) (by decide) ?_
      exact retN X1411 hx (t := .boolean) Bd.returns (by simp) (hb hby at_165) hr
     ·
      show Q0 Z p0 p1 p2 p3 p4 p5 gc1 gf3 s_GLOP s_CLP s_PDLP s__VALUES k__VALUES n_GLOP t_GLOP k_t_GLOP n_CLP t_CLP k_t_CLP n_PDLP t_PDLP k_t_PDLP h0 n0 _ T1411.heap _
      rw [e1411]
      exact ⟨rfl, N1411⟩
    ·
     have pre1451 : ∀ t, Steps p.tables e below (T1411.setTop (mkF m 165 #[vI p0, vI p1, vI p2, vI p3, vI p4, vI p5, vI v565, vR a1160, vI v1195, vI v1231, vI v1266, vI v1301, vI v1336, vR b1339, .val w1408] [(.int 0)])) t → Steps p.tables e below (s₁.setTop (entryFrame m #[(.int p0), (.int p1), (.int p2), (.int p3), (.int p4), (.int p5)] maxLocals)) t := by
      intro t k
      refine pre1449 t ?_
      refine Jvm.RoadKit.acmp (g := (mkF m 157 #[vI p0, vI p1, vI p2, vI p3, vI p4, vI p5, vI v565, vR a1160, vI v1195, vI v1231, vI v1266, vI v1301, vI v1336, vR b1339, .val w1408] [w1408, w1447])) X1411 hx rfl hr_w1447 hr_w1408 (pc0 := 157) (pc' := 164) (same := false) rfl (hb hby at_157) rfl (decide_eq_false hc157_1450) (by decide) (by decide) ?_
      refine XS.iconst X1411.here hx rfl (hb hby at_164) ?_
      exact k
     exact (own_leaf3 rG3 P5 hv565 hc8_568 hc19_863 hc30_1158 hv1195 hv1231 hv1266 hv1301 hv1336 hw1408 hw1447 hc157_1450).elim
   ·
    have pre1452 : ∀ t, Steps p.tables e below (s₁.setTop (mkF m 38 #[vI p0, vI p1, vI p2, vI p3, vI p4, vI p5, vI v565, .unset, .unset, .unset, .unset, .unset, .unset, .unset, .unset] [])) t → Steps p.tables e below (s₁.setTop (entryFrame m #[(.int p0), (.int p1), (.int p2), (.int p3), (.int p4), (.int p5)] maxLocals)) t := by
     intro t k
     refine pre1157 t ?_
     refine XS.icmpYes X0.here hx rfl (pc0 := 30) (pc' := 38) rfl (hb hby at_30) rfl (feq hc30_1158).2 (by decide) (by decide) ?_
     exact k
    obtain ⟨a1453, T1453, h1453, k1453, b1453, kb1453, X1453, e1453, E1453, hS1453, hk1453, hZ1453, ho1453, Ea1453, Ca1453, Va1453, Ab1453, la1453, lb1453, hC1453, -, hn1453, st1453⟩ := ldcCH (s := s) (vm0 := s.vm) X0 hx hZ hown (own_w hw 0 rfl) (own_strW hw) e0 hS0 (Nat.zero_le _) hEL (List.mem_of_getElem? (i := 3) rfl) hCR0.1 (vs := []) (z := (0 : Int32)) ⟨by decide, rfl⟩ (by decide) rfl (g := (mkF m 38 #[vI p0, vI p1, vI p2, vI p3, vI p4, vI p5, vI v565, .unset, .unset, .unset, .unset, .unset, .unset, .unset, .unset] [])) rfl (hb hby at_38) (n := 0) (by decide) (by decide) (by decide) (by decide)
    have CR1453 := hCR0.trans hC1453
    have Z1453 : n0 ≤ h1453.size := Nat.le_trans Z0 E1453.1
    have K1453 : Keep h0 h1453 [] := (Keep.refl h0 []).ext E1453
    have Sf1454 : Sta Z h1453 "java/lang/String" "COMPACT_STRINGS" "Z" (.int gc1) := (S_COMPACT_STRINGS).ext E1453
    have Sf1455 : Sta Z h1453 "jdk/internal/util/Preconditions" "SIOOBE_FORMATTER" "Ljava/util/function/BiFunction;" gf3 := (S_SIOOBE_FORMATTER).ext E1453
    have Sf1456 : Sta Z h1453 "com/example/timely_exodus/timelyexodus/plan/LpSolver" "GLOP" "Lcom/example/timely_exodus/timelyexodus/plan/LpSolver;" (.ref s_GLOP) := (S_GLOP).ext E1453
    have Sf1457 : Sta Z h1453 "com/example/timely_exodus/timelyexodus/plan/LpSolver" "CLP" "Lcom/example/timely_exodus/timelyexodus/plan/LpSolver;" (.ref s_CLP) := (S_CLP).ext E1453
    have Sf1458 : Sta Z h1453 "com/example/timely_exodus/timelyexodus/plan/LpSolver" "PDLP" "Lcom/example/timely_exodus/timelyexodus/plan/LpSolver;" (.ref s_PDLP) := (S_PDLP).ext E1453
    have Sf1459 : Sta Z h1453 "com/example/timely_exodus/timelyexodus/plan/LpSolver" "$VALUES" "[Lcom/example/timely_exodus/timelyexodus/plan/LpSolver;" (.ref s__VALUES) := (S__VALUES).ext E1453
    have Vf1460 : Arv Z h1453 s__VALUES k__VALUES (.object "com/example/timely_exodus/timelyexodus/plan/LpSolver") (3 : Int32) [(.ref s_GLOP), (.ref s_CLP), (.ref s_PDLP)] .null := (V_s__VALUES).ext E1453
    have Ef1461 : Exa Z h1453 s__VALUES "[Lcom/example/timely_exodus/timelyexodus/plan/LpSolver;" := (E_s__VALUES).ext E1453
    have Ef1462 : Exa Z h1453 s_GLOP "com/example/timely_exodus/timelyexodus/plan/LpSolver" := (E_s_GLOP).ext E1453
    have Ff1463 : Fld Z h1453 s_GLOP "com/example/timely_exodus/timelyexodus/plan/LpSolver" "name" "Ljava/lang/String;" (.ref n_GLOP) := (F_name_s_GLOP).ext E1453
    have Ef1464 : Exa Z h1453 n_GLOP "java/lang/String" := (E_n_GLOP).ext E1453
    have Ff1465 : Fld Z h1453 n_GLOP "java/lang/String" "value" "[B" (.ref t_GLOP) := (F_value_n_GLOP).ext E1453
    have Ff1466 : Fld Z h1453 n_GLOP "java/lang/String" "coder" "B" (.int 0) := (F_coder_n_GLOP).ext E1453
    have Vf1467 : Arv Z h1453 t_GLOP k_t_GLOP .byte (4 : Int32) ((([103, 108, 111, 112] : List Int32).map (fun c => c.toInt8.toInt32)).map Value.int) (.int 0) := (B_t_GLOP).ext E1453
    have Ef1468 : Exa Z h1453 s_CLP "com/example/timely_exodus/timelyexodus/plan/LpSolver" := (E_s_CLP).ext E1453
    have Ff1469 : Fld Z h1453 s_CLP "com/example/timely_exodus/timelyexodus/plan/LpSolver" "name" "Ljava/lang/String;" (.ref n_CLP) := (F_name_s_CLP).ext E1453
    have Ef1470 : Exa Z h1453 n_CLP "java/lang/String" := (E_n_CLP).ext E1453
    have Ff1471 : Fld Z h1453 n_CLP "java/lang/String" "value" "[B" (.ref t_CLP) := (F_value_n_CLP).ext E1453
    have Ff1472 : Fld Z h1453 n_CLP "java/lang/String" "coder" "B" (.int 0) := (F_coder_n_CLP).ext E1453
    have Vf1473 : Arv Z h1453 t_CLP k_t_CLP .byte (3 : Int32) ((([99, 108, 112] : List Int32).map (fun c => c.toInt8.toInt32)).map Value.int) (.int 0) := (B_t_CLP).ext E1453
    have Ef1474 : Exa Z h1453 s_PDLP "com/example/timely_exodus/timelyexodus/plan/LpSolver" := (E_s_PDLP).ext E1453
    have Ff1475 : Fld Z h1453 s_PDLP "com/example/timely_exodus/timelyexodus/plan/LpSolver" "name" "Ljava/lang/String;" (.ref n_PDLP) := (F_name_s_PDLP).ext E1453
    have Ef1476 : Exa Z h1453 n_PDLP "java/lang/String" := (E_n_PDLP).ext E1453
    have Ff1477 : Fld Z h1453 n_PDLP "java/lang/String" "value" "[B" (.ref t_PDLP) := (F_value_n_PDLP).ext E1453
    have Ff1478 : Fld Z h1453 n_PDLP "java/lang/String" "coder" "B" (.int 0) := (F_coder_n_PDLP).ext E1453
    have Vf1479 : Arv Z h1453 t_PDLP k_t_PDLP .byte (4 : Int32) ((([112, 100, 108, 112] : List Int32).map (fun c => c.toInt8.toInt32)).map Value.int) (.int 0) := (B_t_PDLP).ext E1453
    have pre1480 : own_P p e below T1453 (mkF m 40 #[vI p0, vI p1, vI p2, vI p3, vI p4, vI p5, vI v565, .unset, .unset, .unset, .unset, .unset, .unset, .unset, .unset] [(.ref a1453)]) s₁ (entryFrame m #[(.int p0), (.int p1), (.int p2), (.int p3), (.int p4), (.int p5)] maxLocals) := fun t k => pre1452 t (st1453 t k)
    have pre1481 : own_P p e below T1453 (mkF m 44 #[vI p0, vI p1, vI p2, vI p3, vI p4, vI p5, vI v565, vR a1453, .unset, .unset, .unset, .unset, .unset, .unset, .unset] [(.int v565)]) s₁ (entryFrame m #[(.int p0), (.int p1), (.int p2), (.int p3), (.int p4), (.int p5)] maxLocals) := by
     intro t k
     refine pre1480 t ?_
     refine XS.astore X1453.here hx rfl (hb hby at_40) rfl rfl (l' := #[vI p0, vI p1, vI p2, vI p3, vI p4, vI p5, vI v565, vR a1453, .unset, .unset, .unset, .unset, .unset, .unset, .unset]) rfl ?_
     refine XS.iload X1453.here hx rfl (hb hby at_42) rfl ?_
     exact k
    obtain ⟨T1493, L1493, v1491, X1493, N1493, e1493, pre1492, hv1491⟩ : ∃ (T1493 : State) (L1493 : List Loc) (v1491 : Int32), Stand p l e room_1 (s.setVm T1453.vm) m #[(.int p0), (.int p1), (.int p2), (.int p3), (.int p4), (.int p5)] below meth c T1493 L1493 2 4 ∧ Fr n0 L1493 ∧ T1493.heap = h1453 ∧ (∀ t, Steps p.tables e below (T1493.setTop (mkF m 68 #[vI p0, vI p1, vI p2, vI p3, vI p4, vI p5, vI v565, vR a1453, .unset, .unset, .unset, .unset, .unset, .unset, .unset] [(.int v1491)])) t → Steps p.tables e below (s₁.setTop (entryFrame m #[(.int p0), (.int p1), (.int p2), (.int p3), (.int p4), (.int p5)] maxLocals)) t) ∧ v1491 = (if v565 = (0 : Int32) then ((p1 &&& (7 : Int32)) % (5 : Int32)) else (if (p0 &&& (64 : Int32)) = (0 : Int32) then (Int32.ofNat ([] : List Int32).length) else ((p1 &&& (7 : Int32)) % (5 : Int32)))) := by
     by_cases hc44_1482 : v565 = (0 : Int32)
     ·
      have pre1483 : ∀ t, Steps p.tables e below (T1453.setTop (mkF m 68 #[vI p0, vI p1, vI p2, vI p3, vI p4, vI p5, vI v565, vR a1453, .unset, .unset, .unset, .unset, .unset, .unset, .unset] [(.int ((p1 &&& (7 : Int32)) % (5 : Int32)))])) t → Steps p.tables e below (s₁.setTop (entryFrame m #[(.int p0), (.int p1), (.int p2), (.int p3), (.int p4), (.int p5)] maxLocals)) t := by
       intro t k
       refine pre1481 t ?_
       refine XS.ifYes X1453.here hx rfl (pc0 := 44) (pc' := 62) rfl (hb hby at_44) rfl ((if0 _ _).trans (teq hc44_1482).1) (by decide) (by decide) ?_
       refine XS.iloadN X1453.here hx rfl (hb hby at_62) rfl ?_
       refine XS.bipush X1453.here hx rfl (hb hby at_63) ?_
       refine XS.iand X1453.here hx rfl (hb hby at_65) rfl ?_
       refine XS.iconst X1453.here hx rfl (hb hby at_66) ?_
       refine iremM X1453 hx rfl (hb hby at_67) rfl (by decide) ?_
       exact k
      exact ⟨T1453, _, ((p1 &&& (7 : Int32)) % (5 : Int32)), X1453, N0, e1453, pre1483, by rw [if_pos hc44_1482]⟩
     ·
      have pre1484 : ∀ t, Steps p.tables e below (T1453.setTop (mkF m 51 #[vI p0, vI p1, vI p2, vI p3, vI p4, vI p5, vI v565, vR a1453, .unset, .unset, .unset, .unset, .unset, .unset, .unset] [(.int (p0 &&& (64 : Int32)))])) t → Steps p.tables e below (s₁.setTop (entryFrame m #[(.int p0), (.int p1), (.int p2), (.int p3), (.int p4), (.int p5)] maxLocals)) t := by
       intro t k
       refine pre1481 t ?_
       refine XS.ifNo X1453.here hx rfl (hb hby at_44) rfl ((if0 _ _).trans (feq hc44_1482).1) ?_
       refine XS.iloadN X1453.here hx rfl (hb hby at_47) rfl ?_
       refine XS.bipush X1453.here hx rfl (hb hby at_48) ?_
       refine XS.iand X1453.here hx rfl (hb hby at_50) rfl ?_
       exact k
      by_cases hc51_1485 : (p0 &&& (64 : Int32)) = (0 : Int32)
      ·
       have pre1486 : ∀ t, Steps p.tables e below (T1453.setTop (mkF m 56 #[vI p0, vI p1, vI p2, vI p3, vI p4, vI p5, vI v565, vR a1453, .unset, .unset, .unset, .unset, .unset, .unset, .unset] [(.ref a1453)])) t → Steps p.tables e below (s₁.setTop (entryFrame m #[(.int p0), (.int p1), (.int p2), (.int p3), (.int p4), (.int p5)] maxLocals)) t := by
        intro t k
        refine pre1484 t ?_
        refine XS.ifNo X1453.here hx rfl (hb hby at_51) rfl ((if0 _ _).trans (teq hc51_1485).2) ?_
        refine XS.aload X1453.here hx rfl (hb hby at_54) rfl rfl ?_
        exact k
       obtain ⟨cq1487, kq1487, q1487a, q1487b, q1487c⟩ := isOf hZ1453 e1453 Ea1453
       obtain ⟨_, _, ⟨T1487, L1487, k1487, n1487⟩, -, X1487, ⟨Lc1487, hQ1487, l1487, y1487, z1487⟩, st1487⟩ := X1453.virtualBack hx (y := (⟨"java/lang/String", "length", "()I"⟩ : MethodName)) (z := (⟨"java/lang/String", "length", "()I"⟩ : MethodName)) ho1453 (mvT hZ1453 (own_w hw 12 rfl)) (mvT hZ1453 (own_w hw 13 rfl)) (notFace_of_selects (args := #[]) (mvT hZ1453 (own_w hw 15 rfl))) (mvT hZ1453 (own_w hw 15 rfl)) (mvT hZ1453 (own_w hw 14 rfl)) (by decide) (StrChars.Road.lenW (W := 0) hZ1453 (own_wordsLen hw) (kI := 4) (own_w hw 2 rfl) Ea1453 Va1453 Ca1453 Ab1453 (own_hcdG (cs := []) (by decide)) (own_up [] (by decide)) Sf1454 P5 (Nat.le_of_ble_eq_true rfl) (by decide) (by decide)) q1487a q1487c (g := (mkF m 56 #[vI p0, vI p1, vI p2, vI p3, vI p4, vI p5, vI v565, vR a1453, .unset, .unset, .unset, .unset, .unset, .unset, .unset] [(.ref a1453)])) rfl (by rw [hml]; rfl) (Steps.refl _) (argsL := []) (rest := []) (lenOf pd_2 rfl) rfl (by show 2 * 0 + _ ≤ _; exact Nat.le_of_eq rfl) (hb hby at_56) (fun _ _ => ⟨rfl, e1453, (by decide : 2 + 0 ≤ _), (by decide : 4 + 0 ≤ _)⟩)
       dsimp only [Pt.U, Pt.locs, Pt.cells, Pt.slots] at X1487 l1487 y1487 z1487 st1487 hQ1487
       subst l1487 y1487 z1487
       obtain ⟨rfl, rfl, e1487⟩ := hQ1487
       try rw [List.append_nil] at X1487
       have pre1488 : own_P p e below T1487 (mkF m 59 #[vI p0, vI p1, vI p2, vI p3, vI p4, vI p5, vI v565, vR a1453, .unset, .unset, .unset, .unset, .unset, .unset, .unset] [(.int (Int32.ofNat ([] : List Int32).length))]) s₁ (entryFrame m #[(.int p0), (.int p1), (.int p2), (.int p3), (.int p4), (.int p5)] maxLocals) := fun t k => pre1486 t (st1487.trans k)
       have pre1489 : own_P p e below T1487 (mkF m 68 #[vI p0, vI p1, vI p2, vI p3, vI p4, vI p5, vI v565, vR a1453, .unset, .unset, .unset, .unset, .unset, .unset, .unset] [(.int (Int32.ofNat ([] : List Int32).length))]) s₁ (entryFrame m #[(.int p0), (.int p1), (.int p2), (.int p3), (.int p4), (.int p5)] maxLocals) := by
        intro t k
        refine pre1488 t ?_
        refine XS.goto X1487.here hx rfl (pc0 := 59) (pc' := 68) rfl (hb hby at_59) (by decide) (by decide) ?_
        exact k
       exact ⟨T1487, _, (Int32.ofNat ([] : List Int32).length), X1487, N0, e1487, pre1489, by rw [if_neg hc44_1482, if_pos hc51_1485]⟩
      ·
       have pre1490 : ∀ t, Steps p.tables e below (T1453.setTop (mkF m 68 #[vI p0, vI p1, vI p2, vI p3, vI p4, vI p5, vI v565, vR a1453, .unset, .unset, .unset, .unset, .unset, .unset, .unset] [(.int ((p1 &&& (7 : Int32)) % (5 : Int32)))])) t → Steps p.tables e below (s₁.setTop (entryFrame m #[(.int p0), (.int p1), (.int p2), (.int p3), (.int p4), (.int p5)] maxLocals)) t := by
        intro t k
        refine pre1484 t ?_
        refine XS.ifYes X1453.here hx rfl (pc0 := 51) (pc' := 62) rfl (hb hby at_51) rfl ((if0 _ _).trans (feq hc51_1485).2) (by decide) (by decide) ?_
        refine XS.iloadN X1453.here hx rfl (hb hby at_62) rfl ?_
        refine XS.bipush X1453.here hx rfl (hb hby at_63) ?_
        refine XS.iand X1453.here hx rfl (hb hby at_65) rfl ?_
        refine XS.iconst X1453.here hx rfl (hb hby at_66) ?_
        refine iremM X1453 hx rfl (hb hby at_67) rfl (by decide) ?_
        exact k
       exact ⟨T1453, _, ((p1 &&& (7 : Int32)) % (5 : Int32)), X1453, N0, e1453, pre1490, by rw [if_neg hc44_1482, if_neg hc51_1485]⟩
    have pre1494 : own_P p e below T1493 (mkF m 75 #[vI p0, vI p1, vI p2, vI p3, vI p4, vI p5, vI v565, vR a1453, vI v1491, .unset, .unset, .unset, .unset, .unset, .unset] [(.int p0), (.int p2), (.ref a1453), (.int 0)]) s₁ (entryFrame m #[(.int p0), (.int p1), (.int p2), (.int p3), (.int p4), (.int p5)] maxLocals) := by
     intro t k
     refine pre1492 t ?_
     refine XS.istore X1493.here hx rfl (hb hby at_68) rfl (l' := #[vI p0, vI p1, vI p2, vI p3, vI p4, vI p5, vI v565, vR a1453, vI v1491, .unset, .unset, .unset, .unset, .unset, .unset]) rfl ?_
     refine XS.iconst X1493.here hx rfl (hb hby at_70) ?_
     refine XS.aload X1493.here hx rfl (hb hby at_71) rfl rfl ?_
     refine XS.iloadN X1493.here hx rfl (hb hby at_73) rfl ?_
     refine XS.iloadN X1493.here hx rfl (hb hby at_74) rfl ?_
     exact k
    obtain ⟨_, _, ⟨T1495, L1495, k1495, n1495⟩, -, X1495r, hS1495r, hg1495r, ⟨Lc1495, hQ1495, l1495, y1495, z1495, hC1495⟩, st1495⟩ := callSS X1493 hx (y := (⟨"com/example/timely_exodus/timelyexodus/plan/LpSolverFromNamePinLaw", "ch", "(ILjava/lang/String;II)C"⟩ : MethodName)) ho1453 (mvT hZ1453 (own_w hw 8 rfl)) (mvT hZ1453 (own_w hw 9 rfl)) (mvT hZ1453 (own_w hw 10 rfl)) (mvT hZ1453 (own_w hw 11 rfl)) (by decide) (backOfSH (W := 0) (rm1_0 l Z ar0 hw [] a1453 p2 p0 ([]) gc1 gf3 b1453 kb1453 h1453 n0 Z1453 P5 rG3 (by decide) (by decide) Sf1454 Sf1455 Ea1453 Va1453 Ca1453 Ab1453) hZ1453 (own_w hw 11 rfl) (own_w hw 10 rfl) (by decide) (by decide) hEL CR1453.1) (g := (mkF m 75 #[vI p0, vI p1, vI p2, vI p3, vI p4, vI p5, vI v565, vR a1453, vI v1491, .unset, .unset, .unset, .unset, .unset, .unset] [(.int p0), (.int p2), (.ref a1453), (.int 0)])) rfl (by rw [hml]; rfl) (argsL := [(.int 0), (.ref a1453), (.int p2), (.int p0)]) (rest := []) (lenOf pd_6 rfl) rfl (by show 2 * 0 + _ ≤ _; exact Nat.le_of_eq rfl) (hb hby at_75) (fun _ _ => ⟨rfl, e1493, (by decide : 2 + 2 ≤ _), (by decide : 4 + 28 ≤ _)⟩)
    dsimp only [Pt.U, Pt.locs, Pt.cells, Pt.slots] at X1495r hS1495r hg1495r l1495 y1495 z1495 st1495 hQ1495 hC1495
    subst l1495 y1495 z1495
    obtain ⟨X1495, hS1495, hZ1495, ho1495⟩ := rebS (s := s) (vm0 := T1453.vm) (n1 := T1493.heap.size) hS1453 (by rw [e1493]; first | exact hk1453 | exact Nat.le_refl _) X1495r hS1495r hg1495r hZ1453 ho1453
    obtain ⟨h1495, e1495⟩ : ∃ h, T1495.heap = h := ⟨_, rfl⟩
    rw [e1495] at hQ1495
    obtain ⟨rfl, N1495q, K1495q⟩ := hQ1495
    have N1495 := Fr.app N1493 N1495q
    have Z1495 : n0 ≤ h1495.size := Nat.le_trans Z1453 K1495q.1
    have K1495 : Keep h0 h1495 [] := K1453.trans K1495q (fun x hx => absurd hx List.not_mem_nil)
    have Sf1496 : Sta Z h1495 "java/lang/String" "COMPACT_STRINGS" "Z" (.int gc1) := own_sta_keep0 Sf1454 K1495q
    have Sf1497 : Sta Z h1495 "jdk/internal/util/Preconditions" "SIOOBE_FORMATTER" "Ljava/util/function/BiFunction;" gf3 := own_sta_keep0 Sf1455 K1495q
    have Sf1498 : Sta Z h1495 "com/example/timely_exodus/timelyexodus/plan/LpSolver" "GLOP" "Lcom/example/timely_exodus/timelyexodus/plan/LpSolver;" (.ref s_GLOP) := own_sta_keep0 Sf1456 K1495q
    have Sf1499 : Sta Z h1495 "com/example/timely_exodus/timelyexodus/plan/LpSolver" "CLP" "Lcom/example/timely_exodus/timelyexodus/plan/LpSolver;" (.ref s_CLP) := own_sta_keep0 Sf1457 K1495q
    have Sf1500 : Sta Z h1495 "com/example/timely_exodus/timelyexodus/plan/LpSolver" "PDLP" "Lcom/example/timely_exodus/timelyexodus/plan/LpSolver;" (.ref s_PDLP) := own_sta_keep0 Sf1458 K1495q
    have Sf1501 : Sta Z h1495 "com/example/timely_exodus/timelyexodus/plan/LpSolver" "$VALUES" "[Lcom/example/timely_exodus/timelyexodus/plan/LpSolver;" (.ref s__VALUES) := own_sta_keep0 Sf1459 K1495q
    have Vf1502 : Arv Z h1495 s__VALUES k__VALUES (.object "com/example/timely_exodus/timelyexodus/plan/LpSolver") (3 : Int32) [(.ref s_GLOP), (.ref s_CLP), (.ref s_PDLP)] .null := (Vf1460).keep K1495q List.not_mem_nil
    have Ef1503 : Exa Z h1495 s__VALUES "[Lcom/example/timely_exodus/timelyexodus/plan/LpSolver;" := (Ef1461).keep K1495q
    have Ef1504 : Exa Z h1495 s_GLOP "com/example/timely_exodus/timelyexodus/plan/LpSolver" := (Ef1462).keep K1495q
    have Ff1505 : Fld Z h1495 s_GLOP "com/example/timely_exodus/timelyexodus/plan/LpSolver" "name" "Ljava/lang/String;" (.ref n_GLOP) := (Ff1463).keep K1495q List.not_mem_nil
    have Ef1506 : Exa Z h1495 n_GLOP "java/lang/String" := (Ef1464).keep K1495q
    have Ff1507 : Fld Z h1495 n_GLOP "java/lang/String" "value" "[B" (.ref t_GLOP) := (Ff1465).keep K1495q List.not_mem_nil
    have Ff1508 : Fld Z h1495 n_GLOP "java/lang/String" "coder" "B" (.int 0) := (Ff1466).keep K1495q List.not_mem_nil
    have Vf1509 : Arv Z h1495 t_GLOP k_t_GLOP .byte (4 : Int32) ((([103, 108, 111, 112] : List Int32).map (fun c => c.toInt8.toInt32)).map Value.int) (.int 0) := (Vf1467).keep K1495q List.not_mem_nil
    have Ef1510 : Exa Z h1495 s_CLP "com/example/timely_exodus/timelyexodus/plan/LpSolver" := (Ef1468).keep K1495q
    have Ff1511 : Fld Z h1495 s_CLP "com/example/timely_exodus/timelyexodus/plan/LpSolver" "name" "Ljava/lang/String;" (.ref n_CLP) := (Ff1469).keep K1495q List.not_mem_nil
    have Ef1512 : Exa Z h1495 n_CLP "java/lang/String" := (Ef1470).keep K1495q
    have Ff1513 : Fld Z h1495 n_CLP "java/lang/String" "value" "[B" (.ref t_CLP) := (Ff1471).keep K1495q List.not_mem_nil
    have Ff1514 : Fld Z h1495 n_CLP "java/lang/String" "coder" "B" (.int 0) := (Ff1472).keep K1495q List.not_mem_nil
    have Vf1515 : Arv Z h1495 t_CLP k_t_CLP .byte (3 : Int32) ((([99, 108, 112] : List Int32).map (fun c => c.toInt8.toInt32)).map Value.int) (.int 0) := (Vf1473).keep K1495q List.not_mem_nil
    have Ef1516 : Exa Z h1495 s_PDLP "com/example/timely_exodus/timelyexodus/plan/LpSolver" := (Ef1474).keep K1495q
    have Ff1517 : Fld Z h1495 s_PDLP "com/example/timely_exodus/timelyexodus/plan/LpSolver" "name" "Ljava/lang/String;" (.ref n_PDLP) := (Ff1475).keep K1495q List.not_mem_nil
    have Ef1518 : Exa Z h1495 n_PDLP "java/lang/String" := (Ef1476).keep K1495q
    have Ff1519 : Fld Z h1495 n_PDLP "java/lang/String" "value" "[B" (.ref t_PDLP) := (Ff1477).keep K1495q List.not_mem_nil
    have Ff1520 : Fld Z h1495 n_PDLP "java/lang/String" "coder" "B" (.int 0) := (Ff1478).keep K1495q List.not_mem_nil
    have Vf1521 : Arv Z h1495 t_PDLP k_t_PDLP .byte (4 : Int32) ((([112, 100, 108, 112] : List Int32).map (fun c => c.toInt8.toInt32)).map Value.int) (.int 0) := (Vf1479).keep K1495q List.not_mem_nil
    have Ef1522 : Exa Z h1495 a1453 "java/lang/String" := (Ea1453).keep K1495q
    have Ff1523 : Fld Z h1495 a1453 "java/lang/String" "coder" "B" (.int 0) := (Ca1453).keep K1495q List.not_mem_nil
    have Ff1524 : Fld Z h1495 a1453 "java/lang/String" "value" "[B" (.ref b1453) := (Va1453).keep K1495q List.not_mem_nil
    have Vf1525 : Arv Z h1495 b1453 kb1453 .byte (0 : Int32) ((([] : List Int32).map (fun c => c.toInt8.toInt32)).map Value.int) (.int 0) := (Ab1453).keep K1495q List.not_mem_nil
    rw [e1495] at hC1495
    have CR1495 := CR1453.trans hC1495
    have hk1495 : T1495.heap.size ≤ h1495.size := by rw [e1495]; exact Nat.le_refl _
    have pre1526 : own_P p e below T1495 (mkF m 78 #[vI p0, vI p1, vI p2, vI p3, vI p4, vI p5, vI v565, vR a1453, vI v1491, .unset, .unset, .unset, .unset, .unset, .unset] [(.int (f1_0 p2 p0 ([])))]) s₁ (entryFrame m #[(.int p0), (.int p1), (.int p2), (.int p3), (.int p4), (.int p5)] maxLocals) := fun t k => pre1494 t (st1495.trans k)
    obtain ⟨v1527, hv1527⟩ : ∃ z : Int32, z = (f1_0 p2 p0 ([])) := ⟨_, rfl⟩
    have pre1528 : own_P p e below T1495 (mkF m 78 #[vI p0, vI p1, vI p2, vI p3, vI p4, vI p5, vI v565, vR a1453, vI v1491, .unset, .unset, .unset, .unset, .unset, .unset] [(.int v1527)]) s₁ (entryFrame m #[(.int p0), (.int p1), (.int p2), (.int p3), (.int p4), (.int p5)] maxLocals) := by rw [hv1527]; exact pre1526
    have pre1529 : own_P p e below T1495 (mkF m 85 #[vI p0, vI p1, vI p2, vI p3, vI p4, vI p5, vI v565, vR a1453, vI v1491, vI v1527, .unset, .unset, .unset, .unset, .unset] [(.int p0), (.int p3), (.ref a1453), (.int 1)]) s₁ (entryFrame m #[(.int p0), (.int p1), (.int p2), (.int p3), (.int p4), (.int p5)] maxLocals) := by
     intro t k
     refine pre1528 t ?_
     refine XS.istore X1495.here hx rfl (hb hby at_78) rfl (l' := #[vI p0, vI p1, vI p2, vI p3, vI p4, vI p5, vI v565, vR a1453, vI v1491, vI v1527, .unset, .unset, .unset, .unset, .unset]) rfl ?_
     refine XS.iconst X1495.here hx rfl (hb hby at_80) ?_
     refine XS.aload X1495.here hx rfl (hb hby at_81) rfl rfl ?_
     refine XS.iloadN X1495.here hx rfl (hb hby at_83) rfl ?_
     refine XS.iloadN X1495.here hx rfl (hb hby at_84) rfl ?_
     exact k
    obtain ⟨_, _, ⟨T1530, L1530, k1530, n1530⟩, -, X1530r, hS1530r, hg1530r, ⟨Lc1530, hQ1530, l1530, y1530, z1530, hC1530⟩, st1530⟩ := callSS X1495 hx (y := (⟨"com/example/timely_exodus/timelyexodus/plan/LpSolverFromNamePinLaw", "ch", "(ILjava/lang/String;II)C"⟩ : MethodName)) ho1495 (mvT hZ1495 (own_w hw 8 rfl)) (mvT hZ1495 (own_w hw 9 rfl)) (mvT hZ1495 (own_w hw 10 rfl)) (mvT hZ1495 (own_w hw 11 rfl)) (by decide) (backOfSH (W := 0) (rm1_1 l Z ar0 hw [] a1453 p3 p0 ([]) gc1 gf3 b1453 kb1453 h1495 n0 Z1495 P5 rG3 (by decide) (by decide) Sf1496 Sf1497 Ef1522 Ff1524 Ff1523 Vf1525) hZ1495 (own_w hw 11 rfl) (own_w hw 10 rfl) (by decide) (by decide) hEL CR1495.1) (g := (mkF m 85 #[vI p0, vI p1, vI p2, vI p3, vI p4, vI p5, vI v565, vR a1453, vI v1491, vI v1527, .unset, .unset, .unset, .unset, .unset] [(.int p0), (.int p3), (.ref a1453), (.int 1)])) rfl (by rw [hml]; rfl) (argsL := [(.int 1), (.ref a1453), (.int p3), (.int p0)]) (rest := []) (lenOf pd_6 rfl) rfl (by show 2 * 0 + _ ≤ _; exact Nat.le_of_eq rfl) (hb hby at_85) (fun _ _ => ⟨rfl, e1495, (by decide : 4 + 2 ≤ _), (by decide : 32 + 28 ≤ _)⟩)
    dsimp only [Pt.U, Pt.locs, Pt.cells, Pt.slots] at X1530r hS1530r hg1530r l1530 y1530 z1530 st1530 hQ1530 hC1530
    subst l1530 y1530 z1530
    obtain ⟨X1530, hS1530, hZ1530, ho1530⟩ := rebS (s := s) (vm0 := T1495.vm) (n1 := T1495.heap.size) hS1495 (by rw [e1495]; first | exact hk1495 | exact Nat.le_refl _) X1530r hS1530r hg1530r hZ1495 ho1495
    obtain ⟨h1530, e1530⟩ : ∃ h, T1530.heap = h := ⟨_, rfl⟩
    rw [e1530] at hQ1530
    obtain ⟨rfl, N1530q, K1530q⟩ := hQ1530
    have N1530 := Fr.app N1495 N1530q
    have Z1530 : n0 ≤ h1530.size := Nat.le_trans Z1495 K1530q.1
    have K1530 : Keep h0 h1530 [] := K1495.trans K1530q (fun x hx => absurd hx List.not_mem_nil)
    have Sf1531 : Sta Z h1530 "java/lang/String" "COMPACT_STRINGS" "Z" (.int gc1) := own_sta_keep0 Sf1496 K1530q
    have Sf1532 : Sta Z h1530 "jdk/internal/util/Preconditions" "SIOOBE_FORMATTER" "Ljava/util/function/BiFunction;" gf3 := own_sta_keep0 Sf1497 K1530q
    have Sf1533 : Sta Z h1530 "com/example/timely_exodus/timelyexodus/plan/LpSolver" "GLOP" "Lcom/example/timely_exodus/timelyexodus/plan/LpSolver;" (.ref s_GLOP) := own_sta_keep0 Sf1498 K1530q
    have Sf1534 : Sta Z h1530 "com/example/timely_exodus/timelyexodus/plan/LpSolver" "CLP" "Lcom/example/timely_exodus/timelyexodus/plan/LpSolver;" (.ref s_CLP) := own_sta_keep0 Sf1499 K1530q
    have Sf1535 : Sta Z h1530 "com/example/timely_exodus/timelyexodus/plan/LpSolver" "PDLP" "Lcom/example/timely_exodus/timelyexodus/plan/LpSolver;" (.ref s_PDLP) := own_sta_keep0 Sf1500 K1530q
    have Sf1536 : Sta Z h1530 "com/example/timely_exodus/timelyexodus/plan/LpSolver" "$VALUES" "[Lcom/example/timely_exodus/timelyexodus/plan/LpSolver;" (.ref s__VALUES) := own_sta_keep0 Sf1501 K1530q
    have Vf1537 : Arv Z h1530 s__VALUES k__VALUES (.object "com/example/timely_exodus/timelyexodus/plan/LpSolver") (3 : Int32) [(.ref s_GLOP), (.ref s_CLP), (.ref s_PDLP)] .null := (Vf1502).keep K1530q List.not_mem_nil
    have Ef1538 : Exa Z h1530 s__VALUES "[Lcom/example/timely_exodus/timelyexodus/plan/LpSolver;" := (Ef1503).keep K1530q
    have Ef1539 : Exa Z h1530 s_GLOP "com/example/timely_exodus/timelyexodus/plan/LpSolver" := (Ef1504).keep K1530q
    have Ff1540 : Fld Z h1530 s_GLOP "com/example/timely_exodus/timelyexodus/plan/LpSolver" "name" "Ljava/lang/String;" (.ref n_GLOP) := (Ff1505).keep K1530q List.not_mem_nil
    have Ef1541 : Exa Z h1530 n_GLOP "java/lang/String" := (Ef1506).keep K1530q
    have Ff1542 : Fld Z h1530 n_GLOP "java/lang/String" "value" "[B" (.ref t_GLOP) := (Ff1507).keep K1530q List.not_mem_nil
    have Ff1543 : Fld Z h1530 n_GLOP "java/lang/String" "coder" "B" (.int 0) := (Ff1508).keep K1530q List.not_mem_nil
    have Vf1544 : Arv Z h1530 t_GLOP k_t_GLOP .byte (4 : Int32) ((([103, 108, 111, 112] : List Int32).map (fun c => c.toInt8.toInt32)).map Value.int) (.int 0) := (Vf1509).keep K1530q List.not_mem_nil
    have Ef1545 : Exa Z h1530 s_CLP "com/example/timely_exodus/timelyexodus/plan/LpSolver" := (Ef1510).keep K1530q
    have Ff1546 : Fld Z h1530 s_CLP "com/example/timely_exodus/timelyexodus/plan/LpSolver" "name" "Ljava/lang/String;" (.ref n_CLP) := (Ff1511).keep K1530q List.not_mem_nil
    have Ef1547 : Exa Z h1530 n_CLP "java/lang/String" := (Ef1512).keep K1530q
    have Ff1548 : Fld Z h1530 n_CLP "java/lang/String" "value" "[B" (.ref t_CLP) := (Ff1513).keep K1530q List.not_mem_nil
    have Ff1549 : Fld Z h1530 n_CLP "java/lang/String" "coder" "B" (.int 0) := (Ff1514).keep K1530q List.not_mem_nil
    have Vf1550 : Arv Z h1530 t_CLP k_t_CLP .byte (3 : Int32) ((([99, 108, 112] : List Int32).map (fun c => c.toInt8.toInt32)).map Value.int) (.int 0) := (Vf1515).keep K1530q List.not_mem_nil
    have Ef1551 : Exa Z h1530 s_PDLP "com/example/timely_exodus/timelyexodus/plan/LpSolver" := (Ef1516).keep K1530q
    have Ff1552 : Fld Z h1530 s_PDLP "com/example/timely_exodus/timelyexodus/plan/LpSolver" "name" "Ljava/lang/String;" (.ref n_PDLP) := (Ff1517).keep K1530q List.not_mem_nil
    have Ef1553 : Exa Z h1530 n_PDLP "java/lang/String" := (Ef1518).keep K1530q
    have Ff1554 : Fld Z h1530 n_PDLP "java/lang/String" "value" "[B" (.ref t_PDLP) := (Ff1519).keep K1530q List.not_mem_nil
    have Ff1555 : Fld Z h1530 n_PDLP "java/lang/String" "coder" "B" (.int 0) := (Ff1520).keep K1530q List.not_mem_nil
    have Vf1556 : Arv Z h1530 t_PDLP k_t_PDLP .byte (4 : Int32) ((([112, 100, 108, 112] : List Int32).map (fun c => c.toInt8.toInt32)).map Value.int) (.int 0) := (Vf1521).keep K1530q List.not_mem_nil
    have Ef1557 : Exa Z h1530 a1453 "java/lang/String" := (Ef1522).keep K1530q
    have Ff1558 : Fld Z h1530 a1453 "java/lang/String" "coder" "B" (.int 0) := (Ff1523).keep K1530q List.not_mem_nil
    have Ff1559 : Fld Z h1530 a1453 "java/lang/String" "value" "[B" (.ref b1453) := (Ff1524).keep K1530q List.not_mem_nil
    have Vf1560 : Arv Z h1530 b1453 kb1453 .byte (0 : Int32) ((([] : List Int32).map (fun c => c.toInt8.toInt32)).map Value.int) (.int 0) := (Vf1525).keep K1530q List.not_mem_nil
    rw [e1530] at hC1530
    have CR1530 := CR1495.trans hC1530
    have hk1530 : T1530.heap.size ≤ h1530.size := by rw [e1530]; exact Nat.le_refl _
    have pre1561 : own_P p e below T1530 (mkF m 88 #[vI p0, vI p1, vI p2, vI p3, vI p4, vI p5, vI v565, vR a1453, vI v1491, vI v1527, .unset, .unset, .unset, .unset, .unset] [(.int (f1_1 p3 p0 ([])))]) s₁ (entryFrame m #[(.int p0), (.int p1), (.int p2), (.int p3), (.int p4), (.int p5)] maxLocals) := fun t k => pre1529 t (st1530.trans k)
    obtain ⟨v1562, hv1562⟩ : ∃ z : Int32, z = (f1_1 p3 p0 ([])) := ⟨_, rfl⟩
    have pre1563 : own_P p e below T1530 (mkF m 88 #[vI p0, vI p1, vI p2, vI p3, vI p4, vI p5, vI v565, vR a1453, vI v1491, vI v1527, .unset, .unset, .unset, .unset, .unset] [(.int v1562)]) s₁ (entryFrame m #[(.int p0), (.int p1), (.int p2), (.int p3), (.int p4), (.int p5)] maxLocals) := by rw [hv1562]; exact pre1561
    have pre1564 : own_P p e below T1530 (mkF m 96 #[vI p0, vI p1, vI p2, vI p3, vI p4, vI p5, vI v565, vR a1453, vI v1491, vI v1527, vI v1562, .unset, .unset, .unset, .unset] [(.int p0), (.int p4), (.ref a1453), (.int 2)]) s₁ (entryFrame m #[(.int p0), (.int p1), (.int p2), (.int p3), (.int p4), (.int p5)] maxLocals) := by
     intro t k
     refine pre1563 t ?_
     refine XS.istore X1530.here hx rfl (hb hby at_88) rfl (l' := #[vI p0, vI p1, vI p2, vI p3, vI p4, vI p5, vI v565, vR a1453, vI v1491, vI v1527, vI v1562, .unset, .unset, .unset, .unset]) rfl ?_
     refine XS.iconst X1530.here hx rfl (hb hby at_90) ?_
     refine XS.aload X1530.here hx rfl (hb hby at_91) rfl rfl ?_
     refine XS.iload X1530.here hx rfl (hb hby at_93) rfl ?_
     refine XS.iloadN X1530.here hx rfl (hb hby at_95) rfl ?_
     exact k
    obtain ⟨_, _, ⟨T1565, L1565, k1565, n1565⟩, -, X1565r, hS1565r, hg1565r, ⟨Lc1565, hQ1565, l1565, y1565, z1565, hC1565⟩, st1565⟩ := callSS X1530 hx (y := (⟨"com/example/timely_exodus/timelyexodus/plan/LpSolverFromNamePinLaw", "ch", "(ILjava/lang/String;II)C"⟩ : MethodName)) ho1530 (mvT hZ1530 (own_w hw 8 rfl)) (mvT hZ1530 (own_w hw 9 rfl)) (mvT hZ1530 (own_w hw 10 rfl)) (mvT hZ1530 (own_w hw 11 rfl)) (by decide) (backOfSH (W := 0) (rm1_2 l Z ar0 hw [] a1453 p4 p0 ([]) gc1 gf3 b1453 kb1453 h1530 n0 Z1530 P5 rG3 (by decide) (by decide) Sf1531 Sf1532 Ef1557 Ff1559 Ff1558 Vf1560) hZ1530 (own_w hw 11 rfl) (own_w hw 10 rfl) (by decide) (by decide) hEL CR1530.1) (g := (mkF m 96 #[vI p0, vI p1, vI p2, vI p3, vI p4, vI p5, vI v565, vR a1453, vI v1491, vI v1527, vI v1562, .unset, .unset, .unset, .unset] [(.int p0), (.int p4), (.ref a1453), (.int 2)])) rfl (by rw [hml]; rfl) (argsL := [(.int 2), (.ref a1453), (.int p4), (.int p0)]) (rest := []) (lenOf pd_6 rfl) rfl (by show 2 * 0 + _ ≤ _; exact Nat.le_of_eq rfl) (hb hby at_96) (fun _ _ => ⟨rfl, e1530, (by decide : 6 + 2 ≤ _), (by decide : 60 + 28 ≤ _)⟩)
    dsimp only [Pt.U, Pt.locs, Pt.cells, Pt.slots] at X1565r hS1565r hg1565r l1565 y1565 z1565 st1565 hQ1565 hC1565
    subst l1565 y1565 z1565
    obtain ⟨X1565, hS1565, hZ1565, ho1565⟩ := rebS (s := s) (vm0 := T1530.vm) (n1 := T1530.heap.size) hS1530 (by rw [e1530]; first | exact hk1530 | exact Nat.le_refl _) X1565r hS1565r hg1565r hZ1530 ho1530
    obtain ⟨h1565, e1565⟩ : ∃ h, T1565.heap = h := ⟨_, rfl⟩
    rw [e1565] at hQ1565
    obtain ⟨rfl, N1565q, K1565q⟩ := hQ1565
    have N1565 := Fr.app N1530 N1565q
    have Z1565 : n0 ≤ h1565.size := Nat.le_trans Z1530 K1565q.1
    have K1565 : Keep h0 h1565 [] := K1530.trans K1565q (fun x hx => absurd hx List.not_mem_nil)
    have Sf1566 : Sta Z h1565 "java/lang/String" "COMPACT_STRINGS" "Z" (.int gc1) := own_sta_keep0 Sf1531 K1565q
    have Sf1567 : Sta Z h1565 "jdk/internal/util/Preconditions" "SIOOBE_FORMATTER" "Ljava/util/function/BiFunction;" gf3 := own_sta_keep0 Sf1532 K1565q
    have Sf1568 : Sta Z h1565 "com/example/timely_exodus/timelyexodus/plan/LpSolver" "GLOP" "Lcom/example/timely_exodus/timelyexodus/plan/LpSolver;" (.ref s_GLOP) := own_sta_keep0 Sf1533 K1565q
    have Sf1569 : Sta Z h1565 "com/example/timely_exodus/timelyexodus/plan/LpSolver" "CLP" "Lcom/example/timely_exodus/timelyexodus/plan/LpSolver;" (.ref s_CLP) := own_sta_keep0 Sf1534 K1565q
    have Sf1570 : Sta Z h1565 "com/example/timely_exodus/timelyexodus/plan/LpSolver" "PDLP" "Lcom/example/timely_exodus/timelyexodus/plan/LpSolver;" (.ref s_PDLP) := own_sta_keep0 Sf1535 K1565q
    have Sf1571 : Sta Z h1565 "com/example/timely_exodus/timelyexodus/plan/LpSolver" "$VALUES" "[Lcom/example/timely_exodus/timelyexodus/plan/LpSolver;" (.ref s__VALUES) := own_sta_keep0 Sf1536 K1565q
    have Vf1572 : Arv Z h1565 s__VALUES k__VALUES (.object "com/example/timely_exodus/timelyexodus/plan/LpSolver") (3 : Int32) [(.ref s_GLOP), (.ref s_CLP), (.ref s_PDLP)] .null := (Vf1537).keep K1565q List.not_mem_nil
    have Ef1573 : Exa Z h1565 s__VALUES "[Lcom/example/timely_exodus/timelyexodus/plan/LpSolver;" := (Ef1538).keep K1565q
    have Ef1574 : Exa Z h1565 s_GLOP "com/example/timely_exodus/timelyexodus/plan/LpSolver" := (Ef1539).keep K1565q
    have Ff1575 : Fld Z h1565 s_GLOP "com/example/timely_exodus/timelyexodus/plan/LpSolver" "name" "Ljava/lang/String;" (.ref n_GLOP) := (Ff1540).keep K1565q List.not_mem_nil
    have Ef1576 : Exa Z h1565 n_GLOP "java/lang/String" := (Ef1541).keep K1565q
    have Ff1577 : Fld Z h1565 n_GLOP "java/lang/String" "value" "[B" (.ref t_GLOP) := (Ff1542).keep K1565q List.not_mem_nil
    have Ff1578 : Fld Z h1565 n_GLOP "java/lang/String" "coder" "B" (.int 0) := (Ff1543).keep K1565q List.not_mem_nil
    have Vf1579 : Arv Z h1565 t_GLOP k_t_GLOP .byte (4 : Int32) ((([103, 108, 111, 112] : List Int32).map (fun c => c.toInt8.toInt32)).map Value.int) (.int 0) := (Vf1544).keep K1565q List.not_mem_nil
    have Ef1580 : Exa Z h1565 s_CLP "com/example/timely_exodus/timelyexodus/plan/LpSolver" := (Ef1545).keep K1565q
    have Ff1581 : Fld Z h1565 s_CLP "com/example/timely_exodus/timelyexodus/plan/LpSolver" "name" "Ljava/lang/String;" (.ref n_CLP) := (Ff1546).keep K1565q List.not_mem_nil
    have Ef1582 : Exa Z h1565 n_CLP "java/lang/String" := (Ef1547).keep K1565q
    have Ff1583 : Fld Z h1565 n_CLP "java/lang/String" "value" "[B" (.ref t_CLP) := (Ff1548).keep K1565q List.not_mem_nil
    have Ff1584 : Fld Z h1565 n_CLP "java/lang/String" "coder" "B" (.int 0) := (Ff1549).keep K1565q List.not_mem_nil
    have Vf1585 : Arv Z h1565 t_CLP k_t_CLP .byte (3 : Int32) ((([99, 108, 112] : List Int32).map (fun c => c.toInt8.toInt32)).map Value.int) (.int 0) := (Vf1550).keep K1565q List.not_mem_nil
    have Ef1586 : Exa Z h1565 s_PDLP "com/example/timely_exodus/timelyexodus/plan/LpSolver" := (Ef1551).keep K1565q
    have Ff1587 : Fld Z h1565 s_PDLP "com/example/timely_exodus/timelyexodus/plan/LpSolver" "name" "Ljava/lang/String;" (.ref n_PDLP) := (Ff1552).keep K1565q List.not_mem_nil
    have Ef1588 : Exa Z h1565 n_PDLP "java/lang/String" := (Ef1553).keep K1565q
    have Ff1589 : Fld Z h1565 n_PDLP "java/lang/String" "value" "[B" (.ref t_PDLP) := (Ff1554).keep K1565q List.not_mem_nil
    have Ff1590 : Fld Z h1565 n_PDLP "java/lang/String" "coder" "B" (.int 0) := (Ff1555).keep K1565q List.not_mem_nil
    have Vf1591 : Arv Z h1565 t_PDLP k_t_PDLP .byte (4 : Int32) ((([112, 100, 108, 112] : List Int32).map (fun c => c.toInt8.toInt32)).map Value.int) (.int 0) := (Vf1556).keep K1565q List.not_mem_nil
    have Ef1592 : Exa Z h1565 a1453 "java/lang/String" := (Ef1557).keep K1565q
    have Ff1593 : Fld Z h1565 a1453 "java/lang/String" "coder" "B" (.int 0) := (Ff1558).keep K1565q List.not_mem_nil
    have Ff1594 : Fld Z h1565 a1453 "java/lang/String" "value" "[B" (.ref b1453) := (Ff1559).keep K1565q List.not_mem_nil
    have Vf1595 : Arv Z h1565 b1453 kb1453 .byte (0 : Int32) ((([] : List Int32).map (fun c => c.toInt8.toInt32)).map Value.int) (.int 0) := (Vf1560).keep K1565q List.not_mem_nil
    rw [e1565] at hC1565
    have CR1565 := CR1530.trans hC1565
    have hk1565 : T1565.heap.size ≤ h1565.size := by rw [e1565]; exact Nat.le_refl _
    have pre1596 : own_P p e below T1565 (mkF m 99 #[vI p0, vI p1, vI p2, vI p3, vI p4, vI p5, vI v565, vR a1453, vI v1491, vI v1527, vI v1562, .unset, .unset, .unset, .unset] [(.int (f1_2 p4 p0 ([])))]) s₁ (entryFrame m #[(.int p0), (.int p1), (.int p2), (.int p3), (.int p4), (.int p5)] maxLocals) := fun t k => pre1564 t (st1565.trans k)
    obtain ⟨v1597, hv1597⟩ : ∃ z : Int32, z = (f1_2 p4 p0 ([])) := ⟨_, rfl⟩
    have pre1598 : own_P p e below T1565 (mkF m 99 #[vI p0, vI p1, vI p2, vI p3, vI p4, vI p5, vI v565, vR a1453, vI v1491, vI v1527, vI v1562, .unset, .unset, .unset, .unset] [(.int v1597)]) s₁ (entryFrame m #[(.int p0), (.int p1), (.int p2), (.int p3), (.int p4), (.int p5)] maxLocals) := by rw [hv1597]; exact pre1596
    have pre1599 : own_P p e below T1565 (mkF m 107 #[vI p0, vI p1, vI p2, vI p3, vI p4, vI p5, vI v565, vR a1453, vI v1491, vI v1527, vI v1562, vI v1597, .unset, .unset, .unset] [(.int p0), (.int p5), (.ref a1453), (.int 3)]) s₁ (entryFrame m #[(.int p0), (.int p1), (.int p2), (.int p3), (.int p4), (.int p5)] maxLocals) := by
     intro t k
     refine pre1598 t ?_
     refine XS.istore X1565.here hx rfl (hb hby at_99) rfl (l' := #[vI p0, vI p1, vI p2, vI p3, vI p4, vI p5, vI v565, vR a1453, vI v1491, vI v1527, vI v1562, vI v1597, .unset, .unset, .unset]) rfl ?_
     refine XS.iconst X1565.here hx rfl (hb hby at_101) ?_
     refine XS.aload X1565.here hx rfl (hb hby at_102) rfl rfl ?_
     refine XS.iload X1565.here hx rfl (hb hby at_104) rfl ?_
     refine XS.iloadN X1565.here hx rfl (hb hby at_106) rfl ?_
     exact k
    obtain ⟨_, _, ⟨T1600, L1600, k1600, n1600⟩, -, X1600r, hS1600r, hg1600r, ⟨Lc1600, hQ1600, l1600, y1600, z1600, hC1600⟩, st1600⟩ := callSS X1565 hx (y := (⟨"com/example/timely_exodus/timelyexodus/plan/LpSolverFromNamePinLaw", "ch", "(ILjava/lang/String;II)C"⟩ : MethodName)) ho1565 (mvT hZ1565 (own_w hw 8 rfl)) (mvT hZ1565 (own_w hw 9 rfl)) (mvT hZ1565 (own_w hw 10 rfl)) (mvT hZ1565 (own_w hw 11 rfl)) (by decide) (backOfSH (W := 0) (rm1_3 l Z ar0 hw [] a1453 p5 p0 ([]) gc1 gf3 b1453 kb1453 h1565 n0 Z1565 P5 rG3 (by decide) (by decide) Sf1566 Sf1567 Ef1592 Ff1594 Ff1593 Vf1595) hZ1565 (own_w hw 11 rfl) (own_w hw 10 rfl) (by decide) (by decide) hEL CR1565.1) (g := (mkF m 107 #[vI p0, vI p1, vI p2, vI p3, vI p4, vI p5, vI v565, vR a1453, vI v1491, vI v1527, vI v1562, vI v1597, .unset, .unset, .unset] [(.int p0), (.int p5), (.ref a1453), (.int 3)])) rfl (by rw [hml]; rfl) (argsL := [(.int 3), (.ref a1453), (.int p5), (.int p0)]) (rest := []) (lenOf pd_6 rfl) rfl (by show 2 * 0 + _ ≤ _; exact Nat.le_of_eq rfl) (hb hby at_107) (fun _ _ => ⟨rfl, e1565, (by decide : 8 + 2 ≤ _), (by decide : 88 + 28 ≤ _)⟩)
    dsimp only [Pt.U, Pt.locs, Pt.cells, Pt.slots] at X1600r hS1600r hg1600r l1600 y1600 z1600 st1600 hQ1600 hC1600
    subst l1600 y1600 z1600
    obtain ⟨X1600, hS1600, hZ1600, ho1600⟩ := rebS (s := s) (vm0 := T1565.vm) (n1 := T1565.heap.size) hS1565 (by rw [e1565]; first | exact hk1565 | exact Nat.le_refl _) X1600r hS1600r hg1600r hZ1565 ho1565
    obtain ⟨h1600, e1600⟩ : ∃ h, T1600.heap = h := ⟨_, rfl⟩
    rw [e1600] at hQ1600
    obtain ⟨rfl, N1600q, K1600q⟩ := hQ1600
    have N1600 := Fr.app N1565 N1600q
    have Z1600 : n0 ≤ h1600.size := Nat.le_trans Z1565 K1600q.1
    have K1600 : Keep h0 h1600 [] := K1565.trans K1600q (fun x hx => absurd hx List.not_mem_nil)
    have Sf1601 : Sta Z h1600 "java/lang/String" "COMPACT_STRINGS" "Z" (.int gc1) := own_sta_keep0 Sf1566 K1600q
    have Sf1602 : Sta Z h1600 "jdk/internal/util/Preconditions" "SIOOBE_FORMATTER" "Ljava/util/function/BiFunction;" gf3 := own_sta_keep0 Sf1567 K1600q
    have Sf1603 : Sta Z h1600 "com/example/timely_exodus/timelyexodus/plan/LpSolver" "GLOP" "Lcom/example/timely_exodus/timelyexodus/plan/LpSolver;" (.ref s_GLOP) := own_sta_keep0 Sf1568 K1600q
    have Sf1604 : Sta Z h1600 "com/example/timely_exodus/timelyexodus/plan/LpSolver" "CLP" "Lcom/example/timely_exodus/timelyexodus/plan/LpSolver;" (.ref s_CLP) := own_sta_keep0 Sf1569 K1600q
    have Sf1605 : Sta Z h1600 "com/example/timely_exodus/timelyexodus/plan/LpSolver" "PDLP" "Lcom/example/timely_exodus/timelyexodus/plan/LpSolver;" (.ref s_PDLP) := own_sta_keep0 Sf1570 K1600q
    have Sf1606 : Sta Z h1600 "com/example/timely_exodus/timelyexodus/plan/LpSolver" "$VALUES" "[Lcom/example/timely_exodus/timelyexodus/plan/LpSolver;" (.ref s__VALUES) := own_sta_keep0 Sf1571 K1600q
    have Vf1607 : Arv Z h1600 s__VALUES k__VALUES (.object "com/example/timely_exodus/timelyexodus/plan/LpSolver") (3 : Int32) [(.ref s_GLOP), (.ref s_CLP), (.ref s_PDLP)] .null := (Vf1572).keep K1600q List.not_mem_nil
    have Ef1608 : Exa Z h1600 s__VALUES "[Lcom/example/timely_exodus/timelyexodus/plan/LpSolver;" := (Ef1573).keep K1600q
    have Ef1609 : Exa Z h1600 s_GLOP "com/example/timely_exodus/timelyexodus/plan/LpSolver" := (Ef1574).keep K1600q
    have Ff1610 : Fld Z h1600 s_GLOP "com/example/timely_exodus/timelyexodus/plan/LpSolver" "name" "Ljava/lang/String;" (.ref n_GLOP) := (Ff1575).keep K1600q List.not_mem_nil
    have Ef1611 : Exa Z h1600 n_GLOP "java/lang/String" := (Ef1576).keep K1600q
    have Ff1612 : Fld Z h1600 n_GLOP "java/lang/String" "value" "[B" (.ref t_GLOP) := (Ff1577).keep K1600q List.not_mem_nil
    have Ff1613 : Fld Z h1600 n_GLOP "java/lang/String" "coder" "B" (.int 0) := (Ff1578).keep K1600q List.not_mem_nil
    have Vf1614 : Arv Z h1600 t_GLOP k_t_GLOP .byte (4 : Int32) ((([103, 108, 111, 112] : List Int32).map (fun c => c.toInt8.toInt32)).map Value.int) (.int 0) := (Vf1579).keep K1600q List.not_mem_nil
    have Ef1615 : Exa Z h1600 s_CLP "com/example/timely_exodus/timelyexodus/plan/LpSolver" := (Ef1580).keep K1600q
    have Ff1616 : Fld Z h1600 s_CLP "com/example/timely_exodus/timelyexodus/plan/LpSolver" "name" "Ljava/lang/String;" (.ref n_CLP) := (Ff1581).keep K1600q List.not_mem_nil
    have Ef1617 : Exa Z h1600 n_CLP "java/lang/String" := (Ef1582).keep K1600q
    have Ff1618 : Fld Z h1600 n_CLP "java/lang/String" "value" "[B" (.ref t_CLP) := (Ff1583).keep K1600q List.not_mem_nil
    have Ff1619 : Fld Z h1600 n_CLP "java/lang/String" "coder" "B" (.int 0) := (Ff1584).keep K1600q List.not_mem_nil
    have Vf1620 : Arv Z h1600 t_CLP k_t_CLP .byte (3 : Int32) ((([99, 108, 112] : List Int32).map (fun c => c.toInt8.toInt32)).map Value.int) (.int 0) := (Vf1585).keep K1600q List.not_mem_nil
    have Ef1621 : Exa Z h1600 s_PDLP "com/example/timely_exodus/timelyexodus/plan/LpSolver" := (Ef1586).keep K1600q
    have Ff1622 : Fld Z h1600 s_PDLP "com/example/timely_exodus/timelyexodus/plan/LpSolver" "name" "Ljava/lang/String;" (.ref n_PDLP) := (Ff1587).keep K1600q List.not_mem_nil
    have Ef1623 : Exa Z h1600 n_PDLP "java/lang/String" := (Ef1588).keep K1600q
    have Ff1624 : Fld Z h1600 n_PDLP "java/lang/String" "value" "[B" (.ref t_PDLP) := (Ff1589).keep K1600q List.not_mem_nil
    have Ff1625 : Fld Z h1600 n_PDLP "java/lang/String" "coder" "B" (.int 0) := (Ff1590).keep K1600q List.not_mem_nil
    have Vf1626 : Arv Z h1600 t_PDLP k_t_PDLP .byte (4 : Int32) ((([112, 100, 108, 112] : List Int32).map (fun c => c.toInt8.toInt32)).map Value.int) (.int 0) := (Vf1591).keep K1600q List.not_mem_nil
    have Ef1627 : Exa Z h1600 a1453 "java/lang/String" := (Ef1592).keep K1600q
    have Ff1628 : Fld Z h1600 a1453 "java/lang/String" "coder" "B" (.int 0) := (Ff1593).keep K1600q List.not_mem_nil
    have Ff1629 : Fld Z h1600 a1453 "java/lang/String" "value" "[B" (.ref b1453) := (Ff1594).keep K1600q List.not_mem_nil
    have Vf1630 : Arv Z h1600 b1453 kb1453 .byte (0 : Int32) ((([] : List Int32).map (fun c => c.toInt8.toInt32)).map Value.int) (.int 0) := (Vf1595).keep K1600q List.not_mem_nil
    rw [e1600] at hC1600
    have CR1600 := CR1565.trans hC1600
    have hk1600 : T1600.heap.size ≤ h1600.size := by rw [e1600]; exact Nat.le_refl _
    have pre1631 : own_P p e below T1600 (mkF m 110 #[vI p0, vI p1, vI p2, vI p3, vI p4, vI p5, vI v565, vR a1453, vI v1491, vI v1527, vI v1562, vI v1597, .unset, .unset, .unset] [(.int (f1_3 p5 p0 ([])))]) s₁ (entryFrame m #[(.int p0), (.int p1), (.int p2), (.int p3), (.int p4), (.int p5)] maxLocals) := fun t k => pre1599 t (st1600.trans k)
    obtain ⟨v1632, hv1632⟩ : ∃ z : Int32, z = (f1_3 p5 p0 ([])) := ⟨_, rfl⟩
    have pre1633 : own_P p e below T1600 (mkF m 110 #[vI p0, vI p1, vI p2, vI p3, vI p4, vI p5, vI v565, vR a1453, vI v1491, vI v1527, vI v1562, vI v1597, .unset, .unset, .unset] [(.int v1632)]) s₁ (entryFrame m #[(.int p0), (.int p1), (.int p2), (.int p3), (.int p4), (.int p5)] maxLocals) := by rw [hv1632]; exact pre1631
    have pre1634 : own_P p e below T1600 (mkF m 114 #[vI p0, vI p1, vI p2, vI p3, vI p4, vI p5, vI v565, vR a1453, vI v1491, vI v1527, vI v1562, vI v1597, vI v1632, .unset, .unset] [(.int v565)]) s₁ (entryFrame m #[(.int p0), (.int p1), (.int p2), (.int p3), (.int p4), (.int p5)] maxLocals) := by
     intro t k
     refine pre1633 t ?_
     refine XS.istore X1600.here hx rfl (hb hby at_110) rfl (l' := #[vI p0, vI p1, vI p2, vI p3, vI p4, vI p5, vI v565, vR a1453, vI v1491, vI v1527, vI v1562, vI v1597, vI v1632, .unset, .unset]) rfl ?_
     refine XS.iload X1600.here hx rfl (hb hby at_112) rfl ?_
     exact k
    by_cases hc114_1635 : v565 = (0 : Int32)
    ·
     have pre1636 : ∀ t, Steps p.tables e below (T1600.setTop (mkF m 121 #[vI p0, vI p1, vI p2, vI p3, vI p4, vI p5, vI v565, vR a1453, vI v1491, vI v1527, vI v1562, vI v1597, vI v1632, .unset, .unset] [(.int (p1 &&& (8 : Int32)))])) t → Steps p.tables e below (s₁.setTop (entryFrame m #[(.int p0), (.int p1), (.int p2), (.int p3), (.int p4), (.int p5)] maxLocals)) t := by
      intro t k
      refine pre1634 t ?_
      refine XS.ifNo X1600.here hx rfl (hb hby at_114) rfl ((if0 _ _).trans (teq hc114_1635).2) ?_
      refine XS.iloadN X1600.here hx rfl (hb hby at_117) rfl ?_
      refine XS.bipush X1600.here hx rfl (hb hby at_118) ?_
      refine XS.iand X1600.here hx rfl (hb hby at_120) rfl ?_
      exact k
     by_cases hc121_1637 : (p1 &&& (8 : Int32)) = (0 : Int32)
     ·
      have pre1638 : ∀ t, Steps p.tables e below (T1600.setTop (mkF m 138 #[vI p0, vI p1, vI p2, vI p3, vI p4, vI p5, vI v565, vR a1453, vI v1491, vI v1527, vI v1562, vI v1597, vI v1632, .unset, .unset] [(.int v1632), (.int v1597), (.int v1562), (.int v1527), (.int v1491)])) t → Steps p.tables e below (s₁.setTop (entryFrame m #[(.int p0), (.int p1), (.int p2), (.int p3), (.int p4), (.int p5)] maxLocals)) t := by
       intro t k
       refine pre1636 t ?_
       refine XS.ifYes X1600.here hx rfl (pc0 := 121) (pc' := 128) rfl (hb hby at_121) rfl ((if0 _ _).trans (teq hc121_1637).1) (by decide) (by decide) ?_
       refine XS.iload X1600.here hx rfl (hb hby at_128) rfl ?_
       refine XS.iload X1600.here hx rfl (hb hby at_130) rfl ?_
       refine XS.iload X1600.here hx rfl (hb hby at_132) rfl ?_
       refine XS.iload X1600.here hx rfl (hb hby at_134) rfl ?_
       refine XS.iload X1600.here hx rfl (hb hby at_136) rfl ?_
       exact k
      obtain ⟨_, _, ⟨T1639, L1639, k1639, n1639⟩, -, X1639r, hS1639r, hg1639r, ⟨Lc1639, hQ1639, l1639, y1639, z1639, hC1639⟩, st1639⟩ := callSS X1600 hx (y := (⟨"com/example/timely_exodus/timelyexodus/plan/LpSolverFromNamePinLaw", "make", "(ICCCC)Ljava/lang/String;"⟩ : MethodName)) ho1600 (mvT hZ1600 (own_w hw 28 rfl)) (mvT hZ1600 (own_w hw 29 rfl)) (mvT hZ1600 (own_w hw 10 rfl)) (mvT hZ1600 (own_w hw 30 rfl)) (by decide) (backOfSH (W := 0) (rm5 l Z ar0 hw [] v1491 v1527 v1562 v1597 v1632 gc1 h1600 n0 Z1600 P5 (by rw [hv1527]; exact own_Rf1_0 (by decide)) (by rw [hv1562]; exact own_Rf1_1 (by decide)) (by rw [hv1597]; exact own_Rf1_2 (by decide)) (by rw [hv1632]; exact own_Rf1_3 (by decide)) Sf1601) hZ1600 (own_w hw 30 rfl) (own_w hw 10 rfl) (by decide) (by decide) hEL CR1600.1) (g := (mkF m 138 #[vI p0, vI p1, vI p2, vI p3, vI p4, vI p5, vI v565, vR a1453, vI v1491, vI v1527, vI v1562, vI v1597, vI v1632, .unset, .unset] [(.int v1632), (.int v1597), (.int v1562), (.int v1527), (.int v1491)])) rfl (by rw [hml]; rfl) (argsL := [(.int v1491), (.int v1527), (.int v1562), (.int v1597), (.int v1632)]) (rest := []) (lenOf pd_7 rfl) rfl (by show 2 * 0 + _ ≤ _; exact Nat.le_of_eq rfl) (hb hby at_138) (fun _ _ => ⟨rfl, e1600, (by decide : 10 + 6 ≤ _), (by decide : 116 + 12 ≤ _)⟩)
      dsimp only [Pt.U, Pt.locs, Pt.cells, Pt.slots] at X1639r hS1639r hg1639r l1639 y1639 z1639 st1639 hQ1639 hC1639
      subst l1639 y1639 z1639
      obtain ⟨X1639, hS1639, hZ1639, ho1639⟩ := rebS (s := s) (vm0 := T1600.vm) (n1 := T1600.heap.size) hS1600 (by rw [e1600]; first | exact hk1600 | exact Nat.le_refl _) X1639r hS1639r hg1639r hZ1600 ho1600
      obtain ⟨h1639, e1639⟩ : ∃ h, T1639.heap = h := ⟨_, rfl⟩
      rw [e1639] at hQ1639
      obtain ⟨b1639, b1639b, kb1639b, rfl, N1639q, K1639q, y_b1639, Ob1639_0, Ob1639_1, Ob1639_2, Ob1639b_0⟩ := hQ1639
      have N1639 := Fr.app N1600 N1639q
      have ne_s__VALUES_b1639 : s__VALUES ≠ b1639 := Nat.ne_of_lt (Nat.lt_of_lt_of_le (Vf1607).lt y_b1639)
      have ne_s_GLOP_b1639 : s_GLOP ≠ b1639 := Nat.ne_of_lt (Nat.lt_of_lt_of_le (Ef1609).lt y_b1639)
      have ne_n_GLOP_b1639 : n_GLOP ≠ b1639 := Nat.ne_of_lt (Nat.lt_of_lt_of_le (Ef1611).lt y_b1639)
      have ne_t_GLOP_b1639 : t_GLOP ≠ b1639 := Nat.ne_of_lt (Nat.lt_of_lt_of_le (Vf1614).lt y_b1639)
      have ne_s_CLP_b1639 : s_CLP ≠ b1639 := Nat.ne_of_lt (Nat.lt_of_lt_of_le (Ef1615).lt y_b1639)
      have ne_n_CLP_b1639 : n_CLP ≠ b1639 := Nat.ne_of_lt (Nat.lt_of_lt_of_le (Ef1617).lt y_b1639)
      have ne_t_CLP_b1639 : t_CLP ≠ b1639 := Nat.ne_of_lt (Nat.lt_of_lt_of_le (Vf1620).lt y_b1639)
      have ne_s_PDLP_b1639 : s_PDLP ≠ b1639 := Nat.ne_of_lt (Nat.lt_of_lt_of_le (Ef1621).lt y_b1639)
      have ne_n_PDLP_b1639 : n_PDLP ≠ b1639 := Nat.ne_of_lt (Nat.lt_of_lt_of_le (Ef1623).lt y_b1639)
      have ne_t_PDLP_b1639 : t_PDLP ≠ b1639 := Nat.ne_of_lt (Nat.lt_of_lt_of_le (Vf1626).lt y_b1639)
      have ne_a1453_b1639 : a1453 ≠ b1639 := Nat.ne_of_lt (Nat.lt_of_lt_of_le (Ef1627).lt y_b1639)
      have ne_b1453_b1639 : b1453 ≠ b1639 := Nat.ne_of_lt (Nat.lt_of_lt_of_le (Vf1630).lt y_b1639)
      have g_b1639 : n0 ≤ b1639 := Nat.le_trans Z1600 y_b1639
      have sz_b1639 : h0.size ≤ b1639 := Nat.le_trans K1600.1 y_b1639
      have Z1639 : n0 ≤ h1639.size := Nat.le_trans Z1600 K1639q.1
      have K1639 : Keep h0 h1639 [] := K1600.trans K1639q (fun x hx => absurd hx List.not_mem_nil)
      have Sf1640 : Sta Z h1639 "java/lang/String" "COMPACT_STRINGS" "Z" (.int gc1) := own_sta_keep0 Sf1601 K1639q
      have Sf1641 : Sta Z h1639 "jdk/internal/util/Preconditions" "SIOOBE_FORMATTER" "Ljava/util/function/BiFunction;" gf3 := own_sta_keep0 Sf1602 K1639q
      have Sf1642 : Sta Z h1639 "com/example/timely_exodus/timelyexodus/plan/LpSolver" "GLOP" "Lcom/example/timely_exodus/timelyexodus/plan/LpSolver;" (.ref s_GLOP) := own_sta_keep0 Sf1603 K1639q
      have Sf1643 : Sta Z h1639 "com/example/timely_exodus/timelyexodus/plan/LpSolver" "CLP" "Lcom/example/timely_exodus/timelyexodus/plan/LpSolver;" (.ref s_CLP) := own_sta_keep0 Sf1604 K1639q
      have Sf1644 : Sta Z h1639 "com/example/timely_exodus/timelyexodus/plan/LpSolver" "PDLP" "Lcom/example/timely_exodus/timelyexodus/plan/LpSolver;" (.ref s_PDLP) := own_sta_keep0 Sf1605 K1639q
      have Sf1645 : Sta Z h1639 "com/example/timely_exodus/timelyexodus/plan/LpSolver" "$VALUES" "[Lcom/example/timely_exodus/timelyexodus/plan/LpSolver;" (.ref s__VALUES) := own_sta_keep0 Sf1606 K1639q
      have Vf1646 : Arv Z h1639 s__VALUES k__VALUES (.object "com/example/timely_exodus/timelyexodus/plan/LpSolver") (3 : Int32) [(.ref s_GLOP), (.ref s_CLP), (.ref s_PDLP)] .null := (Vf1607).keep K1639q List.not_mem_nil
      have Ef1647 : Exa Z h1639 s__VALUES "[Lcom/example/timely_exodus/timelyexodus/plan/LpSolver;" := (Ef1608).keep K1639q
      have Ef1648 : Exa Z h1639 s_GLOP "com/example/timely_exodus/timelyexodus/plan/LpSolver" := (Ef1609).keep K1639q
      have Ff1649 : Fld Z h1639 s_GLOP "com/example/timely_exodus/timelyexodus/plan/LpSolver" "name" "Ljava/lang/String;" (.ref n_GLOP) := (Ff1610).keep K1639q List.not_mem_nil
      have Ef1650 : Exa Z h1639 n_GLOP "java/lang/String" := (Ef1611).keep K1639q
      have Ff1651 : Fld Z h1639 n_GLOP "java/lang/String" "value" "[B" (.ref t_GLOP) := (Ff1612).keep K1639q List.not_mem_nil
      have Ff1652 : Fld Z h1639 n_GLOP "java/lang/String" "coder" "B" (.int 0) := (Ff1613).keep K1639q List.not_mem_nil
      have Vf1653 : Arv Z h1639 t_GLOP k_t_GLOP .byte (4 : Int32) ((([103, 108, 111, 112] : List Int32).map (fun c => c.toInt8.toInt32)).map Value.int) (.int 0) := (Vf1614).keep K1639q List.not_mem_nil
      have Ef1654 : Exa Z h1639 s_CLP "com/example/timely_exodus/timelyexodus/plan/LpSolver" := (Ef1615).keep K1639q
      have Ff1655 : Fld Z h1639 s_CLP "com/example/timely_exodus/timelyexodus/plan/LpSolver" "name" "Ljava/lang/String;" (.ref n_CLP) := (Ff1616).keep K1639q List.not_mem_nil
      have Ef1656 : Exa Z h1639 n_CLP "java/lang/String" := (Ef1617).keep K1639q
      have Ff1657 : Fld Z h1639 n_CLP "java/lang/String" "value" "[B" (.ref t_CLP) := (Ff1618).keep K1639q List.not_mem_nil
      have Ff1658 : Fld Z h1639 n_CLP "java/lang/String" "coder" "B" (.int 0) := (Ff1619).keep K1639q List.not_mem_nil
      have Vf1659 : Arv Z h1639 t_CLP k_t_CLP .byte (3 : Int32) ((([99, 108, 112] : List Int32).map (fun c => c.toInt8.toInt32)).map Value.int) (.int 0) := (Vf1620).keep K1639q List.not_mem_nil
      have Ef1660 : Exa Z h1639 s_PDLP "com/example/timely_exodus/timelyexodus/plan/LpSolver" := (Ef1621).keep K1639q
      have Ff1661 : Fld Z h1639 s_PDLP "com/example/timely_exodus/timelyexodus/plan/LpSolver" "name" "Ljava/lang/String;" (.ref n_PDLP) := (Ff1622).keep K1639q List.not_mem_nil
      have Ef1662 : Exa Z h1639 n_PDLP "java/lang/String" := (Ef1623).keep K1639q
      have Ff1663 : Fld Z h1639 n_PDLP "java/lang/String" "value" "[B" (.ref t_PDLP) := (Ff1624).keep K1639q List.not_mem_nil
      have Ff1664 : Fld Z h1639 n_PDLP "java/lang/String" "coder" "B" (.int 0) := (Ff1625).keep K1639q List.not_mem_nil
      have Vf1665 : Arv Z h1639 t_PDLP k_t_PDLP .byte (4 : Int32) ((([112, 100, 108, 112] : List Int32).map (fun c => c.toInt8.toInt32)).map Value.int) (.int 0) := (Vf1626).keep K1639q List.not_mem_nil
      have Ef1666 : Exa Z h1639 a1453 "java/lang/String" := (Ef1627).keep K1639q
      have Ff1667 : Fld Z h1639 a1453 "java/lang/String" "coder" "B" (.int 0) := (Ff1628).keep K1639q List.not_mem_nil
      have Ff1668 : Fld Z h1639 a1453 "java/lang/String" "value" "[B" (.ref b1453) := (Ff1629).keep K1639q List.not_mem_nil
      have Vf1669 : Arv Z h1639 b1453 kb1453 .byte (0 : Int32) ((([] : List Int32).map (fun c => c.toInt8.toInt32)).map Value.int) (.int 0) := (Vf1630).keep K1639q List.not_mem_nil
      rw [e1639] at hC1639
      have CR1639 := CR1600.trans hC1639
      have hk1639 : T1639.heap.size ≤ h1639.size := by rw [e1639]; exact Nat.le_refl _
      have pre1670 : own_P p e below T1639 (mkF m 141 #[vI p0, vI p1, vI p2, vI p3, vI p4, vI p5, vI v565, vR a1453, vI v1491, vI v1527, vI v1562, vI v1597, vI v1632, .unset, .unset] [(.ref b1639)]) s₁ (entryFrame m #[(.int p0), (.int p1), (.int p2), (.int p3), (.int p4), (.int p5)] maxLocals) := fun t k => pre1638 t (st1639.trans k)
      have pre1671 : own_P p e below T1639 (mkF m 145 #[vI p0, vI p1, vI p2, vI p3, vI p4, vI p5, vI v565, vR a1453, vI v1491, vI v1527, vI v1562, vI v1597, vI v1632, vR b1639, .unset] [(.ref b1639)]) s₁ (entryFrame m #[(.int p0), (.int p1), (.int p2), (.int p3), (.int p4), (.int p5)] maxLocals) := by
       intro t k
       refine pre1670 t ?_
       refine XS.astore X1639.here hx rfl (hb hby at_141) rfl rfl (l' := #[vI p0, vI p1, vI p2, vI p3, vI p4, vI p5, vI v565, vR a1453, vI v1491, vI v1527, vI v1562, vI v1597, vI v1632, vR b1639, .unset]) rfl ?_
       refine XS.aload X1639.here hx rfl (hb hby at_143) rfl rfl ?_
       exact k
      obtain ⟨_, _, ⟨T1672, L1672, k1672, n1672⟩, -, X1672r, hS1672r, hg1672r, ⟨Lc1672, hQ1672, l1672, y1672, z1672, hC1672⟩, st1672⟩ := callSS X1639 hx (y := (⟨"com/example/timely_exodus/timelyexodus/plan/LpSolverFromNamePinLaw", "ref", "(Ljava/lang/String;)Lcom/example/timely_exodus/timelyexodus/plan/LpSolver;"⟩ : MethodName)) ho1639 (mvT hZ1639 (own_w hw 53 rfl)) (mvT hZ1639 (own_w hw 54 rfl)) (mvT hZ1639 (own_w hw 10 rfl)) (mvT hZ1639 (own_w hw 55 rfl)) (by decide) (backOfSH (W := 0) (rm12_y l Z ar0 hw [] b1639 (own_cs v1491 v1527 v1562 v1597 v1632) gc1 b1639b kb1639b s_GLOP s_CLP s_PDLP h1639 n0 Z1639 P5 (own_hpcs (by rw [hv1527]; exact own_Rf1_0 (by decide)) (by rw [hv1562]; exact own_Rf1_1 (by decide)) (by rw [hv1597]; exact own_Rf1_2 (by decide)) (by rw [hv1632]; exact own_Rf1_3 (by decide))) own_hlcs Sf1640 Ob1639_0 Ob1639_1 Ob1639_2 Ob1639b_0 Sf1642 Sf1643 Sf1644) hZ1639 (own_w hw 55 rfl) (own_w hw 10 rfl) (by decide) (by decide) hEL CR1639.1) (g := (mkF m 145 #[vI p0, vI p1, vI p2, vI p3, vI p4, vI p5, vI v565, vR a1453, vI v1491, vI v1527, vI v1562, vI v1597, vI v1632, vR b1639, .unset] [(.ref b1639)])) rfl (by rw [hml]; rfl) (argsL := [(.ref b1639)]) (rest := []) (lenOf pd_8 rfl) rfl (by show 2 * 0 + _ ≤ _; exact Nat.le_of_eq rfl) (hb hby at_145) (fun _ _ => ⟨rfl, e1639, (by decide : 16 + 6 ≤ _), (by decide : 128 + 56 ≤ _)⟩)
      dsimp only [Pt.U, Pt.locs, Pt.cells, Pt.slots] at X1672r hS1672r hg1672r l1672 y1672 z1672 st1672 hQ1672 hC1672
      subst l1672 y1672 z1672
      obtain ⟨X1672, hS1672, hZ1672, ho1672⟩ := rebS (s := s) (vm0 := T1639.vm) (n1 := T1639.heap.size) hS1639 (by rw [e1639]; first | exact hk1639 | exact Nat.le_refl _) X1672r hS1672r hg1672r hZ1639 ho1639
      obtain ⟨h1672, e1672⟩ : ∃ h, T1672.heap = h := ⟨_, rfl⟩
      rw [e1672] at hQ1672
      obtain ⟨rfl, N1672q, K1672q⟩ := hQ1672
      have N1672 := Fr.app N1639 N1672q
      have Z1672 : n0 ≤ h1672.size := Nat.le_trans Z1639 K1672q.1
      have K1672 : Keep h0 h1672 [] := K1639.trans K1672q (fun x hx => absurd hx List.not_mem_nil)
      have Sf1673 : Sta Z h1672 "java/lang/String" "COMPACT_STRINGS" "Z" (.int gc1) := own_sta_keep0 Sf1640 K1672q
      have Sf1674 : Sta Z h1672 "jdk/internal/util/Preconditions" "SIOOBE_FORMATTER" "Ljava/util/function/BiFunction;" gf3 := own_sta_keep0 Sf1641 K1672q
      have Sf1675 : Sta Z h1672 "com/example/timely_exodus/timelyexodus/plan/LpSolver" "GLOP" "Lcom/example/timely_exodus/timelyexodus/plan/LpSolver;" (.ref s_GLOP) := own_sta_keep0 Sf1642 K1672q
      have Sf1676 : Sta Z h1672 "com/example/timely_exodus/timelyexodus/plan/LpSolver" "CLP" "Lcom/example/timely_exodus/timelyexodus/plan/LpSolver;" (.ref s_CLP) := own_sta_keep0 Sf1643 K1672q
      have Sf1677 : Sta Z h1672 "com/example/timely_exodus/timelyexodus/plan/LpSolver" "PDLP" "Lcom/example/timely_exodus/timelyexodus/plan/LpSolver;" (.ref s_PDLP) := own_sta_keep0 Sf1644 K1672q
      have Sf1678 : Sta Z h1672 "com/example/timely_exodus/timelyexodus/plan/LpSolver" "$VALUES" "[Lcom/example/timely_exodus/timelyexodus/plan/LpSolver;" (.ref s__VALUES) := own_sta_keep0 Sf1645 K1672q
      have Vf1679 : Arv Z h1672 s__VALUES k__VALUES (.object "com/example/timely_exodus/timelyexodus/plan/LpSolver") (3 : Int32) [(.ref s_GLOP), (.ref s_CLP), (.ref s_PDLP)] .null := (Vf1646).keep K1672q List.not_mem_nil
      have Ef1680 : Exa Z h1672 s__VALUES "[Lcom/example/timely_exodus/timelyexodus/plan/LpSolver;" := (Ef1647).keep K1672q
      have Ef1681 : Exa Z h1672 s_GLOP "com/example/timely_exodus/timelyexodus/plan/LpSolver" := (Ef1648).keep K1672q
      have Ff1682 : Fld Z h1672 s_GLOP "com/example/timely_exodus/timelyexodus/plan/LpSolver" "name" "Ljava/lang/String;" (.ref n_GLOP) := (Ff1649).keep K1672q List.not_mem_nil
      have Ef1683 : Exa Z h1672 n_GLOP "java/lang/String" := (Ef1650).keep K1672q
      have Ff1684 : Fld Z h1672 n_GLOP "java/lang/String" "value" "[B" (.ref t_GLOP) := (Ff1651).keep K1672q List.not_mem_nil
      have Ff1685 : Fld Z h1672 n_GLOP "java/lang/String" "coder" "B" (.int 0) := (Ff1652).keep K1672q List.not_mem_nil
      have Vf1686 : Arv Z h1672 t_GLOP k_t_GLOP .byte (4 : Int32) ((([103, 108, 111, 112] : List Int32).map (fun c => c.toInt8.toInt32)).map Value.int) (.int 0) := (Vf1653).keep K1672q List.not_mem_nil
      have Ef1687 : Exa Z h1672 s_CLP "com/example/timely_exodus/timelyexodus/plan/LpSolver" := (Ef1654).keep K1672q
      have Ff1688 : Fld Z h1672 s_CLP "com/example/timely_exodus/timelyexodus/plan/LpSolver" "name" "Ljava/lang/String;" (.ref n_CLP) := (Ff1655).keep K1672q List.not_mem_nil
      have Ef1689 : Exa Z h1672 n_CLP "java/lang/String" := (Ef1656).keep K1672q
      have Ff1690 : Fld Z h1672 n_CLP "java/lang/String" "value" "[B" (.ref t_CLP) := (Ff1657).keep K1672q List.not_mem_nil
      have Ff1691 : Fld Z h1672 n_CLP "java/lang/String" "coder" "B" (.int 0) := (Ff1658).keep K1672q List.not_mem_nil
      have Vf1692 : Arv Z h1672 t_CLP k_t_CLP .byte (3 : Int32) ((([99, 108, 112] : List Int32).map (fun c => c.toInt8.toInt32)).map Value.int) (.int 0) := (Vf1659).keep K1672q List.not_mem_nil
      have Ef1693 : Exa Z h1672 s_PDLP "com/example/timely_exodus/timelyexodus/plan/LpSolver" := (Ef1660).keep K1672q
      have Ff1694 : Fld Z h1672 s_PDLP "com/example/timely_exodus/timelyexodus/plan/LpSolver" "name" "Ljava/lang/String;" (.ref n_PDLP) := (Ff1661).keep K1672q List.not_mem_nil
      have Ef1695 : Exa Z h1672 n_PDLP "java/lang/String" := (Ef1662).keep K1672q
      have Ff1696 : Fld Z h1672 n_PDLP "java/lang/String" "value" "[B" (.ref t_PDLP) := (Ff1663).keep K1672q List.not_mem_nil
      have Ff1697 : Fld Z h1672 n_PDLP "java/lang/String" "coder" "B" (.int 0) := (Ff1664).keep K1672q List.not_mem_nil
      have Vf1698 : Arv Z h1672 t_PDLP k_t_PDLP .byte (4 : Int32) ((([112, 100, 108, 112] : List Int32).map (fun c => c.toInt8.toInt32)).map Value.int) (.int 0) := (Vf1665).keep K1672q List.not_mem_nil
      have Ef1699 : Exa Z h1672 a1453 "java/lang/String" := (Ef1666).keep K1672q
      have Ff1700 : Fld Z h1672 a1453 "java/lang/String" "coder" "B" (.int 0) := (Ff1667).keep K1672q List.not_mem_nil
      have Ff1701 : Fld Z h1672 a1453 "java/lang/String" "value" "[B" (.ref b1453) := (Ff1668).keep K1672q List.not_mem_nil
      have Vf1702 : Arv Z h1672 b1453 kb1453 .byte (0 : Int32) ((([] : List Int32).map (fun c => c.toInt8.toInt32)).map Value.int) (.int 0) := (Vf1669).keep K1672q List.not_mem_nil
      have Ef1703 : Exa Z h1672 b1639 "java/lang/String" := (Ob1639_0).keep K1672q
      have Ff1704 : Fld Z h1672 b1639 "java/lang/String" "value" "[B" (.ref b1639b) := (Ob1639_1).keep K1672q List.not_mem_nil
      have Ff1705 : Fld Z h1672 b1639 "java/lang/String" "coder" "B" (.int 0) := (Ob1639_2).keep K1672q List.not_mem_nil
      have Vf1706 : Arv Z h1672 b1639b kb1639b .byte (Int32.ofNat (own_cs v1491 v1527 v1562 v1597 v1632).length) ((((own_cs v1491 v1527 v1562 v1597 v1632) : List Int32).map (fun c => c.toInt8.toInt32)).map Value.int) (.int 0) := (Ob1639b_0).keep K1672q List.not_mem_nil
      rw [e1672] at hC1672
      have CR1672 := CR1639.trans hC1672
      have hk1672 : T1672.heap.size ≤ h1672.size := by rw [e1672]; exact Nat.le_refl _
      have pre1707 : own_P p e below T1672 (mkF m 148 #[vI p0, vI p1, vI p2, vI p3, vI p4, vI p5, vI v565, vR a1453, vI v1491, vI v1527, vI v1562, vI v1597, vI v1632, vR b1639, .unset] [(f12_y (own_cs v1491 v1527 v1562 v1597 v1632) s_GLOP s_CLP s_PDLP)]) s₁ (entryFrame m #[(.int p0), (.int p1), (.int p2), (.int p3), (.int p4), (.int p5)] maxLocals) := fun t k => pre1671 t (st1672.trans k)
      obtain ⟨w1708, hw1708⟩ : ∃ z : Value, z = (f12_y (own_cs v1491 v1527 v1562 v1597 v1632) s_GLOP s_CLP s_PDLP) := ⟨_, rfl⟩
      have pre1709 : own_P p e below T1672 (mkF m 148 #[vI p0, vI p1, vI p2, vI p3, vI p4, vI p5, vI v565, vR a1453, vI v1491, vI v1527, vI v1562, vI v1597, vI v1632, vR b1639, .unset] [w1708]) s₁ (entryFrame m #[(.int p0), (.int p1), (.int p2), (.int p3), (.int p4), (.int p5)] maxLocals) := by rw [hw1708]; exact pre1707
      have hr_w1708 : w1708.isRef = true := by rw [hw1708]; exact own_r_f12_y
      have pre1710 : own_P p e below T1672 (mkF m 152 #[vI p0, vI p1, vI p2, vI p3, vI p4, vI p5, vI v565, vR a1453, vI v1491, vI v1527, vI v1562, vI v1597, vI v1632, vR b1639, .val w1708] [(.ref b1639)]) s₁ (entryFrame m #[(.int p0), (.int p1), (.int p2), (.int p3), (.int p4), (.int p5)] maxLocals) := by
       intro t k
       refine pre1709 t ?_
       refine XS.astore X1672.here hx rfl (hb hby at_148) rfl (by first | exact hr_w1708 | rfl) (l' := #[vI p0, vI p1, vI p2, vI p3, vI p4, vI p5, vI v565, vR a1453, vI v1491, vI v1527, vI v1562, vI v1597, vI v1632, vR b1639, .val w1708]) (by rcases own_rc hr_w1708 with q | ⟨b, q⟩ <;> rw [q] <;> rfl) ?_
       refine XS.aload X1672.here hx rfl (hb hby at_150) rfl rfl ?_
       exact k
      obtain ⟨_, _, ⟨T1711, L1711, k1711, n1711⟩, -, X1711, ⟨Lc1711, hQ1711, l1711, y1711, z1711⟩, st1711⟩ := Jvm.LawKit.callS X1672 hx (y := (⟨"com/example/timely_exodus/timelyexodus/plan/LpSolver", "fromName", "(Ljava/lang/String;)Lcom/example/timely_exodus/timelyexodus/plan/LpSolver;"⟩ : MethodName)) ho1672 (mvT hZ1672 (own_w hw 69 rfl)) (mvT hZ1672 (own_w hw 70 rfl)) (mvT hZ1672 (own_w hw 71 rfl)) (mvT hZ1672 (own_w hw 72 rfl)) (by decide) (backOf (W := 0) (rm15_y l Z ar0 hw [] b1639 (own_cs v1491 v1527 v1562 v1597 v1632) gc1 b1639b kb1639b s__VALUES k__VALUES s_GLOP s_CLP s_PDLP n_GLOP t_GLOP k_t_GLOP n_CLP t_CLP k_t_CLP n_PDLP t_PDLP k_t_PDLP h1672 n0 Z1672 P5 (own_hpcs (by rw [hv1527]; exact own_Rf1_0 (by decide)) (by rw [hv1562]; exact own_Rf1_1 (by decide)) (by rw [hv1597]; exact own_Rf1_2 (by decide)) (by rw [hv1632]; exact own_Rf1_3 (by decide))) own_hlcs Sf1673 Ef1703 Ff1704 Ff1705 Vf1706 Sf1678 Vf1679 Ef1680 Ef1681 Ff1682 Ef1683 Ff1684 Ff1685 Vf1686 Ef1687 Ff1688 Ef1689 Ff1690 Ff1691 Vf1692 Ef1693 Ff1694 Ef1695 Ff1696 Ff1697 Vf1698) hZ1672 (own_w hw 72 rfl) (own_w hw 71 rfl) (by decide) (by decide)) (g := (mkF m 152 #[vI p0, vI p1, vI p2, vI p3, vI p4, vI p5, vI v565, vR a1453, vI v1491, vI v1527, vI v1562, vI v1597, vI v1632, vR b1639, .val w1708] [(.ref b1639)])) rfl (by rw [hml]; rfl) (argsL := [(.ref b1639)]) (rest := []) (lenOf pd_8 rfl) rfl (by show 2 * 0 + _ ≤ _; exact Nat.le_of_eq rfl) (hb hby at_152) (fun _ _ => ⟨rfl, e1672, (by decide : 22 + 1 ≤ _), (by decide : 184 + 3 ≤ _)⟩)
      dsimp only [Pt.U, Pt.locs, Pt.cells, Pt.slots] at X1711 l1711 y1711 z1711 st1711 hQ1711
      subst l1711 y1711 z1711
      obtain ⟨h1711, e1711⟩ : ∃ h, T1711.heap = h := ⟨_, rfl⟩
      rw [e1711] at hQ1711
      obtain ⟨rfl, N1711q, K1711q⟩ := hQ1711
      have N1711 := Fr.app N1672 N1711q
      have Z1711 : n0 ≤ h1711.size := Nat.le_trans Z1672 K1711q.1
      have hk1711 := Nat.le_trans hk1672 K1711q.1
      have K1711 : Keep h0 h1711 [] := K1672.trans K1711q (fun x hx => absurd hx List.not_mem_nil)
      have CR1711 := CR1672.trans (CHr.keep K1711q sf0 CR1672.1)
      have Sf1712 : Sta Z h1711 "java/lang/String" "COMPACT_STRINGS" "Z" (.int gc1) := own_sta_keep0 Sf1673 K1711q
      have Sf1713 : Sta Z h1711 "jdk/internal/util/Preconditions" "SIOOBE_FORMATTER" "Ljava/util/function/BiFunction;" gf3 := own_sta_keep0 Sf1674 K1711q
      have Sf1714 : Sta Z h1711 "com/example/timely_exodus/timelyexodus/plan/LpSolver" "GLOP" "Lcom/example/timely_exodus/timelyexodus/plan/LpSolver;" (.ref s_GLOP) := own_sta_keep0 Sf1675 K1711q
      have Sf1715 : Sta Z h1711 "com/example/timely_exodus/timelyexodus/plan/LpSolver" "CLP" "Lcom/example/timely_exodus/timelyexodus/plan/LpSolver;" (.ref s_CLP) := own_sta_keep0 Sf1676 K1711q
      have Sf1716 : Sta Z h1711 "com/example/timely_exodus/timelyexodus/plan/LpSolver" "PDLP" "Lcom/example/timely_exodus/timelyexodus/plan/LpSolver;" (.ref s_PDLP) := own_sta_keep0 Sf1677 K1711q
      have Sf1717 : Sta Z h1711 "com/example/timely_exodus/timelyexodus/plan/LpSolver" "$VALUES" "[Lcom/example/timely_exodus/timelyexodus/plan/LpSolver;" (.ref s__VALUES) := own_sta_keep0 Sf1678 K1711q
      have Vf1718 : Arv Z h1711 s__VALUES k__VALUES (.object "com/example/timely_exodus/timelyexodus/plan/LpSolver") (3 : Int32) [(.ref s_GLOP), (.ref s_CLP), (.ref s_PDLP)] .null := (Vf1679).keep K1711q List.not_mem_nil
      have Ef1719 : Exa Z h1711 s__VALUES "[Lcom/example/timely_exodus/timelyexodus/plan/LpSolver;" := (Ef1680).keep K1711q
      have Ef1720 : Exa Z h1711 s_GLOP "com/example/timely_exodus/timelyexodus/plan/LpSolver" := (Ef1681).keep K1711q
      have Ff1721 : Fld Z h1711 s_GLOP "com/example/timely_exodus/timelyexodus/plan/LpSolver" "name" "Ljava/lang/String;" (.ref n_GLOP) := (Ff1682).keep K1711q List.not_mem_nil
      have Ef1722 : Exa Z h1711 n_GLOP "java/lang/String" := (Ef1683).keep K1711q
      have Ff1723 : Fld Z h1711 n_GLOP "java/lang/String" "value" "[B" (.ref t_GLOP) := (Ff1684).keep K1711q List.not_mem_nil
      have Ff1724 : Fld Z h1711 n_GLOP "java/lang/String" "coder" "B" (.int 0) := (Ff1685).keep K1711q List.not_mem_nil
      have Vf1725 : Arv Z h1711 t_GLOP k_t_GLOP .byte (4 : Int32) ((([103, 108, 111, 112] : List Int32).map (fun c => c.toInt8.toInt32)).map Value.int) (.int 0) := (Vf1686).keep K1711q List.not_mem_nil
      have Ef1726 : Exa Z h1711 s_CLP "com/example/timely_exodus/timelyexodus/plan/LpSolver" := (Ef1687).keep K1711q
      have Ff1727 : Fld Z h1711 s_CLP "com/example/timely_exodus/timelyexodus/plan/LpSolver" "name" "Ljava/lang/String;" (.ref n_CLP) := (Ff1688).keep K1711q List.not_mem_nil
      have Ef1728 : Exa Z h1711 n_CLP "java/lang/String" := (Ef1689).keep K1711q
      have Ff1729 : Fld Z h1711 n_CLP "java/lang/String" "value" "[B" (.ref t_CLP) := (Ff1690).keep K1711q List.not_mem_nil
      have Ff1730 : Fld Z h1711 n_CLP "java/lang/String" "coder" "B" (.int 0) := (Ff1691).keep K1711q List.not_mem_nil
      have Vf1731 : Arv Z h1711 t_CLP k_t_CLP .byte (3 : Int32) ((([99, 108, 112] : List Int32).map (fun c => c.toInt8.toInt32)).map Value.int) (.int 0) := (Vf1692).keep K1711q List.not_mem_nil
      have Ef1732 : Exa Z h1711 s_PDLP "com/example/timely_exodus/timelyexodus/plan/LpSolver" := (Ef1693).keep K1711q
      have Ff1733 : Fld Z h1711 s_PDLP "com/example/timely_exodus/timelyexodus/plan/LpSolver" "name" "Ljava/lang/String;" (.ref n_PDLP) := (Ff1694).keep K1711q List.not_mem_nil
      have Ef1734 : Exa Z h1711 n_PDLP "java/lang/String" := (Ef1695).keep K1711q
      have Ff1735 : Fld Z h1711 n_PDLP "java/lang/String" "value" "[B" (.ref t_PDLP) := (Ff1696).keep K1711q List.not_mem_nil
      have Ff1736 : Fld Z h1711 n_PDLP "java/lang/String" "coder" "B" (.int 0) := (Ff1697).keep K1711q List.not_mem_nil
      have Vf1737 : Arv Z h1711 t_PDLP k_t_PDLP .byte (4 : Int32) ((([112, 100, 108, 112] : List Int32).map (fun c => c.toInt8.toInt32)).map Value.int) (.int 0) := (Vf1698).keep K1711q List.not_mem_nil
      have Ef1738 : Exa Z h1711 a1453 "java/lang/String" := (Ef1699).keep K1711q
      have Ff1739 : Fld Z h1711 a1453 "java/lang/String" "coder" "B" (.int 0) := (Ff1700).keep K1711q List.not_mem_nil
      have Ff1740 : Fld Z h1711 a1453 "java/lang/String" "value" "[B" (.ref b1453) := (Ff1701).keep K1711q List.not_mem_nil
      have Vf1741 : Arv Z h1711 b1453 kb1453 .byte (0 : Int32) ((([] : List Int32).map (fun c => c.toInt8.toInt32)).map Value.int) (.int 0) := (Vf1702).keep K1711q List.not_mem_nil
      have Ef1742 : Exa Z h1711 b1639 "java/lang/String" := (Ef1703).keep K1711q
      have Ff1743 : Fld Z h1711 b1639 "java/lang/String" "value" "[B" (.ref b1639b) := (Ff1704).keep K1711q List.not_mem_nil
      have Ff1744 : Fld Z h1711 b1639 "java/lang/String" "coder" "B" (.int 0) := (Ff1705).keep K1711q List.not_mem_nil
      have Vf1745 : Arv Z h1711 b1639b kb1639b .byte (Int32.ofNat (own_cs v1491 v1527 v1562 v1597 v1632).length) ((((own_cs v1491 v1527 v1562 v1597 v1632) : List Int32).map (fun c => c.toInt8.toInt32)).map Value.int) (.int 0) := (Vf1706).keep K1711q List.not_mem_nil
      have pre1746 : own_P p e below T1711 (mkF m 155 #[vI p0, vI p1, vI p2, vI p3, vI p4, vI p5, vI v565, vR a1453, vI v1491, vI v1527, vI v1562, vI v1597, vI v1632, vR b1639, .val w1708] [(f15_y (own_cs v1491 v1527 v1562 v1597 v1632) s_GLOP s_CLP s_PDLP)]) s₁ (entryFrame m #[(.int p0), (.int p1), (.int p2), (.int p3), (.int p4), (.int p5)] maxLocals) := fun t k => pre1710 t (st1711 t k)
      obtain ⟨w1747, hw1747⟩ : ∃ z : Value, z = (f15_y (own_cs v1491 v1527 v1562 v1597 v1632) s_GLOP s_CLP s_PDLP) := ⟨_, rfl⟩
      have pre1748 : own_P p e below T1711 (mkF m 155 #[vI p0, vI p1, vI p2, vI p3, vI p4, vI p5, vI v565, vR a1453, vI v1491, vI v1527, vI v1562, vI v1597, vI v1632, vR b1639, .val w1708] [w1747]) s₁ (entryFrame m #[(.int p0), (.int p1), (.int p2), (.int p3), (.int p4), (.int p5)] maxLocals) := by rw [hw1747]; exact pre1746
      have hr_w1747 : w1747.isRef = true := by rw [hw1747]; exact own_r_f15_y
      have pre1749 : own_P p e below T1711 (mkF m 157 #[vI p0, vI p1, vI p2, vI p3, vI p4, vI p5, vI v565, vR a1453, vI v1491, vI v1527, vI v1562, vI v1597, vI v1632, vR b1639, .val w1708] [w1708, w1747]) s₁ (entryFrame m #[(.int p0), (.int p1), (.int p2), (.int p3), (.int p4), (.int p5)] maxLocals) := by
       intro t k
       refine pre1748 t ?_
       refine XS.aload X1711.here hx rfl (hb hby at_155) rfl (by first | exact hr_w1708 | rfl) ?_
       exact k
      by_cases hc157_1750 : (w1747 : Value) = w1708
      ·
       obtain ⟨fs, hr, hrun, hended, hRW⟩ := X1711.leaveW (s := s) (vm₁ := T1672.vm) hS1672 (by rw [e1711]; first | exact hk1711 | exact Nat.le_refl _) (v := some (.int 1)) (fun h => by rw [Bd.returns] at h; cases h)
       refine ⟨_, _, pre1749 _ ?_, hrun, hended, _, _, rfl, ?_, hRW.1, hRW.2.1, hRW.2.2.1, hRW.2.2.2.mono (by decide) (by decide)⟩
       ·
        refine Jvm.RoadKit.acmp (g := (mkF m 157 #[vI p0, vI p1, vI p2, vI p3, vI p4, vI p5, vI v565, vR a1453, vI v1491, vI v1527, vI v1562, vI v1597, vI v1632, vR b1639, .val w1708] [w1708, w1747])) X1711 hx rfl hr_w1747 hr_w1708 (pc0 := 157) (pc' := 160) (same := true) rfl (hb hby at_157) rfl (decide_eq_true hc157_1750) (by decide) (by decide) ?_
        refine XS.iconst X1711.here hx rfl (hb hby at_160) ?_
        refine XS.goto X1711.here hx rfl (pc0 := 161) (pc' := 165) rfl (hb hby at_161) (by decide) (by decide) ?_
        exact retN X1711 hx (t := .boolean) Bd.returns (by simp) (hb hby at_165) hr
       ·
        show Q0 Z p0 p1 p2 p3 p4 p5 gc1 gf3 s_GLOP s_CLP s_PDLP s__VALUES k__VALUES n_GLOP t_GLOP k_t_GLOP n_CLP t_CLP k_t_CLP n_PDLP t_PDLP k_t_PDLP h0 n0 _ T1711.heap _
        rw [e1711]
        exact ⟨rfl, N1711⟩
      ·
       have pre1751 : ∀ t, Steps p.tables e below (T1711.setTop (mkF m 165 #[vI p0, vI p1, vI p2, vI p3, vI p4, vI p5, vI v565, vR a1453, vI v1491, vI v1527, vI v1562, vI v1597, vI v1632, vR b1639, .val w1708] [(.int 0)])) t → Steps p.tables e below (s₁.setTop (entryFrame m #[(.int p0), (.int p1), (.int p2), (.int p3), (.int p4), (.int p5)] maxLocals)) t := by
        intro t k
        refine pre1749 t ?_
        refine Jvm.RoadKit.acmp (g := (mkF m 157 #[vI p0, vI p1, vI p2, vI p3, vI p4, vI p5, vI v565, vR a1453, vI v1491, vI v1527, vI v1562, vI v1597, vI v1632, vR b1639, .val w1708] [w1708, w1747])) X1711 hx rfl hr_w1747 hr_w1708 (pc0 := 157) (pc' := 164) (same := false) rfl (hb hby at_157) rfl (decide_eq_false hc157_1750) (by decide) (by decide) ?_
        refine XS.iconst X1711.here hx rfl (hb hby at_164) ?_
        exact k
       exact (own_leaf4 rG3 P5 hv565 hc8_568 hc19_863 hc30_1158 hv1491 hv1527 hv1562 hv1597 hv1632 hc114_1635 hc121_1637 hw1708 hw1747 hc157_1750).elim
     ·
      have pre1752 : ∀ t, Steps p.tables e below (T1600.setTop (mkF m 145 #[vI p0, vI p1, vI p2, vI p3, vI p4, vI p5, vI v565, vR a1453, vI v1491, vI v1527, vI v1562, vI v1597, vI v1632, .val .null, .unset] [.null])) t → Steps p.tables e below (s₁.setTop (entryFrame m #[(.int p0), (.int p1), (.int p2), (.int p3), (.int p4), (.int p5)] maxLocals)) t := by
       intro t k
       refine pre1636 t ?_
       refine XS.ifNo X1600.here hx rfl (hb hby at_121) rfl ((if0 _ _).trans (feq hc121_1637).1) ?_
       refine XS.aconstNull X1600.here hx rfl (hb hby at_124) ?_
       refine XS.goto X1600.here hx rfl (pc0 := 125) (pc' := 141) rfl (hb hby at_125) (by decide) (by decide) ?_
       refine XS.astore X1600.here hx rfl (hb hby at_141) rfl rfl (l' := #[vI p0, vI p1, vI p2, vI p3, vI p4, vI p5, vI v565, vR a1453, vI v1491, vI v1527, vI v1562, vI v1597, vI v1632, .val .null, .unset]) rfl ?_
       refine XS.aload X1600.here hx rfl (hb hby at_143) rfl rfl ?_
       exact k
      obtain ⟨_, _, ⟨T1753, L1753, k1753, n1753⟩, -, X1753, ⟨Lc1753, hQ1753, l1753, y1753, z1753⟩, st1753⟩ := Jvm.LawKit.callS X1600 hx (y := (⟨"com/example/timely_exodus/timelyexodus/plan/LpSolverFromNamePinLaw", "ref", "(Ljava/lang/String;)Lcom/example/timely_exodus/timelyexodus/plan/LpSolver;"⟩ : MethodName)) ho1600 (mvT hZ1600 (own_w hw 53 rfl)) (mvT hZ1600 (own_w hw 54 rfl)) (mvT hZ1600 (own_w hw 10 rfl)) (mvT hZ1600 (own_w hw 55 rfl)) (by decide) (backOf (W := 0) (rm12_n l Z ar0 hw []  h1600 n0 Z1600) hZ1600 (own_w hw 55 rfl) (own_w hw 10 rfl) (by decide) (by decide)) (g := (mkF m 145 #[vI p0, vI p1, vI p2, vI p3, vI p4, vI p5, vI v565, vR a1453, vI v1491, vI v1527, vI v1562, vI v1597, vI v1632, .val .null, .unset] [.null])) rfl (by rw [hml]; rfl) (argsL := [.null]) (rest := []) (lenOf pd_8 rfl) rfl (by show 2 * 0 + _ ≤ _; exact Nat.le_of_eq rfl) (hb hby at_145) (fun _ _ => ⟨rfl, e1600, (by decide : 10 + 0 ≤ _), (by decide : 116 + 0 ≤ _)⟩)
      dsimp only [Pt.U, Pt.locs, Pt.cells, Pt.slots] at X1753 l1753 y1753 z1753 st1753 hQ1753
      subst l1753 y1753 z1753
      obtain ⟨rfl, N1753q, e1753⟩ := hQ1753
      have N1753 := Fr.app N1600 N1753q
      have pre1754 : own_P p e below T1753 (mkF m 148 #[vI p0, vI p1, vI p2, vI p3, vI p4, vI p5, vI v565, vR a1453, vI v1491, vI v1527, vI v1562, vI v1597, vI v1632, .val .null, .unset] [.null]) s₁ (entryFrame m #[(.int p0), (.int p1), (.int p2), (.int p3), (.int p4), (.int p5)] maxLocals) := fun t k => pre1752 t (st1753 t k)
      have pre1755 : own_P p e below T1753 (mkF m 152 #[vI p0, vI p1, vI p2, vI p3, vI p4, vI p5, vI v565, vR a1453, vI v1491, vI v1527, vI v1562, vI v1597, vI v1632, .val .null, .val .null] [.null]) s₁ (entryFrame m #[(.int p0), (.int p1), (.int p2), (.int p3), (.int p4), (.int p5)] maxLocals) := by
       intro t k
       refine pre1754 t ?_
       refine XS.astore X1753.here hx rfl (hb hby at_148) rfl rfl (l' := #[vI p0, vI p1, vI p2, vI p3, vI p4, vI p5, vI v565, vR a1453, vI v1491, vI v1527, vI v1562, vI v1597, vI v1632, .val .null, .val .null]) rfl ?_
       refine XS.aload X1753.here hx rfl (hb hby at_150) rfl rfl ?_
       exact k
      obtain ⟨_, _, ⟨T1756, L1756, k1756, n1756⟩, -, X1756, ⟨Lc1756, hQ1756, l1756, y1756, z1756⟩, st1756⟩ := Jvm.LawKit.callS X1753 hx (y := (⟨"com/example/timely_exodus/timelyexodus/plan/LpSolver", "fromName", "(Ljava/lang/String;)Lcom/example/timely_exodus/timelyexodus/plan/LpSolver;"⟩ : MethodName)) ho1600 (mvT hZ1600 (own_w hw 69 rfl)) (mvT hZ1600 (own_w hw 70 rfl)) (mvT hZ1600 (own_w hw 71 rfl)) (mvT hZ1600 (own_w hw 72 rfl)) (by decide) (backOf (W := 0) (rm15_n l Z ar0 hw [] s__VALUES k__VALUES s_GLOP s_CLP s_PDLP n_GLOP t_GLOP k_t_GLOP n_CLP t_CLP k_t_CLP n_PDLP t_PDLP k_t_PDLP h1600 n0 Z1600 Sf1606 Vf1607 Ef1608 Ef1609 Ff1610 Ef1611 Ff1612 Ff1613 Vf1614 Ef1615 Ff1616 Ef1617 Ff1618 Ff1619 Vf1620 Ef1621 Ff1622 Ef1623 Ff1624 Ff1625 Vf1626) hZ1600 (own_w hw 72 rfl) (own_w hw 71 rfl) (by decide) (by decide)) (g := (mkF m 152 #[vI p0, vI p1, vI p2, vI p3, vI p4, vI p5, vI v565, vR a1453, vI v1491, vI v1527, vI v1562, vI v1597, vI v1632, .val .null, .val .null] [.null])) rfl (by rw [hml]; rfl) (argsL := [.null]) (rest := []) (lenOf pd_8 rfl) rfl (by show 2 * 0 + _ ≤ _; exact Nat.le_of_eq rfl) (hb hby at_152) (fun _ _ => ⟨rfl, e1753, (by decide : 10 + 1 ≤ _), (by decide : 116 + 3 ≤ _)⟩)
      dsimp only [Pt.U, Pt.locs, Pt.cells, Pt.slots] at X1756 l1756 y1756 z1756 st1756 hQ1756
      subst l1756 y1756 z1756
      obtain ⟨h1756, e1756⟩ : ∃ h, T1756.heap = h := ⟨_, rfl⟩
      rw [e1756] at hQ1756
      obtain ⟨rfl, N1756q, K1756q⟩ := hQ1756
      have N1756 := Fr.app N1753 N1756q
      have Z1756 : n0 ≤ h1756.size := Nat.le_trans Z1600 K1756q.1
      have hk1756 := Nat.le_trans hk1600 K1756q.1
      have K1756 : Keep h0 h1756 [] := K1600.trans K1756q (fun x hx => absurd hx List.not_mem_nil)
      have CR1756 := CR1600.trans (CHr.keep K1756q sf0 CR1600.1)
      have Sf1757 : Sta Z h1756 "java/lang/String" "COMPACT_STRINGS" "Z" (.int gc1) := own_sta_keep0 Sf1601 K1756q
      have Sf1758 : Sta Z h1756 "jdk/internal/util/Preconditions" "SIOOBE_FORMATTER" "Ljava/util/function/BiFunction;" gf3 := own_sta_keep0 Sf1602 K1756q
      have Sf1759 : Sta Z h1756 "com/example/timely_exodus/timelyexodus/plan/LpSolver" "GLOP" "Lcom/example/timely_exodus/timelyexodus/plan/LpSolver;" (.ref s_GLOP) := own_sta_keep0 Sf1603 K1756q
      have Sf1760 : Sta Z h1756 "com/example/timely_exodus/timelyexodus/plan/LpSolver" "CLP" "Lcom/example/timely_exodus/timelyexodus/plan/LpSolver;" (.ref s_CLP) := own_sta_keep0 Sf1604 K1756q
      have Sf1761 : Sta Z h1756 "com/example/timely_exodus/timelyexodus/plan/LpSolver" "PDLP" "Lcom/example/timely_exodus/timelyexodus/plan/LpSolver;" (.ref s_PDLP) := own_sta_keep0 Sf1605 K1756q
      have Sf1762 : Sta Z h1756 "com/example/timely_exodus/timelyexodus/plan/LpSolver" "$VALUES" "[Lcom/example/timely_exodus/timelyexodus/plan/LpSolver;" (.ref s__VALUES) := own_sta_keep0 Sf1606 K1756q
      have Vf1763 : Arv Z h1756 s__VALUES k__VALUES (.object "com/example/timely_exodus/timelyexodus/plan/LpSolver") (3 : Int32) [(.ref s_GLOP), (.ref s_CLP), (.ref s_PDLP)] .null := (Vf1607).keep K1756q List.not_mem_nil
      have Ef1764 : Exa Z h1756 s__VALUES "[Lcom/example/timely_exodus/timelyexodus/plan/LpSolver;" := (Ef1608).keep K1756q
      have Ef1765 : Exa Z h1756 s_GLOP "com/example/timely_exodus/timelyexodus/plan/LpSolver" := (Ef1609).keep K1756q
      have Ff1766 : Fld Z h1756 s_GLOP "com/example/timely_exodus/timelyexodus/plan/LpSolver" "name" "Ljava/lang/String;" (.ref n_GLOP) := (Ff1610).keep K1756q List.not_mem_nil
      have Ef1767 : Exa Z h1756 n_GLOP "java/lang/String" := (Ef1611).keep K1756q
      have Ff1768 : Fld Z h1756 n_GLOP "java/lang/String" "value" "[B" (.ref t_GLOP) := (Ff1612).keep K1756q List.not_mem_nil
      have Ff1769 : Fld Z h1756 n_GLOP "java/lang/String" "coder" "B" (.int 0) := (Ff1613).keep K1756q List.not_mem_nil
      have Vf1770 : Arv Z h1756 t_GLOP k_t_GLOP .byte (4 : Int32) ((([103, 108, 111, 112] : List Int32).map (fun c => c.toInt8.toInt32)).map Value.int) (.int 0) := (Vf1614).keep K1756q List.not_mem_nil
      have Ef1771 : Exa Z h1756 s_CLP "com/example/timely_exodus/timelyexodus/plan/LpSolver" := (Ef1615).keep K1756q
      have Ff1772 : Fld Z h1756 s_CLP "com/example/timely_exodus/timelyexodus/plan/LpSolver" "name" "Ljava/lang/String;" (.ref n_CLP) := (Ff1616).keep K1756q List.not_mem_nil
      have Ef1773 : Exa Z h1756 n_CLP "java/lang/String" := (Ef1617).keep K1756q
      have Ff1774 : Fld Z h1756 n_CLP "java/lang/String" "value" "[B" (.ref t_CLP) := (Ff1618).keep K1756q List.not_mem_nil
      have Ff1775 : Fld Z h1756 n_CLP "java/lang/String" "coder" "B" (.int 0) := (Ff1619).keep K1756q List.not_mem_nil
      have Vf1776 : Arv Z h1756 t_CLP k_t_CLP .byte (3 : Int32) ((([99, 108, 112] : List Int32).map (fun c => c.toInt8.toInt32)).map Value.int) (.int 0) := (Vf1620).keep K1756q List.not_mem_nil
      have Ef1777 : Exa Z h1756 s_PDLP "com/example/timely_exodus/timelyexodus/plan/LpSolver" := (Ef1621).keep K1756q
      have Ff1778 : Fld Z h1756 s_PDLP "com/example/timely_exodus/timelyexodus/plan/LpSolver" "name" "Ljava/lang/String;" (.ref n_PDLP) := (Ff1622).keep K1756q List.not_mem_nil
      have Ef1779 : Exa Z h1756 n_PDLP "java/lang/String" := (Ef1623).keep K1756q
      have Ff1780 : Fld Z h1756 n_PDLP "java/lang/String" "value" "[B" (.ref t_PDLP) := (Ff1624).keep K1756q List.not_mem_nil
      have Ff1781 : Fld Z h1756 n_PDLP "java/lang/String" "coder" "B" (.int 0) := (Ff1625).keep K1756q List.not_mem_nil
      have Vf1782 : Arv Z h1756 t_PDLP k_t_PDLP .byte (4 : Int32) ((([112, 100, 108, 112] : List Int32).map (fun c => c.toInt8.toInt32)).map Value.int) (.int 0) := (Vf1626).keep K1756q List.not_mem_nil
      have Ef1783 : Exa Z h1756 a1453 "java/lang/String" := (Ef1627).keep K1756q
      have Ff1784 : Fld Z h1756 a1453 "java/lang/String" "coder" "B" (.int 0) := (Ff1628).keep K1756q List.not_mem_nil
      have Ff1785 : Fld Z h1756 a1453 "java/lang/String" "value" "[B" (.ref b1453) := (Ff1629).keep K1756q List.not_mem_nil
      have Vf1786 : Arv Z h1756 b1453 kb1453 .byte (0 : Int32) ((([] : List Int32).map (fun c => c.toInt8.toInt32)).map Value.int) (.int 0) := (Vf1630).keep K1756q List.not_mem_nil
      have pre1787 : own_P p e below T1756 (mkF m 155 #[vI p0, vI p1, vI p2, vI p3, vI p4, vI p5, vI v565, vR a1453, vI v1491, vI v1527, vI v1562, vI v1597, vI v1632, .val .null, .val .null] [.null]) s₁ (entryFrame m #[(.int p0), (.int p1), (.int p2), (.int p3), (.int p4), (.int p5)] maxLocals) := fun t k => pre1755 t (st1756 t k)
      obtain ⟨fs, hr, hrun, hended, hRW⟩ := X1756.leaveW (s := s) (vm₁ := T1600.vm) hS1600 (by rw [e1756]; first | exact hk1756 | exact Nat.le_refl _) (v := some (.int 1)) (fun h => by rw [Bd.returns] at h; cases h)
      refine ⟨_, _, pre1787 _ ?_, hrun, hended, _, _, rfl, ?_, hRW.1, hRW.2.1, hRW.2.2.1, hRW.2.2.2.mono (by decide) (by decide)⟩
      ·
       refine XS.aload X1756.here hx rfl (hb hby at_155) rfl rfl ?_
       refine Jvm.RoadKit.acmp (g := (mkF m 157 #[vI p0, vI p1, vI p2, vI p3, vI p4, vI p5, vI v565, vR a1453, vI v1491, vI v1527, vI v1562, vI v1597, vI v1632, .val .null, .val .null] [.null, .null])) X1756 hx rfl rfl rfl (pc0 := 157) (pc' := 160) (same := true) rfl (hb hby at_157) rfl (decide_eq_true rfl) (by decide) (by decide) ?_
       refine XS.iconst X1756.here hx rfl (hb hby at_160) ?_
       refine XS.goto X1756.here hx rfl (pc0 := 161) (pc' := 165) rfl (hb hby at_161) (by decide) (by decide) ?_
       exact retN X1756 hx (t := .boolean) Bd.returns (by simp) (hb hby at_165) hr
      ·
       show Q0 Z p0 p1 p2 p3 p4 p5 gc1 gf3 s_GLOP s_CLP s_PDLP s__VALUES k__VALUES n_GLOP t_GLOP k_t_GLOP n_CLP t_CLP k_t_CLP n_PDLP t_PDLP k_t_PDLP h0 n0 _ T1756.heap _
       rw [e1756]
       exact ⟨rfl, N1756⟩
    ·
     have pre1788 : ∀ t, Steps p.tables e below (T1600.setTop (mkF m 138 #[vI p0, vI p1, vI p2, vI p3, vI p4, vI p5, vI v565, vR a1453, vI v1491, vI v1527, vI v1562, vI v1597, vI v1632, .unset, .unset] [(.int v1632), (.int v1597), (.int v1562), (.int v1527), (.int v1491)])) t → Steps p.tables e below (s₁.setTop (entryFrame m #[(.int p0), (.int p1), (.int p2), (.int p3), (.int p4), (.int p5)] maxLocals)) t := by
      intro t k
      refine pre1634 t ?_
      refine XS.ifYes X1600.here hx rfl (pc0 := 114) (pc' := 128) rfl (hb hby at_114) rfl ((if0 _ _).trans (feq hc114_1635).2) (by decide) (by decide) ?_
      refine XS.iload X1600.here hx rfl (hb hby at_128) rfl ?_
      refine XS.iload X1600.here hx rfl (hb hby at_130) rfl ?_
      refine XS.iload X1600.here hx rfl (hb hby at_132) rfl ?_
      refine XS.iload X1600.here hx rfl (hb hby at_134) rfl ?_
      refine XS.iload X1600.here hx rfl (hb hby at_136) rfl ?_
      exact k
     obtain ⟨_, _, ⟨T1789, L1789, k1789, n1789⟩, -, X1789r, hS1789r, hg1789r, ⟨Lc1789, hQ1789, l1789, y1789, z1789, hC1789⟩, st1789⟩ := callSS X1600 hx (y := (⟨"com/example/timely_exodus/timelyexodus/plan/LpSolverFromNamePinLaw", "make", "(ICCCC)Ljava/lang/String;"⟩ : MethodName)) ho1600 (mvT hZ1600 (own_w hw 28 rfl)) (mvT hZ1600 (own_w hw 29 rfl)) (mvT hZ1600 (own_w hw 10 rfl)) (mvT hZ1600 (own_w hw 30 rfl)) (by decide) (backOfSH (W := 0) (rm5 l Z ar0 hw [] v1491 v1527 v1562 v1597 v1632 gc1 h1600 n0 Z1600 P5 (by rw [hv1527]; exact own_Rf1_0 (by decide)) (by rw [hv1562]; exact own_Rf1_1 (by decide)) (by rw [hv1597]; exact own_Rf1_2 (by decide)) (by rw [hv1632]; exact own_Rf1_3 (by decide)) Sf1601) hZ1600 (own_w hw 30 rfl) (own_w hw 10 rfl) (by decide) (by decide) hEL CR1600.1) (g := (mkF m 138 #[vI p0, vI p1, vI p2, vI p3, vI p4, vI p5, vI v565, vR a1453, vI v1491, vI v1527, vI v1562, vI v1597, vI v1632, .unset, .unset] [(.int v1632), (.int v1597), (.int v1562), (.int v1527), (.int v1491)])) rfl (by rw [hml]; rfl) (argsL := [(.int v1491), (.int v1527), (.int v1562), (.int v1597), (.int v1632)]) (rest := []) (lenOf pd_7 rfl) rfl (by show 2 * 0 + _ ≤ _; exact Nat.le_of_eq rfl) (hb hby at_138) (fun _ _ => ⟨rfl, e1600, (by decide : 10 + 6 ≤ _), (by decide : 116 + 12 ≤ _)⟩)
     dsimp only [Pt.U, Pt.locs, Pt.cells, Pt.slots] at X1789r hS1789r hg1789r l1789 y1789 z1789 st1789 hQ1789 hC1789
     subst l1789 y1789 z1789
     obtain ⟨X1789, hS1789, hZ1789, ho1789⟩ := rebS (s := s) (vm0 := T1600.vm) (n1 := T1600.heap.size) hS1600 (by rw [e1600]; first | exact hk1600 | exact Nat.le_refl _) X1789r hS1789r hg1789r hZ1600 ho1600
     obtain ⟨h1789, e1789⟩ : ∃ h, T1789.heap = h := ⟨_, rfl⟩
     rw [e1789] at hQ1789
     obtain ⟨b1789, b1789b, kb1789b, rfl, N1789q, K1789q, y_b1789, Ob1789_0, Ob1789_1, Ob1789_2, Ob1789b_0⟩ := hQ1789
     have N1789 := Fr.app N1600 N1789q
     have ne_s__VALUES_b1789 : s__VALUES ≠ b1789 := Nat.ne_of_lt (Nat.lt_of_lt_of_le (Vf1607).lt y_b1789)
     have ne_s_GLOP_b1789 : s_GLOP ≠ b1789 := Nat.ne_of_lt (Nat.lt_of_lt_of_le (Ef1609).lt y_b1789)
     have ne_n_GLOP_b1789 : n_GLOP ≠ b1789 := Nat.ne_of_lt (Nat.lt_of_lt_of_le (Ef1611).lt y_b1789)
     have ne_t_GLOP_b1789 : t_GLOP ≠ b1789 := Nat.ne_of_lt (Nat.lt_of_lt_of_le (Vf1614).lt y_b1789)
     have ne_s_CLP_b1789 : s_CLP ≠ b1789 := Nat.ne_of_lt (Nat.lt_of_lt_of_le (Ef1615).lt y_b1789)
     have ne_n_CLP_b1789 : n_CLP ≠ b1789 := Nat.ne_of_lt (Nat.lt_of_lt_of_le (Ef1617).lt y_b1789)
     have ne_t_CLP_b1789 : t_CLP ≠ b1789 := Nat.ne_of_lt (Nat.lt_of_lt_of_le (Vf1620).lt y_b1789)
     have ne_s_PDLP_b1789 : s_PDLP ≠ b1789 := Nat.ne_of_lt (Nat.lt_of_lt_of_le (Ef1621).lt y_b1789)
     have ne_n_PDLP_b1789 : n_PDLP ≠ b1789 := Nat.ne_of_lt (Nat.lt_of_lt_of_le (Ef1623).lt y_b1789)
     have ne_t_PDLP_b1789 : t_PDLP ≠ b1789 := Nat.ne_of_lt (Nat.lt_of_lt_of_le (Vf1626).lt y_b1789)
     have ne_a1453_b1789 : a1453 ≠ b1789 := Nat.ne_of_lt (Nat.lt_of_lt_of_le (Ef1627).lt y_b1789)
     have ne_b1453_b1789 : b1453 ≠ b1789 := Nat.ne_of_lt (Nat.lt_of_lt_of_le (Vf1630).lt y_b1789)
     have g_b1789 : n0 ≤ b1789 := Nat.le_trans Z1600 y_b1789
     have sz_b1789 : h0.size ≤ b1789 := Nat.le_trans K1600.1 y_b1789
     have Z1789 : n0 ≤ h1789.size := Nat.le_trans Z1600 K1789q.1
     have K1789 : Keep h0 h1789 [] := K1600.trans K1789q (fun x hx => absurd hx List.not_mem_nil)
     have Sf1790 : Sta Z h1789 "java/lang/String" "COMPACT_STRINGS" "Z" (.int gc1) := own_sta_keep0 Sf1601 K1789q
     have Sf1791 : Sta Z h1789 "jdk/internal/util/Preconditions" "SIOOBE_FORMATTER" "Ljava/util/function/BiFunction;" gf3 := own_sta_keep0 Sf1602 K1789q
     have Sf1792 : Sta Z h1789 "com/example/timely_exodus/timelyexodus/plan/LpSolver" "GLOP" "Lcom/example/timely_exodus/timelyexodus/plan/LpSolver;" (.ref s_GLOP) := own_sta_keep0 Sf1603 K1789q
     have Sf1793 : Sta Z h1789 "com/example/timely_exodus/timelyexodus/plan/LpSolver" "CLP" "Lcom/example/timely_exodus/timelyexodus/plan/LpSolver;" (.ref s_CLP) := own_sta_keep0 Sf1604 K1789q
     have Sf1794 : Sta Z h1789 "com/example/timely_exodus/timelyexodus/plan/LpSolver" "PDLP" "Lcom/example/timely_exodus/timelyexodus/plan/LpSolver;" (.ref s_PDLP) := own_sta_keep0 Sf1605 K1789q
     have Sf1795 : Sta Z h1789 "com/example/timely_exodus/timelyexodus/plan/LpSolver" "$VALUES" "[Lcom/example/timely_exodus/timelyexodus/plan/LpSolver;" (.ref s__VALUES) := own_sta_keep0 Sf1606 K1789q
     have Vf1796 : Arv Z h1789 s__VALUES k__VALUES (.object "com/example/timely_exodus/timelyexodus/plan/LpSolver") (3 : Int32) [(.ref s_GLOP), (.ref s_CLP), (.ref s_PDLP)] .null := (Vf1607).keep K1789q List.not_mem_nil
     have Ef1797 : Exa Z h1789 s__VALUES "[Lcom/example/timely_exodus/timelyexodus/plan/LpSolver;" := (Ef1608).keep K1789q
     have Ef1798 : Exa Z h1789 s_GLOP "com/example/timely_exodus/timelyexodus/plan/LpSolver" := (Ef1609).keep K1789q
     have Ff1799 : Fld Z h1789 s_GLOP "com/example/timely_exodus/timelyexodus/plan/LpSolver" "name" "Ljava/lang/String;" (.ref n_GLOP) := (Ff1610).keep K1789q List.not_mem_nil
     have Ef1800 : Exa Z h1789 n_GLOP "java/lang/String" := (Ef1611).keep K1789q
     have Ff1801 : Fld Z h1789 n_GLOP "java/lang/String" "value" "[B" (.ref t_GLOP) := (Ff1612).keep K1789q List.not_mem_nil
     have Ff1802 : Fld Z h1789 n_GLOP "java/lang/String" "coder" "B" (.int 0) := (Ff1613).keep K1789q List.not_mem_nil
     have Vf1803 : Arv Z h1789 t_GLOP k_t_GLOP .byte (4 : Int32) ((([103, 108, 111, 112] : List Int32).map (fun c => c.toInt8.toInt32)).map Value.int) (.int 0) := (Vf1614).keep K1789q List.not_mem_nil
     have Ef1804 : Exa Z h1789 s_CLP "com/example/timely_exodus/timelyexodus/plan/LpSolver" := (Ef1615).keep K1789q
     have Ff1805 : Fld Z h1789 s_CLP "com/example/timely_exodus/timelyexodus/plan/LpSolver" "name" "Ljava/lang/String;" (.ref n_CLP) := (Ff1616).keep K1789q List.not_mem_nil
     have Ef1806 : Exa Z h1789 n_CLP "java/lang/String" := (Ef1617).keep K1789q
     have Ff1807 : Fld Z h1789 n_CLP "java/lang/String" "value" "[B" (.ref t_CLP) := (Ff1618).keep K1789q List.not_mem_nil
     have Ff1808 : Fld Z h1789 n_CLP "java/lang/String" "coder" "B" (.int 0) := (Ff1619).keep K1789q List.not_mem_nil
     have Vf1809 : Arv Z h1789 t_CLP k_t_CLP .byte (3 : Int32) ((([99, 108, 112] : List Int32).map (fun c => c.toInt8.toInt32)).map Value.int) (.int 0) := (Vf1620).keep K1789q List.not_mem_nil
     have Ef1810 : Exa Z h1789 s_PDLP "com/example/timely_exodus/timelyexodus/plan/LpSolver" := (Ef1621).keep K1789q
     have Ff1811 : Fld Z h1789 s_PDLP "com/example/timely_exodus/timelyexodus/plan/LpSolver" "name" "Ljava/lang/String;" (.ref n_PDLP) := (Ff1622).keep K1789q List.not_mem_nil
     have Ef1812 : Exa Z h1789 n_PDLP "java/lang/String" := (Ef1623).keep K1789q
     have Ff1813 : Fld Z h1789 n_PDLP "java/lang/String" "value" "[B" (.ref t_PDLP) := (Ff1624).keep K1789q List.not_mem_nil
     have Ff1814 : Fld Z h1789 n_PDLP "java/lang/String" "coder" "B" (.int 0) := (Ff1625).keep K1789q List.not_mem_nil
     have Vf1815 : Arv Z h1789 t_PDLP k_t_PDLP .byte (4 : Int32) ((([112, 100, 108, 112] : List Int32).map (fun c => c.toInt8.toInt32)).map Value.int) (.int 0) := (Vf1626).keep K1789q List.not_mem_nil
     have Ef1816 : Exa Z h1789 a1453 "java/lang/String" := (Ef1627).keep K1789q
     have Ff1817 : Fld Z h1789 a1453 "java/lang/String" "coder" "B" (.int 0) := (Ff1628).keep K1789q List.not_mem_nil
     have Ff1818 : Fld Z h1789 a1453 "java/lang/String" "value" "[B" (.ref b1453) := (Ff1629).keep K1789q List.not_mem_nil
     have Vf1819 : Arv Z h1789 b1453 kb1453 .byte (0 : Int32) ((([] : List Int32).map (fun c => c.toInt8.toInt32)).map Value.int) (.int 0) := (Vf1630).keep K1789q List.not_mem_nil
     rw [e1789] at hC1789
     have CR1789 := CR1600.trans hC1789
     have hk1789 : T1789.heap.size ≤ h1789.size := by rw [e1789]; exact Nat.le_refl _
     have pre1820 : own_P p e below T1789 (mkF m 141 #[vI p0, vI p1, vI p2, vI p3, vI p4, vI p5, vI v565, vR a1453, vI v1491, vI v1527, vI v1562, vI v1597, vI v1632, .unset, .unset] [(.ref b1789)]) s₁ (entryFrame m #[(.int p0), (.int p1), (.int p2), (.int p3), (.int p4), (.int p5)] maxLocals) := fun t k => pre1788 t (st1789.trans k)
     have pre1821 : own_P p e below T1789 (mkF m 145 #[vI p0, vI p1, vI p2, vI p3, vI p4, vI p5, vI v565, vR a1453, vI v1491, vI v1527, vI v1562, vI v1597, vI v1632, vR b1789, .unset] [(.ref b1789)]) s₁ (entryFrame m #[(.int p0), (.int p1), (.int p2), (.int p3), (.int p4), (.int p5)] maxLocals) := by
      intro t k
      refine pre1820 t ?_
      refine XS.astore X1789.here hx rfl (hb hby at_141) rfl rfl (l' := #[vI p0, vI p1, vI p2, vI p3, vI p4, vI p5, vI v565, vR a1453, vI v1491, vI v1527, vI v1562, vI v1597, vI v1632, vR b1789, .unset]) rfl ?_
      refine XS.aload X1789.here hx rfl (hb hby at_143) rfl rfl ?_
      exact k
     obtain ⟨_, _, ⟨T1822, L1822, k1822, n1822⟩, -, X1822r, hS1822r, hg1822r, ⟨Lc1822, hQ1822, l1822, y1822, z1822, hC1822⟩, st1822⟩ := callSS X1789 hx (y := (⟨"com/example/timely_exodus/timelyexodus/plan/LpSolverFromNamePinLaw", "ref", "(Ljava/lang/String;)Lcom/example/timely_exodus/timelyexodus/plan/LpSolver;"⟩ : MethodName)) ho1789 (mvT hZ1789 (own_w hw 53 rfl)) (mvT hZ1789 (own_w hw 54 rfl)) (mvT hZ1789 (own_w hw 10 rfl)) (mvT hZ1789 (own_w hw 55 rfl)) (by decide) (backOfSH (W := 0) (rm12_y l Z ar0 hw [] b1789 (own_cs v1491 v1527 v1562 v1597 v1632) gc1 b1789b kb1789b s_GLOP s_CLP s_PDLP h1789 n0 Z1789 P5 (own_hpcs (by rw [hv1527]; exact own_Rf1_0 (by decide)) (by rw [hv1562]; exact own_Rf1_1 (by decide)) (by rw [hv1597]; exact own_Rf1_2 (by decide)) (by rw [hv1632]; exact own_Rf1_3 (by decide))) own_hlcs Sf1790 Ob1789_0 Ob1789_1 Ob1789_2 Ob1789b_0 Sf1792 Sf1793 Sf1794) hZ1789 (own_w hw 55 rfl) (own_w hw 10 rfl) (by decide) (by decide) hEL CR1789.1) (g := (mkF m 145 #[vI p0, vI p1, vI p2, vI p3, vI p4, vI p5, vI v565, vR a1453, vI v1491, vI v1527, vI v1562, vI v1597, vI v1632, vR b1789, .unset] [(.ref b1789)])) rfl (by rw [hml]; rfl) (argsL := [(.ref b1789)]) (rest := []) (lenOf pd_8 rfl) rfl (by show 2 * 0 + _ ≤ _; exact Nat.le_of_eq rfl) (hb hby at_145) (fun _ _ => ⟨rfl, e1789, (by decide : 16 + 6 ≤ _), (by decide : 128 + 56 ≤ _)⟩)
     dsimp only [Pt.U, Pt.locs, Pt.cells, Pt.slots] at X1822r hS1822r hg1822r l1822 y1822 z1822 st1822 hQ1822 hC1822
     subst l1822 y1822 z1822
     obtain ⟨X1822, hS1822, hZ1822, ho1822⟩ := rebS (s := s) (vm0 := T1789.vm) (n1 := T1789.heap.size) hS1789 (by rw [e1789]; first | exact hk1789 | exact Nat.le_refl _) X1822r hS1822r hg1822r hZ1789 ho1789
     obtain ⟨h1822, e1822⟩ : ∃ h, T1822.heap = h := ⟨_, rfl⟩
     rw [e1822] at hQ1822
     obtain ⟨rfl, N1822q, K1822q⟩ := hQ1822
     have N1822 := Fr.app N1789 N1822q
     have Z1822 : n0 ≤ h1822.size := Nat.le_trans Z1789 K1822q.1
     have K1822 : Keep h0 h1822 [] := K1789.trans K1822q (fun x hx => absurd hx List.not_mem_nil)
     have Sf1823 : Sta Z h1822 "java/lang/String" "COMPACT_STRINGS" "Z" (.int gc1) := own_sta_keep0 Sf1790 K1822q
     have Sf1824 : Sta Z h1822 "jdk/internal/util/Preconditions" "SIOOBE_FORMATTER" "Ljava/util/function/BiFunction;" gf3 := own_sta_keep0 Sf1791 K1822q
     have Sf1825 : Sta Z h1822 "com/example/timely_exodus/timelyexodus/plan/LpSolver" "GLOP" "Lcom/example/timely_exodus/timelyexodus/plan/LpSolver;" (.ref s_GLOP) := own_sta_keep0 Sf1792 K1822q
     have Sf1826 : Sta Z h1822 "com/example/timely_exodus/timelyexodus/plan/LpSolver" "CLP" "Lcom/example/timely_exodus/timelyexodus/plan/LpSolver;" (.ref s_CLP) := own_sta_keep0 Sf1793 K1822q
     have Sf1827 : Sta Z h1822 "com/example/timely_exodus/timelyexodus/plan/LpSolver" "PDLP" "Lcom/example/timely_exodus/timelyexodus/plan/LpSolver;" (.ref s_PDLP) := own_sta_keep0 Sf1794 K1822q
     have Sf1828 : Sta Z h1822 "com/example/timely_exodus/timelyexodus/plan/LpSolver" "$VALUES" "[Lcom/example/timely_exodus/timelyexodus/plan/LpSolver;" (.ref s__VALUES) := own_sta_keep0 Sf1795 K1822q
     have Vf1829 : Arv Z h1822 s__VALUES k__VALUES (.object "com/example/timely_exodus/timelyexodus/plan/LpSolver") (3 : Int32) [(.ref s_GLOP), (.ref s_CLP), (.ref s_PDLP)] .null := (Vf1796).keep K1822q List.not_mem_nil
     have Ef1830 : Exa Z h1822 s__VALUES "[Lcom/example/timely_exodus/timelyexodus/plan/LpSolver;" := (Ef1797).keep K1822q
     have Ef1831 : Exa Z h1822 s_GLOP "com/example/timely_exodus/timelyexodus/plan/LpSolver" := (Ef1798).keep K1822q
     have Ff1832 : Fld Z h1822 s_GLOP "com/example/timely_exodus/timelyexodus/plan/LpSolver" "name" "Ljava/lang/String;" (.ref n_GLOP) := (Ff1799).keep K1822q List.not_mem_nil
     have Ef1833 : Exa Z h1822 n_GLOP "java/lang/String" := (Ef1800).keep K1822q
     have Ff1834 : Fld Z h1822 n_GLOP "java/lang/String" "value" "[B" (.ref t_GLOP) := (Ff1801).keep K1822q List.not_mem_nil
     have Ff1835 : Fld Z h1822 n_GLOP "java/lang/String" "coder" "B" (.int 0) := (Ff1802).keep K1822q List.not_mem_nil
     have Vf1836 : Arv Z h1822 t_GLOP k_t_GLOP .byte (4 : Int32) ((([103, 108, 111, 112] : List Int32).map (fun c => c.toInt8.toInt32)).map Value.int) (.int 0) := (Vf1803).keep K1822q List.not_mem_nil
     have Ef1837 : Exa Z h1822 s_CLP "com/example/timely_exodus/timelyexodus/plan/LpSolver" := (Ef1804).keep K1822q
     have Ff1838 : Fld Z h1822 s_CLP "com/example/timely_exodus/timelyexodus/plan/LpSolver" "name" "Ljava/lang/String;" (.ref n_CLP) := (Ff1805).keep K1822q List.not_mem_nil
     have Ef1839 : Exa Z h1822 n_CLP "java/lang/String" := (Ef1806).keep K1822q
     have Ff1840 : Fld Z h1822 n_CLP "java/lang/String" "value" "[B" (.ref t_CLP) := (Ff1807).keep K1822q List.not_mem_nil
     have Ff1841 : Fld Z h1822 n_CLP "java/lang/String" "coder" "B" (.int 0) := (Ff1808).keep K1822q List.not_mem_nil
     have Vf1842 : Arv Z h1822 t_CLP k_t_CLP .byte (3 : Int32) ((([99, 108, 112] : List Int32).map (fun c => c.toInt8.toInt32)).map Value.int) (.int 0) := (Vf1809).keep K1822q List.not_mem_nil
     have Ef1843 : Exa Z h1822 s_PDLP "com/example/timely_exodus/timelyexodus/plan/LpSolver" := (Ef1810).keep K1822q
     have Ff1844 : Fld Z h1822 s_PDLP "com/example/timely_exodus/timelyexodus/plan/LpSolver" "name" "Ljava/lang/String;" (.ref n_PDLP) := (Ff1811).keep K1822q List.not_mem_nil
     have Ef1845 : Exa Z h1822 n_PDLP "java/lang/String" := (Ef1812).keep K1822q
     have Ff1846 : Fld Z h1822 n_PDLP "java/lang/String" "value" "[B" (.ref t_PDLP) := (Ff1813).keep K1822q List.not_mem_nil
     have Ff1847 : Fld Z h1822 n_PDLP "java/lang/String" "coder" "B" (.int 0) := (Ff1814).keep K1822q List.not_mem_nil
     have Vf1848 : Arv Z h1822 t_PDLP k_t_PDLP .byte (4 : Int32) ((([112, 100, 108, 112] : List Int32).map (fun c => c.toInt8.toInt32)).map Value.int) (.int 0) := (Vf1815).keep K1822q List.not_mem_nil
     have Ef1849 : Exa Z h1822 a1453 "java/lang/String" := (Ef1816).keep K1822q
     have Ff1850 : Fld Z h1822 a1453 "java/lang/String" "coder" "B" (.int 0) := (Ff1817).keep K1822q List.not_mem_nil
     have Ff1851 : Fld Z h1822 a1453 "java/lang/String" "value" "[B" (.ref b1453) := (Ff1818).keep K1822q List.not_mem_nil
     have Vf1852 : Arv Z h1822 b1453 kb1453 .byte (0 : Int32) ((([] : List Int32).map (fun c => c.toInt8.toInt32)).map Value.int) (.int 0) := (Vf1819).keep K1822q List.not_mem_nil
     have Ef1853 : Exa Z h1822 b1789 "java/lang/String" := (Ob1789_0).keep K1822q
     have Ff1854 : Fld Z h1822 b1789 "java/lang/String" "value" "[B" (.ref b1789b) := (Ob1789_1).keep K1822q List.not_mem_nil
     have Ff1855 : Fld Z h1822 b1789 "java/lang/String" "coder" "B" (.int 0) := (Ob1789_2).keep K1822q List.not_mem_nil
     have Vf1856 : Arv Z h1822 b1789b kb1789b .byte (Int32.ofNat (own_cs v1491 v1527 v1562 v1597 v1632).length) ((((own_cs v1491 v1527 v1562 v1597 v1632) : List Int32).map (fun c => c.toInt8.toInt32)).map Value.int) (.int 0) := (Ob1789b_0).keep K1822q List.not_mem_nil
     rw [e1822] at hC1822
     have CR1822 := CR1789.trans hC1822
     have hk1822 : T1822.heap.size ≤ h1822.size := by rw [e1822]; exact Nat.le_refl _
     have pre1857 : own_P p e below T1822 (mkF m 148 #[vI p0, vI p1, vI p2, vI p3, vI p4, vI p5, vI v565, vR a1453, vI v1491, vI v1527, vI v1562, vI v1597, vI v1632, vR b1789, .unset] [(f12_y (own_cs v1491 v1527 v1562 v1597 v1632) s_GLOP s_CLP s_PDLP)]) s₁ (entryFrame m #[(.int p0), (.int p1), (.int p2), (.int p3), (.int p4), (.int p5)] maxLocals) := fun t k => pre1821 t (st1822.trans k)
     obtain ⟨w1858, hw1858⟩ : ∃ z : Value, z = (f12_y (own_cs v1491 v1527 v1562 v1597 v1632) s_GLOP s_CLP s_PDLP) := ⟨_, rfl⟩
     have pre1859 : own_P p e below T1822 (mkF m 148 #[vI p0, vI p1, vI p2, vI p3, vI p4, vI p5, vI v565, vR a1453, vI v1491, vI v1527, vI v1562, vI v1597, vI v1632, vR b1789, .unset] [w1858]) s₁ (entryFrame m #[(.int p0), (.int p1), (.int p2), (.int p3), (.int p4), (.int p5)] maxLocals) := by rw [hw1858]; exact pre1857
     have hr_w1858 : w1858.isRef = true := by rw [hw1858]; exact own_r_f12_y
     have pre1860 : own_P p e below T1822 (mkF m 152 #[vI p0, vI p1, vI p2, vI p3, vI p4, vI p5, vI v565, vR a1453, vI v1491, vI v1527, vI v1562, vI v1597, vI v1632, vR b1789, .val w1858] [(.ref b1789)]) s₁ (entryFrame m #[(.int p0), (.int p1), (.int p2), (.int p3), (.int p4), (.int p5)] maxLocals) := by
      intro t k
      refine pre1859 t ?_
      refine XS.astore X1822.here hx rfl (hb hby at_148) rfl (by first | exact hr_w1858 | rfl) (l' := #[vI p0, vI p1, vI p2, vI p3, vI p4, vI p5, vI v565, vR a1453, vI v1491, vI v1527, vI v1562, vI v1597, vI v1632, vR b1789, .val w1858]) (by rcases own_rc hr_w1858 with q | ⟨b, q⟩ <;> rw [q] <;> rfl) ?_
      refine XS.aload X1822.here hx rfl (hb hby at_150) rfl rfl ?_
      exact k
     obtain ⟨_, _, ⟨T1861, L1861, k1861, n1861⟩, -, X1861, ⟨Lc1861, hQ1861, l1861, y1861, z1861⟩, st1861⟩ := Jvm.LawKit.callS X1822 hx (y := (⟨"com/example/timely_exodus/timelyexodus/plan/LpSolver", "fromName", "(Ljava/lang/String;)Lcom/example/timely_exodus/timelyexodus/plan/LpSolver;"⟩ : MethodName)) ho1822 (mvT hZ1822 (own_w hw 69 rfl)) (mvT hZ1822 (own_w hw 70 rfl)) (mvT hZ1822 (own_w hw 71 rfl)) (mvT hZ1822 (own_w hw 72 rfl)) (by decide) (backOf (W := 0) (rm15_y l Z ar0 hw [] b1789 (own_cs v1491 v1527 v1562 v1597 v1632) gc1 b1789b kb1789b s__VALUES k__VALUES s_GLOP s_CLP s_PDLP n_GLOP t_GLOP k_t_GLOP n_CLP t_CLP k_t_CLP n_PDLP t_PDLP k_t_PDLP h1822 n0 Z1822 P5 (own_hpcs (by rw [hv1527]; exact own_Rf1_0 (by decide)) (by rw [hv1562]; exact own_Rf1_1 (by decide)) (by rw [hv1597]; exact own_Rf1_2 (by decide)) (by rw [hv1632]; exact own_Rf1_3 (by decide))) own_hlcs Sf1823 Ef1853 Ff1854 Ff1855 Vf1856 Sf1828 Vf1829 Ef1830 Ef1831 Ff1832 Ef1833 Ff1834 Ff1835 Vf1836 Ef1837 Ff1838 Ef1839 Ff1840 Ff1841 Vf1842 Ef1843 Ff1844 Ef1845 Ff1846 Ff1847 Vf1848) hZ1822 (own_w hw 72 rfl) (own_w hw 71 rfl) (by decide) (by decide)) (g := (mkF m 152 #[vI p0, vI p1, vI p2, vI p3, vI p4, vI p5, vI v565, vR a1453, vI v1491, vI v1527, vI v1562, vI v1597, vI v1632, vR b1789, .val w1858] [(.ref b1789)])) rfl (by rw [hml]; rfl) (argsL := [(.ref b1789)]) (rest := []) (lenOf pd_8 rfl) rfl (by show 2 * 0 + _ ≤ _; exact Nat.le_of_eq rfl) (hb hby at_152) (fun _ _ => ⟨rfl, e1822, (by decide : 22 + 1 ≤ _), (by decide : 184 + 3 ≤ _)⟩)
     dsimp only [Pt.U, Pt.locs, Pt.cells, Pt.slots] at X1861 l1861 y1861 z1861 st1861 hQ1861
     subst l1861 y1861 z1861
     obtain ⟨h1861, e1861⟩ : ∃ h, T1861.heap = h := ⟨_, rfl⟩
     rw [e1861] at hQ1861
     obtain ⟨rfl, N1861q, K1861q⟩ := hQ1861
     have N1861 := Fr.app N1822 N1861q
     have Z1861 : n0 ≤ h1861.size := Nat.le_trans Z1822 K1861q.1
     have hk1861 := Nat.le_trans hk1822 K1861q.1
     have K1861 : Keep h0 h1861 [] := K1822.trans K1861q (fun x hx => absurd hx List.not_mem_nil)
     have CR1861 := CR1822.trans (CHr.keep K1861q sf0 CR1822.1)
     have Sf1862 : Sta Z h1861 "java/lang/String" "COMPACT_STRINGS" "Z" (.int gc1) := own_sta_keep0 Sf1823 K1861q
     have Sf1863 : Sta Z h1861 "jdk/internal/util/Preconditions" "SIOOBE_FORMATTER" "Ljava/util/function/BiFunction;" gf3 := own_sta_keep0 Sf1824 K1861q
     have Sf1864 : Sta Z h1861 "com/example/timely_exodus/timelyexodus/plan/LpSolver" "GLOP" "Lcom/example/timely_exodus/timelyexodus/plan/LpSolver;" (.ref s_GLOP) := own_sta_keep0 Sf1825 K1861q
     have Sf1865 : Sta Z h1861 "com/example/timely_exodus/timelyexodus/plan/LpSolver" "CLP" "Lcom/example/timely_exodus/timelyexodus/plan/LpSolver;" (.ref s_CLP) := own_sta_keep0 Sf1826 K1861q
     have Sf1866 : Sta Z h1861 "com/example/timely_exodus/timelyexodus/plan/LpSolver" "PDLP" "Lcom/example/timely_exodus/timelyexodus/plan/LpSolver;" (.ref s_PDLP) := own_sta_keep0 Sf1827 K1861q
     have Sf1867 : Sta Z h1861 "com/example/timely_exodus/timelyexodus/plan/LpSolver" "$VALUES" "[Lcom/example/timely_exodus/timelyexodus/plan/LpSolver;" (.ref s__VALUES) := own_sta_keep0 Sf1828 K1861q
     have Vf1868 : Arv Z h1861 s__VALUES k__VALUES (.object "com/example/timely_exodus/timelyexodus/plan/LpSolver") (3 : Int32) [(.ref s_GLOP), (.ref s_CLP), (.ref s_PDLP)] .null := (Vf1829).keep K1861q List.not_mem_nil
     have Ef1869 : Exa Z h1861 s__VALUES "[Lcom/example/timely_exodus/timelyexodus/plan/LpSolver;" := (Ef1830).keep K1861q
     have Ef1870 : Exa Z h1861 s_GLOP "com/example/timely_exodus/timelyexodus/plan/LpSolver" := (Ef1831).keep K1861q
     have Ff1871 : Fld Z h1861 s_GLOP "com/example/timely_exodus/timelyexodus/plan/LpSolver" "name" "Ljava/lang/String;" (.ref n_GLOP) := (Ff1832).keep K1861q List.not_mem_nil
     have Ef1872 : Exa Z h1861 n_GLOP "java/lang/String" := (Ef1833).keep K1861q
     have Ff1873 : Fld Z h1861 n_GLOP "java/lang/String" "value" "[B" (.ref t_GLOP) := (Ff1834).keep K1861q List.not_mem_nil
     have Ff1874 : Fld Z h1861 n_GLOP "java/lang/String" "coder" "B" (.int 0) := (Ff1835).keep K1861q List.not_mem_nil
     have Vf1875 : Arv Z h1861 t_GLOP k_t_GLOP .byte (4 : Int32) ((([103, 108, 111, 112] : List Int32).map (fun c => c.toInt8.toInt32)).map Value.int) (.int 0) := (Vf1836).keep K1861q List.not_mem_nil
     have Ef1876 : Exa Z h1861 s_CLP "com/example/timely_exodus/timelyexodus/plan/LpSolver" := (Ef1837).keep K1861q
     have Ff1877 : Fld Z h1861 s_CLP "com/example/timely_exodus/timelyexodus/plan/LpSolver" "name" "Ljava/lang/String;" (.ref n_CLP) := (Ff1838).keep K1861q List.not_mem_nil
     have Ef1878 : Exa Z h1861 n_CLP "java/lang/String" := (Ef1839).keep K1861q
     have Ff1879 : Fld Z h1861 n_CLP "java/lang/String" "value" "[B" (.ref t_CLP) := (Ff1840).keep K1861q List.not_mem_nil
     have Ff1880 : Fld Z h1861 n_CLP "java/lang/String" "coder" "B" (.int 0) := (Ff1841).keep K1861q List.not_mem_nil
     have Vf1881 : Arv Z h1861 t_CLP k_t_CLP .byte (3 : Int32) ((([99, 108, 112] : List Int32).map (fun c => c.toInt8.toInt32)).map Value.int) (.int 0) := (Vf1842).keep K1861q List.not_mem_nil
     have Ef1882 : Exa Z h1861 s_PDLP "com/example/timely_exodus/timelyexodus/plan/LpSolver" := (Ef1843).keep K1861q
     have Ff1883 : Fld Z h1861 s_PDLP "com/example/timely_exodus/timelyexodus/plan/LpSolver" "name" "Ljava/lang/String;" (.ref n_PDLP) := (Ff1844).keep K1861q List.not_mem_nil
     have Ef1884 : Exa Z h1861 n_PDLP "java/lang/String" := (Ef1845).keep K1861q
     have Ff1885 : Fld Z h1861 n_PDLP "java/lang/String" "value" "[B" (.ref t_PDLP) := (Ff1846).keep K1861q List.not_mem_nil
     have Ff1886 : Fld Z h1861 n_PDLP "java/lang/String" "coder" "B" (.int 0) := (Ff1847).keep K1861q List.not_mem_nil
     have Vf1887 : Arv Z h1861 t_PDLP k_t_PDLP .byte (4 : Int32) ((([112, 100, 108, 112] : List Int32).map (fun c => c.toInt8.toInt32)).map Value.int) (.int 0) := (Vf1848).keep K1861q List.not_mem_nil
     have Ef1888 : Exa Z h1861 a1453 "java/lang/String" := (Ef1849).keep K1861q
     have Ff1889 : Fld Z h1861 a1453 "java/lang/String" "coder" "B" (.int 0) := (Ff1850).keep K1861q List.not_mem_nil
     have Ff1890 : Fld Z h1861 a1453 "java/lang/String" "value" "[B" (.ref b1453) := (Ff1851).keep K1861q List.not_mem_nil
     have Vf1891 : Arv Z h1861 b1453 kb1453 .byte (0 : Int32) ((([] : List Int32).map (fun c => c.toInt8.toInt32)).map Value.int) (.int 0) := (Vf1852).keep K1861q List.not_mem_nil
     have Ef1892 : Exa Z h1861 b1789 "java/lang/String" := (Ef1853).keep K1861q
     have Ff1893 : Fld Z h1861 b1789 "java/lang/String" "value" "[B" (.ref b1789b) := (Ff1854).keep K1861q List.not_mem_nil
     have Ff1894 : Fld Z h1861 b1789 "java/lang/String" "coder" "B" (.int 0) := (Ff1855).keep K1861q List.not_mem_nil
     have Vf1895 : Arv Z h1861 b1789b kb1789b .byte (Int32.ofNat (own_cs v1491 v1527 v1562 v1597 v1632).length) ((((own_cs v1491 v1527 v1562 v1597 v1632) : List Int32).map (fun c => c.toInt8.toInt32)).map Value.int) (.int 0) := (Vf1856).keep K1861q List.not_mem_nil
     have pre1896 : own_P p e below T1861 (mkF m 155 #[vI p0, vI p1, vI p2, vI p3, vI p4, vI p5, vI v565, vR a1453, vI v1491, vI v1527, vI v1562, vI v1597, vI v1632, vR b1789, .val w1858] [(f15_y (own_cs v1491 v1527 v1562 v1597 v1632) s_GLOP s_CLP s_PDLP)]) s₁ (entryFrame m #[(.int p0), (.int p1), (.int p2), (.int p3), (.int p4), (.int p5)] maxLocals) := fun t k => pre1860 t (st1861 t k)
     obtain ⟨w1897, hw1897⟩ : ∃ z : Value, z = (f15_y (own_cs v1491 v1527 v1562 v1597 v1632) s_GLOP s_CLP s_PDLP) := ⟨_, rfl⟩
     have pre1898 : own_P p e below T1861 (mkF m 155 #[vI p0, vI p1, vI p2, vI p3, vI p4, vI p5, vI v565, vR a1453, vI v1491, vI v1527, vI v1562, vI v1597, vI v1632, vR b1789, .val w1858] [w1897]) s₁ (entryFrame m #[(.int p0), (.int p1), (.int p2), (.int p3), (.int p4), (.int p5)] maxLocals) := by rw [hw1897]; exact pre1896
     have hr_w1897 : w1897.isRef = true := by rw [hw1897]; exact own_r_f15_y
     have pre1899 : own_P p e below T1861 (mkF m 157 #[vI p0, vI p1, vI p2, vI p3, vI p4, vI p5, vI v565, vR a1453, vI v1491, vI v1527, vI v1562, vI v1597, vI v1632, vR b1789, .val w1858] [w1858, w1897]) s₁ (entryFrame m #[(.int p0), (.int p1), (.int p2), (.int p3), (.int p4), (.int p5)] maxLocals) := by
      intro t k
      refine pre1898 t ?_
      refine XS.aload X1861.here hx rfl (hb hby at_155) rfl (by first | exact hr_w1858 | rfl) ?_
      exact k
     by_cases hc157_1900 : (w1897 : Value) = w1858
     ·
      obtain ⟨fs, hr, hrun, hended, hRW⟩ := X1861.leaveW (s := s) (vm₁ := T1822.vm) hS1822 (by rw [e1861]; first | exact hk1861 | exact Nat.le_refl _) (v := some (.int 1)) (fun h => by rw [Bd.returns] at h; cases h)
      refine ⟨_, _, pre1899 _ ?_, hrun, hended, _, _, rfl, ?_, hRW.1, hRW.2.1, hRW.2.2.1, hRW.2.2.2.mono (by decide) (by decide)⟩
      ·
       refine Jvm.RoadKit.acmp (g := (mkF m 157 #[vI p0, vI p1, vI p2, vI p3, vI p4, vI p5, vI v565, vR a1453, vI v1491, vI v1527, vI v1562, vI v1597, vI v1632, vR b1789, .val w1858] [w1858, w1897])) X1861 hx rfl hr_w1897 hr_w1858 (pc0 := 157) (pc' := 160) (same := true) rfl (hb hby at_157) rfl (decide_eq_true hc157_1900) (by decide) (by decide) ?_
       refine XS.iconst X1861.here hx rfl (hb hby at_160) ?_
       refine XS.goto X1861.here hx rfl (pc0 := 161) (pc' := 165) rfl (hb hby at_161) (by decide) (by decide) ?_
       exact retN X1861 hx (t := .boolean) Bd.returns (by simp) (hb hby at_165) hr
      ·
       show Q0 Z p0 p1 p2 p3 p4 p5 gc1 gf3 s_GLOP s_CLP s_PDLP s__VALUES k__VALUES n_GLOP t_GLOP k_t_GLOP n_CLP t_CLP k_t_CLP n_PDLP t_PDLP k_t_PDLP h0 n0 _ T1861.heap _
       rw [e1861]
       exact ⟨rfl, N1861⟩
     ·
      have pre1901 : ∀ t, Steps p.tables e below (T1861.setTop (mkF m 165 #[vI p0, vI p1, vI p2, vI p3, vI p4, vI p5, vI v565, vR a1453, vI v1491, vI v1527, vI v1562, vI v1597, vI v1632, vR b1789, .val w1858] [(.int 0)])) t → Steps p.tables e below (s₁.setTop (entryFrame m #[(.int p0), (.int p1), (.int p2), (.int p3), (.int p4), (.int p5)] maxLocals)) t := by
       intro t k
       refine pre1899 t ?_
       refine Jvm.RoadKit.acmp (g := (mkF m 157 #[vI p0, vI p1, vI p2, vI p3, vI p4, vI p5, vI v565, vR a1453, vI v1491, vI v1527, vI v1562, vI v1597, vI v1632, vR b1789, .val w1858] [w1858, w1897])) X1861 hx rfl hr_w1897 hr_w1858 (pc0 := 157) (pc' := 164) (same := false) rfl (hb hby at_157) rfl (decide_eq_false hc157_1900) (by decide) (by decide) ?_
       refine XS.iconst X1861.here hx rfl (hb hby at_164) ?_
       exact k
      exact (own_leaf5 rG3 P5 hv565 hc8_568 hc19_863 hc30_1158 hv1491 hv1527 hv1562 hv1597 hv1632 hc114_1635 hw1858 hw1897 hc157_1900).elim
set_option maxRecDepth 65536 in
set_option maxHeartbeats 40000000 in
theorem comes_1 {Post : Tables → Env → Array Value → State → Outcome → State → Prop} (hpost : ∀ tb e args s v u, (limb_1_1.after args s (.returned v) u = true ∧ limb_1_2.after args s (.returned v) u = true ∧ True) → ReturnedEndW s (.returned v) u (Jvm.fieldLocs frame_1_writes args s ++ Jvm.arrayLocs frame_1_arrays args s ++ Jvm.staticLocs frame_1_statics s) 32 6272 → Post tb e args s (.returned v) u) :
  ArmFor flags0 classFile x code maxLocals ret World_1 tables_1 room_1 Calls_1 rest_1 Pre_1 Post := by
 intro l hfl _ _ p e ha hc hk s m args below hf hA hF happ hP
 obtain ⟨hcalls, hrest, hpre⟩ := hP
 obtain ⟨-, -, -, hnamed, -, -, -, hat⟩ := (Spec.applies_iff hf).mp happ
 obtain ⟨hg, hn⟩ := and_e (Cond.before_iff.mp (show (Jvm.Cond.and given_1 narrow_1).before args s = true from hpre))
 obtain ⟨hcount, hg0⟩ := and_e hg
 obtain ⟨ha0, hg1⟩ := and_e hg0
 obtain ⟨ha1, hg2⟩ := and_e hg1
 obtain ⟨ha2, hg3⟩ := and_e hg2
 obtain ⟨ha3, hg4⟩ := and_e hg3
 obtain ⟨ha4, hg5⟩ := and_e hg4
 have ha5 := hg5
 obtain ⟨w0, w1, w2, w3, w4, w5, rfl⟩ : ∃ w0 w1 w2 w3 w4 w5 : Value, args = #[w0, w1, w2, w3, w4, w5] := by
  have hs : args.size = 6 := by simpa [Cond.value, given_1] using hcount
  obtain ⟨L⟩ := args
  match L, hs with
  | [w0, w1, w2, w3, w4, w5], _ => exact ⟨w0, w1, w2, w3, w4, w5, rfl⟩
 have hw := fun d (hd : d ∈ tables_1) => atoms_spec (ws := Jvm.Cond.code x code maxLocals ret :: tables_1) hat d (List.mem_cons_of_mem _ hd)
 have hfit : Fit s := fun {y c} hc i hi => by
  obtain ⟨ha, rfl⟩ := Array.getElem?_eq_some_iff.mp hc
  have q := List.all_eq_true.mp ((Array.all_eq_true_iff_forall_mem.mp hF) _ (Array.getElem_mem ha)) i (List.mem_range.mpr hi)
  simpa [Array.getElem?_eq_getElem hi] using q
 obtain ⟨hsets, hown0⟩ := atoms_of _ (rest_1_c_eq ▸ (show rest_1_c.before _ s = true from hrest))
 have hr0 := Cond.before_iff.mp hown0
 obtain ⟨i0, ei0⟩ := is_v ha0
 obtain rfl : w0 = (.int i0) := Option.some.inj ei0
 obtain ⟨i1, ei1⟩ := is_v ha1
 obtain rfl : w1 = (.int i1) := Option.some.inj ei1
 obtain ⟨i2, ei2⟩ := is_v ha2
 obtain rfl : w2 = (.int i2) := Option.some.inj ei2
 obtain ⟨i3, ei3⟩ := is_v ha3
 obtain rfl : w3 = (.int i3) := Option.some.inj ei3
 obtain ⟨i4, ei4⟩ := is_v ha4
 obtain rfl : w4 = (.int i4) := Option.some.inj ei4
 obtain ⟨i5, ei5⟩ := is_v ha5
 obtain rfl : w5 = (.int i5) := Option.some.inj ei5
 obtain ⟨hn1a, hn1b⟩ := and_e hn
 obtain ⟨s__VALUES, hs__VALUES⟩ := arr_v hn1a
 have S__VALUES := Sta.start hs__VALUES (Or.inl (own_w hw 88 rfl))
 obtain ⟨cl_s__VALUES, A_s__VALUES⟩ := Arr.start hs__VALUES hn1a
 obtain ⟨hn2a, hn2b⟩ := and_e hn1b
 have E_s__VALUES := Exa.start hs__VALUES hn2a
 obtain ⟨hn3a, hn3b⟩ := and_e hn2b
 obtain ⟨hn4a, hn4b⟩ := and_e hn3b
 obtain ⟨s_GLOP, hs_GLOP⟩ := exa_v hn4a
 have S_GLOP := Sta.start hs_GLOP (Or.inr ⟨(own_w hw 71 rfl), (own_w hw 85 rfl)⟩)
 have E_s_GLOP := Exa.start hs_GLOP hn4a
 obtain ⟨hn5a, hn5b⟩ := and_e hn4b
 have el0_s__VALUES := own_elR A_s__VALUES hs__VALUES hs_GLOP hn5a
 obtain ⟨hn6a, hn6b⟩ := and_e hn5b
 obtain ⟨s_CLP, hs_CLP⟩ := exa_v hn6a
 have S_CLP := Sta.start hs_CLP (Or.inr ⟨(own_w hw 71 rfl), (own_w hw 86 rfl)⟩)
 have E_s_CLP := Exa.start hs_CLP hn6a
 obtain ⟨hn7a, hn7b⟩ := and_e hn6b
 have el1_s__VALUES := own_elR A_s__VALUES hs__VALUES hs_CLP hn7a
 obtain ⟨hn8a, hn8b⟩ := and_e hn7b
 obtain ⟨s_PDLP, hs_PDLP⟩ := exa_v hn8a
 have S_PDLP := Sta.start hs_PDLP (Or.inr ⟨(own_w hw 71 rfl), (own_w hw 87 rfl)⟩)
 have E_s_PDLP := Exa.start hs_PDLP hn8a
 obtain ⟨hn9a, hn9b⟩ := and_e hn8b
 have el2_s__VALUES := own_elR A_s__VALUES hs__VALUES hs_PDLP hn9a
 obtain ⟨hn10a, hn10b⟩ := and_e hn9b
 obtain ⟨n_GLOP, hn_GLOP⟩ := exa_v hn10a
 have E_n_GLOP := Exa.start hn_GLOP hn10a
 have F_name_s_GLOP := Fld.start ((fld_at hs_GLOP).symm.trans hn_GLOP)
 obtain ⟨hn11a, hn11b⟩ := and_e hn10b
 have F_coder_n_GLOP := Fld.start ((fld_at hn_GLOP).symm.trans (own_eqI hn11a))
 obtain ⟨hn12a, hn12b⟩ := and_e hn11b
 obtain ⟨t_GLOP, ht_GLOP⟩ := arr_v hn12a
 obtain ⟨cl_GLOP, A_t_GLOP⟩ := Arr.start ht_GLOP hn12a
 have F_value_n_GLOP := Fld.start ((fld_at hn_GLOP).symm.trans ht_GLOP)
 obtain ⟨hn13a, hn13b⟩ := and_e hn12b
 obtain ⟨hlt_GLOP, hsz_GLOP⟩ := own_len ht_GLOP (A_t_GLOP.fin (Vm.Alike.refl _)) (own_eqI hn13a)
 obtain ⟨hn14a, hn14b⟩ := and_e hn13b
 obtain ⟨n_CLP, hn_CLP⟩ := exa_v hn14a
 have E_n_CLP := Exa.start hn_CLP hn14a
 have F_name_s_CLP := Fld.start ((fld_at hs_CLP).symm.trans hn_CLP)
 obtain ⟨hn15a, hn15b⟩ := and_e hn14b
 have F_coder_n_CLP := Fld.start ((fld_at hn_CLP).symm.trans (own_eqI hn15a))
 obtain ⟨hn16a, hn16b⟩ := and_e hn15b
 obtain ⟨t_CLP, ht_CLP⟩ := arr_v hn16a
 obtain ⟨cl_CLP, A_t_CLP⟩ := Arr.start ht_CLP hn16a
 have F_value_n_CLP := Fld.start ((fld_at hn_CLP).symm.trans ht_CLP)
 obtain ⟨hn17a, hn17b⟩ := and_e hn16b
 obtain ⟨hlt_CLP, hsz_CLP⟩ := own_len ht_CLP (A_t_CLP.fin (Vm.Alike.refl _)) (own_eqI hn17a)
 obtain ⟨hn18a, hn18b⟩ := and_e hn17b
 have el0_CLP := own_elI A_t_CLP ht_CLP hn18a
 obtain ⟨hn19a, hn19b⟩ := and_e hn18b
 obtain ⟨n_PDLP, hn_PDLP⟩ := exa_v hn19a
 have E_n_PDLP := Exa.start hn_PDLP hn19a
 have F_name_s_PDLP := Fld.start ((fld_at hs_PDLP).symm.trans hn_PDLP)
 obtain ⟨hn20a, hn20b⟩ := and_e hn19b
 have F_coder_n_PDLP := Fld.start ((fld_at hn_PDLP).symm.trans (own_eqI hn20a))
 obtain ⟨hn21a, hn21b⟩ := and_e hn20b
 obtain ⟨t_PDLP, ht_PDLP⟩ := arr_v hn21a
 obtain ⟨cl_PDLP, A_t_PDLP⟩ := Arr.start ht_PDLP hn21a
 have F_value_n_PDLP := Fld.start ((fld_at hn_PDLP).symm.trans ht_PDLP)
 obtain ⟨hn22a, hn22b⟩ := and_e hn21b
 obtain ⟨hlt_PDLP, hsz_PDLP⟩ := own_len ht_PDLP (A_t_PDLP.fin (Vm.Alike.refl _)) (own_eqI hn22a)
 obtain ⟨hn23a, hn23b⟩ := and_e hn22b
 have el0_GLOP := own_elI A_t_GLOP ht_GLOP hn23a
 obtain ⟨hn24a, hn24b⟩ := and_e hn23b
 have el0_PDLP := own_elI A_t_PDLP ht_PDLP hn24a
 obtain ⟨hn25a, hn25b⟩ := and_e hn24b
 have el1_CLP := own_elI A_t_CLP ht_CLP hn25a
 obtain ⟨hn26a, hn26b⟩ := and_e hn25b
 have el2_CLP := own_elI A_t_CLP ht_CLP hn26a
 obtain ⟨hn27a, hn27b⟩ := and_e hn26b
 have el1_PDLP := own_elI A_t_PDLP ht_PDLP hn27a
 obtain ⟨hn28a, hn28b⟩ := and_e hn27b
 have el2_PDLP := own_elI A_t_PDLP ht_PDLP hn28a
 obtain ⟨hn29a, hn29b⟩ := and_e hn28b
 have el3_PDLP := own_elI A_t_PDLP ht_PDLP hn29a
 obtain ⟨hn30a, hn30b⟩ := and_e hn29b
 have el1_GLOP := own_elI A_t_GLOP ht_GLOP hn30a
 obtain ⟨hn31a, hn31b⟩ := and_e hn30b
 have el2_GLOP := own_elI A_t_GLOP ht_GLOP hn31a
 have el3_GLOP := own_elI A_t_GLOP ht_GLOP hn31b
 obtain ⟨hlt_s__VALUES, hsz_s__VALUES⟩ := own_len hs__VALUES (A_s__VALUES.fin (Vm.Alike.refl _)) (own_eqI hn3a)
 have V_s__VALUES : Arv s s.heap s__VALUES cl_s__VALUES.cls _ (3 : Int32) [(.ref s_GLOP), (.ref s_CLP), (.ref s_PDLP)] .null := Arv.start hfit A_s__VALUES hlt_s__VALUES hsz_s__VALUES (by decide) rfl ⟨el0_s__VALUES, el1_s__VALUES, el2_s__VALUES, trivial⟩
 have B_t_GLOP : Arv s s.heap t_GLOP cl_GLOP.cls .byte (4 : Int32) [(.int 103), (.int 108), (.int 111), (.int 112)] (.int 0) := Arv.start hfit A_t_GLOP hlt_GLOP hsz_GLOP (by decide) rfl ⟨el0_GLOP, el1_GLOP, el2_GLOP, el3_GLOP, trivial⟩
 have B_t_CLP : Arv s s.heap t_CLP cl_CLP.cls .byte (3 : Int32) [(.int 99), (.int 108), (.int 112)] (.int 0) := Arv.start hfit A_t_CLP hlt_CLP hsz_CLP (by decide) rfl ⟨el0_CLP, el1_CLP, el2_CLP, trivial⟩
 have B_t_PDLP : Arv s s.heap t_PDLP cl_PDLP.cls .byte (4 : Int32) [(.int 112), (.int 100), (.int 108), (.int 112)] (.int 0) := Arv.start hfit A_t_PDLP hlt_PDLP hsz_PDLP (by decide) rfl ⟨el0_PDLP, el1_PDLP, el2_PDLP, el3_PDLP, trivial⟩
 have hj0 := hsets _ (List.mem_of_getElem? (i := 0) rfl)
 have hj1 := Cond.before_iff.mp (hsets _ (List.mem_of_getElem? (i := 1) rfl))
 have hj2 := Cond.before_iff.mp (hsets _ (List.mem_of_getElem? (i := 2) rfl))
 have hj7 := hsets _ (List.mem_of_getElem? (i := 7) rfl)
 have hj8 := Cond.before_iff.mp (hsets _ (List.mem_of_getElem? (i := 8) rfl))
 obtain ⟨gc1, hG1⟩ := is_v hj1
 have S1 := Sta.start hG1 (Or.inl hj0)
 have P5 := own_neI hG1 hj2
 obtain ⟨gf3, hG3, rG3⟩ := isR_v hj8
 have S2 := Sta.start hG3 (Or.inl hj7)
 have hCH : CHv s own_EL s.vm s.heap := CHv.start (own_EW hw) (fun p hp => hcalls.1 p ((by decide : ∀ p ∈ own_EL, p ∈ consts_1) p hp)) (hsets _ (List.mem_of_getElem? (i := 2) rfl)) (own_strW hw _ (by decide)) (own_strW hw _ (by decide))
 obtain ⟨n, o, h1, h2, h3, _, L, rfl, ⟨rfl, N⟩, hq⟩ := rm0 l s _ hw tables_1 i0 i1 i2 i3 i4 i5 gc1 gf3 s_GLOP s_CLP s_PDLP s__VALUES cl_s__VALUES.cls n_GLOP t_GLOP cl_GLOP.cls n_CLP t_CLP cl_CLP.cls n_PDLP t_PDLP cl_PDLP.cls s.heap s.heap.size (Nat.le_refl _) P5 rG3 S1 S2 S_GLOP S_CLP S_PDLP S__VALUES V_s__VALUES E_s__VALUES E_s_GLOP F_name_s_GLOP E_n_GLOP F_value_n_GLOP F_coder_n_GLOP B_t_GLOP E_s_CLP F_name_s_CLP E_n_CLP F_value_n_CLP F_coder_n_CLP B_t_CLP E_s_PDLP F_name_s_PDLP E_n_PDLP F_value_n_PDLP F_coder_n_PDLP B_t_PDLP p e ha hc hk s m _ below hf ((Spec.applies_iff_loose hf).mp happ).1 ⟨rfl, State.Warmed39.refl s, rfl, hCH⟩ trivial
 refine ⟨n, _, h1, h2, h3, hpost _ _ _ _ _ _ ⟨Cond.after_iff.mpr rfl, Cond.after_iff.mpr (eq_i res_at (Term.int_eval (1)) rfl), trivial⟩ ⟨hq.1, hq.2.1, hq.2.2.1, (hq.2.2.2.sift fun y hy => Or.inr (N y hy)).mono (by decide) (by decide)⟩⟩
theorem main_1_1 : Claimed_1_1 := comes_1 fun _ _ _ _ _ _ h hF => ⟨h.1, hF⟩
theorem main_1_2 : Claimed_1_2 := comes_1 fun _ _ _ _ _ _ h hF => ⟨h.2.1, hF⟩
end Jvm.Pilot.@@N@@
namespace Jvm.Pilot.@@N@@
open Jvm Jvm.ClassFile Sem Op Lib Jvm.Free Jvm.Stand Jvm.Pilot.@@N@@.Jvm.D
/-! MADE BY PROGRAM (witnessworld.py) out of the Statement's table words and the real class files: 22 classes; the members and pool entries that the words name. The judged class is class 1, her method 1. -/
namespace start1
open Jvm.ClassFile
def u (s : String) : CpInfo := .utf8 (stringToUtf16 s)
/-- a pool by its gaps: so many unusable entries, then the entry; so many at the end -/
def gap : Nat → List CpInfo → List CpInfo
  | 0, r => r
  | n + 1, r => .unusable :: gap n r
def poolList (es : List (Nat × CpInfo)) (last : Nat) : List CpInfo := es.foldr (fun e r => gap e.1 (e.2 :: r)) (gap last [])
def pool (es : List (Nat × CpInfo)) (last : Nat) : Array CpInfo := ⟨poolList es last⟩
def fileOf (pool : Array CpInfo) (this : Nat) (attrs : Array Attribute := #[]) (ms : Array MethodInfo := #[]) (fl : Nat := 33) (sup : Nat := 0) (ifs : Array Nat := #[]) (fds : Array FieldInfo := #[]) : ClassFile where
  minorVersion := 0
  majorVersion := 65
  constantPool := pool
  accessFlags := fl
  thisClass := this
  superClass := sup
  interfaces := ifs
  fields := fds
  methods := ms
  attributes := attrs
def plain (name : String) (sup : Option ClassId) : Class where
  name := name
  kind := .ordinary
  loader := none
  accessFlags := 33
  super := sup
  interfaces := #[]
  cf := none
  fields := #[]
  methods := #[]
  instanceTypes := #[]
  staticTypes := #[]
  resolved := #[]
  callSites := []
  init := .initialized
  statics := none
  mirror := none

def pool0 : Array CpInfo := pool [(5, u "<init>"), (0, u "()V"), (1, .class_ 10), (1, u "java/lang/Object"), (85, u "clone"), (0, u "()Ljava/lang/Object;")] 26

def k0c0 : Code := { maxStack := 0, maxLocals := 1, code := object_method_1_code, exceptionTable := #[], attributes := #[] }
def k0m0 : Method := { name := "<init>", desc := "()V", sig := { parameters := [], returnType := none }, accessFlags := 1, code := some k0c0 }
def k0m1 : Method := { name := "clone", desc := "()Ljava/lang/Object;", sig := { parameters := [], returnType := some (.object "java/lang/Object") }, accessFlags := 260, code := none }
/-- java/lang/Object -/
def k0 : Class := { plain "java/lang/Object" none with
  accessFlags := 33
  interfaces := #[]
  cf := some (fileOf pool0 8 #[] #[{ accessFlags := 1, nameIndex := 5, descriptorIndex := 6, attributes := #[] }, { accessFlags := 260, nameIndex := 96, descriptorIndex := 97, attributes := #[] }] 33 0 #[] #[])
  fields := #[]
  methods := #[k0m0, k0m1]
  instanceTypes := #[]
  staticTypes := #[]
  resolved := Array.replicate 124 none
  statics := none }

def pool1 : Array CpInfo := pool [(2, .class_ 4), (1, u "java/lang/Object"), (0, u "<init>"), (0, u "()V"), (0, .string 8), (0, u "glop"), (0, .string 10), (0, u "clp"), (0, .string 12), (0, u "pdlp"), (0, .string 14), (0, u ""), (0, .methodref 16 17), (0, .class_ 18), (0, .nameAndType 19 20), (0, u "java/lang/String"), (0, u "length"), (0, u "()I"), (0, .methodref 22 23), (0, .class_ 24), (0, .nameAndType 25 26), (0, u "com/example/timely_exodus/timelyexodus/plan/LpSolverFromNamePinLaw"), (0, u "ch"), (0, u "(ILjava/lang/String;II)C"), (0, .methodref 22 28), (0, .nameAndType 29 30), (0, u "make"), (0, u "(ICCCC)Ljava/lang/String;"), (0, .methodref 22 32), (0, .nameAndType 33 34), (0, u "ref"), (0, u "(Ljava/lang/String;)Lcom/example/timely_exodus/timelyexodus/plan/LpSolver;"), (0, .methodref 36 37), (0, .class_ 38), (0, .nameAndType 39 34), (0, u "com/example/timely_exodus/timelyexodus/plan/LpSolver"), (0, u "fromName"), (0, .methodref 16 41), (0, .nameAndType 42 43), (0, u "equals"), (0, u "(Ljava/lang/Object;)Z"), (0, .fieldref 36 45), (0, .nameAndType 46 47), (0, u "GLOP"), (0, u "Lcom/example/timely_exodus/timelyexodus/plan/LpSolver;"), (0, .fieldref 36 49), (0, .nameAndType 50 47), (0, u "CLP"), (0, .fieldref 36 52), (0, .nameAndType 53 47), (0, u "PDLP"), (0, .methodref 16 55), (0, .nameAndType 56 57), (0, u "charAt"), (0, u "(I)C"), (0, .methodref 22 59), (0, .nameAndType 60 57), (0, u "pick"), (0, .string 62), (0, u "glopcd"), (0, .methodref 16 64), (0, .nameAndType 5 65), (0, u "([C)V"), (2, u "law"), (0, u "(IIIIII)Z")] 3

def k1m0 : Method := { name := "<init>", desc := "()V", sig := { parameters := [], returnType := none }, accessFlags := 1, code := none }
def k1c1 : Code := { maxStack := 5, maxLocals := 15, code := code, exceptionTable := #[], attributes := #[] }
def k1m1 : Method := { name := "law", desc := "(IIIIII)Z", sig := { parameters := [.int, .int, .int, .int, .int, .int], returnType := some .boolean }, accessFlags := 9, code := some k1c1 }
def k1c2 : Code := { maxStack := 2, maxLocals := 1, code := method_3_code, exceptionTable := #[], attributes := #[] }
def k1m2 : Method := { name := "ref", desc := "(Ljava/lang/String;)Lcom/example/timely_exodus/timelyexodus/plan/LpSolver;", sig := { parameters := [(.object "java/lang/String")], returnType := some (.object "com/example/timely_exodus/timelyexodus/plan/LpSolver") }, accessFlags := 10, code := some k1c2 }
def k1c3 : Code := { maxStack := 3, maxLocals := 4, code := method_4_code, exceptionTable := #[], attributes := #[] }
def k1m3 : Method := { name := "ch", desc := "(ILjava/lang/String;II)C", sig := { parameters := [.int, (.object "java/lang/String"), .int, .int], returnType := some .char }, accessFlags := 10, code := some k1c3 }
def k1c4 : Code := { maxStack := 3, maxLocals := 2, code := method_5_code, exceptionTable := #[], attributes := #[] }
def k1m4 : Method := { name := "pick", desc := "(I)C", sig := { parameters := [.int], returnType := some .char }, accessFlags := 10, code := some k1c4 }
def k1c5 : Code := { maxStack := 6, maxLocals := 5, code := method_6_code, exceptionTable := #[], attributes := #[] }
def k1m5 : Method := { name := "make", desc := "(ICCCC)Ljava/lang/String;", sig := { parameters := [.int, .char, .char, .char, .char], returnType := some (.object "java/lang/String") }, accessFlags := 10, code := some k1c5 }
/-- com/example/timely_exodus/timelyexodus/plan/LpSolverFromNamePinLaw -/
def k1 : Class := { plain "com/example/timely_exodus/timelyexodus/plan/LpSolverFromNamePinLaw" (some 0) with
  accessFlags := 49
  interfaces := #[]
  cf := some (fileOf pool1 22 #[] #[{ accessFlags := 1, nameIndex := 5, descriptorIndex := 6, attributes := #[] }, { accessFlags := 9, nameIndex := 68, descriptorIndex := 69, attributes := #[] }, { accessFlags := 10, nameIndex := 33, descriptorIndex := 34, attributes := #[] }, { accessFlags := 10, nameIndex := 25, descriptorIndex := 26, attributes := #[] }, { accessFlags := 10, nameIndex := 60, descriptorIndex := 57, attributes := #[] }, { accessFlags := 10, nameIndex := 29, descriptorIndex := 30, attributes := #[] }] 49 2 #[] #[])
  fields := #[]
  methods := #[k1m0, k1m1, k1m2, k1m3, k1m4, k1m5]
  instanceTypes := #[]
  staticTypes := #[]
  resolved := Array.replicate 73 none
  statics := none }

def pool2 : Array CpInfo := pool [(1, .class_ 2), (0, u "java/io/Serializable"), (0, .class_ 4), (0, u "java/lang/Object")] 2

/-- java/io/Serializable -/
def k2 : Class := { plain "java/io/Serializable" (some 0) with
  accessFlags := 1537
  interfaces := #[]
  cf := some (fileOf pool2 1 #[] #[] 1537 3 #[] #[])
  fields := #[]
  methods := #[]
  instanceTypes := #[]
  staticTypes := #[]
  resolved := Array.replicate 7 none
  statics := none }

def pool3 : Array CpInfo := pool [(1, .class_ 2), (0, u "java/lang/Comparable"), (0, .class_ 4), (0, u "java/lang/Object")] 7

/-- java/lang/Comparable -/
def k3 : Class := { plain "java/lang/Comparable" (some 0) with
  accessFlags := 1537
  interfaces := #[]
  cf := some (fileOf pool3 1 #[] #[] 1537 3 #[] #[])
  fields := #[]
  methods := #[]
  instanceTypes := #[]
  staticTypes := #[]
  resolved := Array.replicate 12 none
  statics := none }

def pool4 : Array CpInfo := pool [(2, .class_ 4), (1, u "java/lang/CharSequence"), (42, .class_ 48), (0, u "java/lang/CharSequence$1CodePointIterator"), (10, .class_ 60), (0, u "java/lang/CharSequence$1CharIterator"), (5, .class_ 67), (0, u "java/lang/Object")] 63

/-- java/lang/CharSequence -/
def k4 : Class := { plain "java/lang/CharSequence" (some 0) with
  accessFlags := 1537
  interfaces := #[]
  cf := some (fileOf pool4 2 #[.nestMembers #[47, 59]] #[] 1537 66 #[] #[])
  fields := #[]
  methods := #[]
  instanceTypes := #[]
  staticTypes := #[]
  resolved := Array.replicate 131 none
  statics := none }

def pool5 : Array CpInfo := pool [(1, .class_ 2), (0, u "java/lang/constant/Constable"), (0, .class_ 4), (0, u "java/lang/Object")] 6

/-- java/lang/constant/Constable -/
def k5 : Class := { plain "java/lang/constant/Constable" (some 0) with
  accessFlags := 1537
  interfaces := #[]
  cf := some (fileOf pool5 1 #[] #[] 1537 3 #[] #[])
  fields := #[]
  methods := #[]
  instanceTypes := #[]
  staticTypes := #[]
  resolved := Array.replicate 11 none
  statics := none }

def pool6 : Array CpInfo := pool [(1, .class_ 2), (0, u "java/lang/constant/ConstantDesc"), (0, .class_ 4), (0, u "java/lang/Object")] 32

/-- java/lang/constant/ConstantDesc -/
def k6 : Class := { plain "java/lang/constant/ConstantDesc" (some 0) with
  accessFlags := 1537
  interfaces := #[]
  cf := some (fileOf pool6 1 #[] #[] 1537 3 #[] #[])
  fields := #[]
  methods := #[]
  instanceTypes := #[]
  staticTypes := #[]
  resolved := Array.replicate 37 none
  statics := none }

def pool7 : Array CpInfo := pool [(1, .methodref 2 3), (0, .class_ 4), (0, .nameAndType 5 6), (0, u "java/lang/Object"), (0, u "<init>"), (0, u "()V"), (0, .string 8), (0, u ""), (0, .fieldref 10 11), (0, .class_ 12), (0, .nameAndType 13 14), (0, u "java/lang/String"), (0, u "value"), (0, u "[B"), (0, .fieldref 10 16), (0, .nameAndType 17 18), (0, u "coder"), (0, u "B"), (2, u "hash"), (0, u "I"), (2, u "hashIsZero"), (0, u "Z"), (0, .methodref 10 28), (0, .nameAndType 5 29), (0, u "([CIILjava/lang/Void;)V"), (8, .fieldref 10 39), (0, .nameAndType 40 26), (0, u "COMPACT_STRINGS"), (1, .class_ 44), (1, u "java/lang/StringUTF16"), (0, u "compress"), (1, .methodref 42 48), (0, .nameAndType 49 50), (0, u "coderFromArrayLen"), (0, u "([BI)B"), (56, .class_ 109), (1, u "java/lang/StringLatin1"), (32, u "()Z"), (34, .methodref 42 178), (0, .nameAndType 45 179), (0, u "([CII)[B"), (154, u "()I"), (0, .methodref 10 336), (0, .nameAndType 17 337), (0, u "()B"), (25, u "([BI)C"), (27, u "(II)V"), (35, u "(I)C"), (64, .methodref 10 493), (0, .nameAndType 494 142), (0, u "isLatin1"), (0, .methodref 107 496), (0, .nameAndType 497 363), (0, u "charAt"), (3, u "checkIndex"), (5, u "length"), (33, .methodref 107 542), (0, .nameAndType 543 544), (0, u "equals"), (0, u "([B[B)Z"), (28, u "(Ljava/lang/Object;)Z"), (1, .class_ 576), (0, u "java/lang/CharSequence"), (22, u "CASE_INSENSITIVE_ORDER"), (0, u "Ljava/util/Comparator;"), (409, u "([C)V"), (42, .fieldref 1054 1055), (0, .class_ 1056), (0, .nameAndType 1057 1058), (0, u "jdk/internal/util/Preconditions"), (0, u "SIOOBE_FORMATTER"), (0, u "Ljava/util/function/BiFunction;"), (0, .methodref 1054 1060), (0, .nameAndType 501 1061), (0, u "(IILjava/util/function/BiFunction;)I"), (39, u "serialPersistentFields"), (0, u "[Ljava/io/ObjectStreamField;"), (0, .class_ 1104), (0, u "java/lang/String$CaseInsensitiveComparator"), (1, .class_ 1107), (0, u "java/io/Serializable"), (0, .class_ 1109), (0, u "java/lang/Comparable"), (0, .class_ 1111), (0, u "java/lang/constant/Constable"), (0, .class_ 1113), (0, u "java/lang/constant/ConstantDesc"), (2, u "serialVersionUID"), (0, u "J"), (3, u "REPL"), (0, u "C"), (2, u "LATIN1"), (1, u "UTF16")] 323

def k7m0 : Method := { name := "<init>", desc := "()V", sig := { parameters := [], returnType := none }, accessFlags := 1, code := none }
def k7c1 : Code := { maxStack := 5, maxLocals := 2, code := jdk_42_method_3_code, exceptionTable := #[], attributes := #[] }
def k7m1 : Method := { name := "<init>", desc := "([C)V", sig := { parameters := [(.array .char)], returnType := none }, accessFlags := 1, code := some k7c1 }
def k7c2 : Code := { maxStack := 2, maxLocals := 1, code := jdk_42_method_54_code, exceptionTable := #[], attributes := #[] }
def k7m2 : Method := { name := "length", desc := "()I", sig := { parameters := [], returnType := some .int }, accessFlags := 1, code := some k7c2 }
def k7c3 : Code := { maxStack := 2, maxLocals := 2, code := jdk_42_method_56_code, exceptionTable := #[], attributes := #[] }
def k7m3 : Method := { name := "charAt", desc := "(I)C", sig := { parameters := [.int], returnType := some .char }, accessFlags := 1, code := some k7c3 }
def k7c4 : Code := { maxStack := 2, maxLocals := 3, code := jdk_42_method_66_code, exceptionTable := #[], attributes := #[] }
def k7m4 : Method := { name := "equals", desc := "(Ljava/lang/Object;)Z", sig := { parameters := [(.object "java/lang/Object")], returnType := some .boolean }, accessFlags := 1, code := some k7c4 }
def k7c5 : Code := { maxStack := 4, maxLocals := 6, code := jdk_42_method_149_code, exceptionTable := #[], attributes := #[] }
def k7m5 : Method := { name := "<init>", desc := "([CIILjava/lang/Void;)V", sig := { parameters := [(.array .char), .int, .int, (.object "java/lang/Void")], returnType := none }, accessFlags := 2, code := some k7c5 }
def k7c6 : Code := { maxStack := 1, maxLocals := 1, code := jdk_42_method_152_code, exceptionTable := #[], attributes := #[] }
def k7m6 : Method := { name := "coder", desc := "()B", sig := { parameters := [], returnType := some .byte }, accessFlags := 0, code := some k7c6 }
def k7c7 : Code := { maxStack := 1, maxLocals := 1, code := jdk_42_method_154_code, exceptionTable := #[], attributes := #[] }
def k7m7 : Method := { name := "isLatin1", desc := "()Z", sig := { parameters := [], returnType := some .boolean }, accessFlags := 0, code := some k7c7 }
def k7c8 : Code := { maxStack := 3, maxLocals := 2, code := jdk_42_method_155_code, exceptionTable := #[], attributes := #[] }
def k7m8 : Method := { name := "checkIndex", desc := "(II)V", sig := { parameters := [.int, .int], returnType := none }, accessFlags := 8, code := some k7c8 }
/-- java/lang/String -/
def k7 : Class := { plain "java/lang/String" (some 0) with
  accessFlags := 49
  interfaces := #[2, 3, 4, 5, 6]
  cf := some (fileOf pool7 10 #[.nestMembers #[1103]] #[{ accessFlags := 1, nameIndex := 5, descriptorIndex := 6, attributes := #[] }, { accessFlags := 1, nameIndex := 5, descriptorIndex := 1010, attributes := #[] }, { accessFlags := 1, nameIndex := 507, descriptorIndex := 334, attributes := #[] }, { accessFlags := 1, nameIndex := 497, descriptorIndex := 427, attributes := #[] }, { accessFlags := 1, nameIndex := 543, descriptorIndex := 573, attributes := #[] }, { accessFlags := 2, nameIndex := 5, descriptorIndex := 29, attributes := #[] }, { accessFlags := 0, nameIndex := 17, descriptorIndex := 337, attributes := #[] }, { accessFlags := 0, nameIndex := 494, descriptorIndex := 142, attributes := #[] }, { accessFlags := 8, nameIndex := 501, descriptorIndex := 391, attributes := #[] }] 49 2 #[1106, 1108, 575, 1110, 1112] #[{ accessFlags := 18, nameIndex := 13, descriptorIndex := 14, attributes := #[] }, { accessFlags := 18, nameIndex := 17, descriptorIndex := 18, attributes := #[] }, { accessFlags := 2, nameIndex := 21, descriptorIndex := 22, attributes := #[] }, { accessFlags := 2, nameIndex := 25, descriptorIndex := 26, attributes := #[] }, { accessFlags := 26, nameIndex := 1116, descriptorIndex := 1117, attributes := #[] }, { accessFlags := 24, nameIndex := 40, descriptorIndex := 26, attributes := #[] }, { accessFlags := 26, nameIndex := 1101, descriptorIndex := 1102, attributes := #[] }, { accessFlags := 26, nameIndex := 1121, descriptorIndex := 1122, attributes := #[] }, { accessFlags := 25, nameIndex := 599, descriptorIndex := 600, attributes := #[] }, { accessFlags := 24, nameIndex := 1125, descriptorIndex := 18, attributes := #[] }, { accessFlags := 24, nameIndex := 1127, descriptorIndex := 18, attributes := #[] }])
  fields := #[{ name := "value", type := (.array .byte), accessFlags := 18, slot := 0, constantValue := 0 }, { name := "coder", type := .byte, accessFlags := 18, slot := 1, constantValue := 0 }, { name := "hash", type := .int, accessFlags := 2, slot := 2, constantValue := 0 }, { name := "hashIsZero", type := .boolean, accessFlags := 2, slot := 3, constantValue := 0 }, { name := "serialVersionUID", type := .long, accessFlags := 26, slot := 0, constantValue := 0 }, { name := "COMPACT_STRINGS", type := .boolean, accessFlags := 24, slot := 1, constantValue := 0 }, { name := "serialPersistentFields", type := (.array (.object "java/io/ObjectStreamField")), accessFlags := 26, slot := 2, constantValue := 0 }, { name := "REPL", type := .char, accessFlags := 26, slot := 3, constantValue := 0 }, { name := "CASE_INSENSITIVE_ORDER", type := (.object "java/util/Comparator"), accessFlags := 25, slot := 4, constantValue := 0 }, { name := "LATIN1", type := .byte, accessFlags := 24, slot := 5, constantValue := 0 }, { name := "UTF16", type := .byte, accessFlags := 24, slot := 6, constantValue := 0 }]
  methods := #[k7m0, k7m1, k7m2, k7m3, k7m4, k7m5, k7m6, k7m7, k7m8]
  instanceTypes := #[(.array .byte), .byte, .int, .boolean]
  staticTypes := #[.long, .boolean, (.array (.object "java/io/ObjectStreamField")), .char, (.object "java/util/Comparator"), .byte, .byte]
  resolved := Array.replicate 1451 none
  statics := some 0 }

def pool8 : Array CpInfo := pool [(6, .class_ 8), (1, u "java/lang/Object"), (0, u "<init>"), (0, u "()V"), (1, .class_ 14), (1, u "java/lang/StringUTF16"), (31, u "$assertionsDisabled"), (0, u "Z"), (13, u "HI_BYTE_SHIFT"), (0, u "I"), (2, u "LO_BYTE_SHIFT"), (49, .methodref 12 116), (0, .nameAndType 117 118), (0, u "compress"), (0, u "([CI[BII)I"), (3, u "([CII)[B"), (138, u "coderFromArrayLen"), (0, u "([BI)B"), (106, .class_ 371), (1, u "java/lang/StringUTF16$LinesSpliterator"), (58, u "MAX_LENGTH"), (196, .class_ 628), (0, u "java/lang/StringUTF16$CodePointsSpliterator"), (0, .class_ 630), (0, u "java/lang/StringUTF16$CharsSpliterator")] 4

def k8m0 : Method := { name := "<init>", desc := "()V", sig := { parameters := [], returnType := none }, accessFlags := 0, code := none }
def k8c1 : Code := { maxStack := 2, maxLocals := 2, code := jdk_52_method_15_code, exceptionTable := #[], attributes := #[] }
def k8m1 : Method := { name := "coderFromArrayLen", desc := "([BI)B", sig := { parameters := [(.array .byte), .int], returnType := some .byte }, accessFlags := 8, code := some k8c1 }
def k8c2 : Code := { maxStack := 5, maxLocals := 6, code := jdk_52_method_16_code, exceptionTable := #[], attributes := #[] }
def k8m2 : Method := { name := "compress", desc := "([CII)[B", sig := { parameters := [(.array .char), .int, .int], returnType := some (.array .byte) }, accessFlags := 9, code := some k8c2 }
def k8c3 : Code := { maxStack := 3, maxLocals := 7, code := jdk_52_method_21_code, exceptionTable := #[], attributes := #[] }
def k8m3 : Method := { name := "compress", desc := "([CI[BII)I", sig := { parameters := [(.array .char), .int, (.array .byte), .int, .int], returnType := some .int }, accessFlags := 9, code := some k8c3 }
/-- java/lang/StringUTF16 -/
def k8 : Class := { plain "java/lang/StringUTF16" (some 0) with
  accessFlags := 48
  interfaces := #[]
  cf := some (fileOf pool8 12 #[.nestMembers #[627, 629, 369]] #[{ accessFlags := 0, nameIndex := 9, descriptorIndex := 10, attributes := #[] }, { accessFlags := 8, nameIndex := 261, descriptorIndex := 262, attributes := #[] }, { accessFlags := 9, nameIndex := 117, descriptorIndex := 122, attributes := #[] }, { accessFlags := 9, nameIndex := 117, descriptorIndex := 118, attributes := #[] }] 48 6 #[] #[{ accessFlags := 26, nameIndex := 61, descriptorIndex := 62, attributes := #[] }, { accessFlags := 26, nameIndex := 65, descriptorIndex := 62, attributes := #[] }, { accessFlags := 24, nameIndex := 430, descriptorIndex := 62, attributes := #[] }, { accessFlags := 4120, nameIndex := 46, descriptorIndex := 47, attributes := #[] }])
  fields := #[{ name := "HI_BYTE_SHIFT", type := .int, accessFlags := 26, slot := 0, constantValue := 0 }, { name := "LO_BYTE_SHIFT", type := .int, accessFlags := 26, slot := 1, constantValue := 0 }, { name := "MAX_LENGTH", type := .int, accessFlags := 24, slot := 2, constantValue := 0 }, { name := "$assertionsDisabled", type := .boolean, accessFlags := 4120, slot := 3, constantValue := 0 }]
  methods := #[k8m0, k8m1, k8m2, k8m3]
  instanceTypes := #[]
  staticTypes := #[.int, .int, .int, .boolean]
  resolved := Array.replicate 635 none
  statics := none }

def pool9 : Array CpInfo := pool [(1, .class_ 2), (0, u "java/lang/String"), (1, .class_ 6), (1, u "java/lang/Object"), (0, u "<init>"), (0, u "()V"), (0, .methodref 1 10), (0, .nameAndType 11 12), (0, u "checkIndex"), (0, u "(II)V"), (1, .class_ 16), (1, u "java/lang/StringLatin1"), (36, u "([BI)C"), (67, u "$assertionsDisabled"), (0, u "Z"), (98, .class_ 223), (1, u "java/lang/StringLatin1$LinesSpliterator"), (28, u "charAt"), (28, u "equals"), (0, u "([B[B)Z"), (107, .class_ 391), (0, u "java/lang/StringLatin1$CharsSpliterator")] 3

def k9m0 : Method := { name := "<init>", desc := "()V", sig := { parameters := [], returnType := none }, accessFlags := 0, code := none }
def k9c1 : Code := { maxStack := 2, maxLocals := 2, code := jdk_43_method_2_code, exceptionTable := #[], attributes := #[] }
def k9m1 : Method := { name := "charAt", desc := "([BI)C", sig := { parameters := [(.array .byte), .int], returnType := some .char }, accessFlags := 9, code := some k9c1 }
def k9c2 : Code := { maxStack := 3, maxLocals := 3, code := jdk_43_method_13_code, exceptionTable := #[], attributes := #[] }
def k9m2 : Method := { name := "equals", desc := "([B[B)Z", sig := { parameters := [(.array .byte), (.array .byte)], returnType := some .boolean }, accessFlags := 9, code := some k9c2 }
/-- java/lang/StringLatin1 -/
def k9 : Class := { plain "java/lang/StringLatin1" (some 0) with
  accessFlags := 48
  interfaces := #[]
  cf := some (fileOf pool9 14 #[.nestMembers #[390, 221]] #[{ accessFlags := 0, nameIndex := 7, descriptorIndex := 8, attributes := #[] }, { accessFlags := 9, nameIndex := 252, descriptorIndex := 53, attributes := #[] }, { accessFlags := 9, nameIndex := 281, descriptorIndex := 282, attributes := #[] }] 48 4 #[] #[{ accessFlags := 4120, nameIndex := 121, descriptorIndex := 122, attributes := #[] }])
  fields := #[{ name := "$assertionsDisabled", type := .boolean, accessFlags := 4120, slot := 0, constantValue := 0 }]
  methods := #[k9m0, k9m1, k9m2]
  instanceTypes := #[]
  staticTypes := #[.boolean]
  resolved := Array.replicate 395 none
  statics := none }

def pool10 : Array CpInfo := pool [(2, .class_ 4), (1, u "java/lang/Enum"), (0, u "name"), (0, u "Ljava/lang/String;"), (2, u "ordinal"), (0, u "I"), (1, .class_ 14), (1, u "java/lang/Object"), (4, u "hash"), (86, .class_ 108), (1, u "java/lang/Enum$EnumDesc"), (2, .class_ 112), (0, u "java/lang/constant/Constable"), (0, .class_ 114), (0, u "java/lang/Comparable"), (0, .class_ 116), (0, u "java/io/Serializable")] 87

/-- java/lang/Enum -/
def k10 : Class := { plain "java/lang/Enum" (some 0) with
  accessFlags := 1057
  interfaces := #[5, 3, 2]
  cf := some (fileOf pool10 2 #[.nestMembers #[106]] #[] 1057 12 #[111, 113, 115] #[{ accessFlags := 18, nameIndex := 5, descriptorIndex := 6, attributes := #[] }, { accessFlags := 18, nameIndex := 9, descriptorIndex := 10, attributes := #[] }, { accessFlags := 2, nameIndex := 19, descriptorIndex := 10, attributes := #[] }])
  fields := #[{ name := "name", type := (.object "java/lang/String"), accessFlags := 18, slot := 0, constantValue := 0 }, { name := "ordinal", type := .int, accessFlags := 18, slot := 1, constantValue := 0 }, { name := "hash", type := .int, accessFlags := 2, slot := 2, constantValue := 0 }]
  methods := #[]
  instanceTypes := #[(.object "java/lang/String"), .int, .int]
  staticTypes := #[]
  resolved := Array.replicate 204 none
  statics := none }

def pool11 : Array CpInfo := pool [(1, .class_ 2), (0, u "com/example/timely_exodus/timelyexodus/plan/LpSolver"), (2, u "GLOP"), (0, u "Lcom/example/timely_exodus/timelyexodus/plan/LpSolver;"), (2, u "CLP"), (2, u "PDLP"), (0, .fieldref 1 14), (0, .nameAndType 15 16), (0, u "$VALUES"), (0, u "[Lcom/example/timely_exodus/timelyexodus/plan/LpSolver;"), (0, .methodref 18 19), (0, .class_ 16), (0, .nameAndType 20 21), (0, u "clone"), (0, u "()Ljava/lang/Object;"), (1, .class_ 25), (1, u "java/lang/Enum"), (6, .fieldref 1 33), (0, .nameAndType 34 35), (0, u "name"), (0, u "Ljava/lang/String;"), (2, u "problemType"), (2, u "parameters"), (0, .methodref 1 43), (0, .nameAndType 44 45), (0, u "values"), (0, u "()[Lcom/example/timely_exodus/timelyexodus/plan/LpSolver;"), (0, .methodref 47 48), (0, .class_ 49), (0, .nameAndType 50 51), (0, u "java/lang/String"), (0, u "equals"), (0, u "(Ljava/lang/Object;)Z"), (27, u "DEFAULT"), (2, u "(Ljava/lang/String;)Lcom/example/timely_exodus/timelyexodus/plan/LpSolver;"), (3, u "fromName")] 10

def k11c0 : Code := { maxStack := 1, maxLocals := 0, code := prog_31_method_1_code, exceptionTable := #[], attributes := #[] }
def k11m0 : Method := { name := "values", desc := "()[Lcom/example/timely_exodus/timelyexodus/plan/LpSolver;", sig := { parameters := [], returnType := some (.array (.object "com/example/timely_exodus/timelyexodus/plan/LpSolver")) }, accessFlags := 9, code := some k11c0 }
def k11c1 : Code := { maxStack := 2, maxLocals := 6, code := prog_31_method_4_code, exceptionTable := #[], attributes := #[] }
def k11m1 : Method := { name := "fromName", desc := "(Ljava/lang/String;)Lcom/example/timely_exodus/timelyexodus/plan/LpSolver;", sig := { parameters := [(.object "java/lang/String")], returnType := some (.object "com/example/timely_exodus/timelyexodus/plan/LpSolver") }, accessFlags := 9, code := some k11c1 }
/-- com/example/timely_exodus/timelyexodus/plan/LpSolver -/
def k11 : Class := { plain "com/example/timely_exodus/timelyexodus/plan/LpSolver" (some 10) with
  accessFlags := 16433
  interfaces := #[]
  cf := some (fileOf pool11 1 #[] #[{ accessFlags := 9, nameIndex := 44, descriptorIndex := 45, attributes := #[] }, { accessFlags := 9, nameIndex := 86, descriptorIndex := 82, attributes := #[] }] 16433 23 #[] #[{ accessFlags := 16409, nameIndex := 5, descriptorIndex := 6, attributes := #[] }, { accessFlags := 16409, nameIndex := 9, descriptorIndex := 6, attributes := #[] }, { accessFlags := 16409, nameIndex := 12, descriptorIndex := 6, attributes := #[] }, { accessFlags := 25, nameIndex := 79, descriptorIndex := 6, attributes := #[] }, { accessFlags := 18, nameIndex := 34, descriptorIndex := 35, attributes := #[] }, { accessFlags := 18, nameIndex := 38, descriptorIndex := 35, attributes := #[] }, { accessFlags := 18, nameIndex := 41, descriptorIndex := 35, attributes := #[] }, { accessFlags := 4122, nameIndex := 15, descriptorIndex := 16, attributes := #[] }])
  fields := #[{ name := "GLOP", type := (.object "com/example/timely_exodus/timelyexodus/plan/LpSolver"), accessFlags := 16409, slot := 0, constantValue := 0 }, { name := "CLP", type := (.object "com/example/timely_exodus/timelyexodus/plan/LpSolver"), accessFlags := 16409, slot := 1, constantValue := 0 }, { name := "PDLP", type := (.object "com/example/timely_exodus/timelyexodus/plan/LpSolver"), accessFlags := 16409, slot := 2, constantValue := 0 }, { name := "DEFAULT", type := (.object "com/example/timely_exodus/timelyexodus/plan/LpSolver"), accessFlags := 25, slot := 3, constantValue := 0 }, { name := "name", type := (.object "java/lang/String"), accessFlags := 18, slot := 3, constantValue := 0 }, { name := "problemType", type := (.object "java/lang/String"), accessFlags := 18, slot := 4, constantValue := 0 }, { name := "parameters", type := (.object "java/lang/String"), accessFlags := 18, slot := 5, constantValue := 0 }, { name := "$VALUES", type := (.array (.object "com/example/timely_exodus/timelyexodus/plan/LpSolver")), accessFlags := 4122, slot := 4, constantValue := 0 }]
  methods := #[k11m0, k11m1]
  instanceTypes := #[(.object "java/lang/String"), .int, .int, (.object "java/lang/String"), (.object "java/lang/String"), (.object "java/lang/String")]
  staticTypes := #[(.object "com/example/timely_exodus/timelyexodus/plan/LpSolver"), (.object "com/example/timely_exodus/timelyexodus/plan/LpSolver"), (.object "com/example/timely_exodus/timelyexodus/plan/LpSolver"), (.object "com/example/timely_exodus/timelyexodus/plan/LpSolver"), (.array (.object "com/example/timely_exodus/timelyexodus/plan/LpSolver"))]
  resolved := Array.replicate 97 none
  statics := some 1 }

def pool12 : Array CpInfo := pool [(1, .class_ 2), (0, u "java/lang/Cloneable"), (0, .class_ 4), (0, u "java/lang/Object")] 2

/-- java/lang/Cloneable -/
def k12 : Class := { plain "java/lang/Cloneable" (some 0) with
  accessFlags := 1537
  interfaces := #[]
  cf := some (fileOf pool12 1 #[] #[] 1537 3 #[] #[])
  fields := #[]
  methods := #[]
  instanceTypes := #[]
  staticTypes := #[]
  resolved := Array.replicate 7 none
  statics := none }

def pool13 : Array CpInfo := pool [(2, .class_ 4), (1, u "java/lang/Object"), (0, u "<init>"), (0, u "()V"), (17, .class_ 26), (1, u "jdk/internal/util/Preconditions"), (6, u "checkIndex"), (21, .class_ 56), (0, u "jdk/internal/util/Preconditions$4"), (57, .class_ 115), (0, u "jdk/internal/util/Preconditions$1"), (7, u "SIOOBE_FORMATTER"), (0, u "Ljava/util/function/BiFunction;"), (0, .class_ 126), (0, u "jdk/internal/util/Preconditions$2"), (3, u "AIOOBE_FORMATTER"), (0, .class_ 132), (0, u "jdk/internal/util/Preconditions$3"), (3, u "IOOBE_FORMATTER"), (41, u "(IILjava/util/function/BiFunction;)I")] 15

def k13m0 : Method := { name := "<init>", desc := "()V", sig := { parameters := [], returnType := none }, accessFlags := 1, code := none }
def k13c1 : Code := { maxStack := 3, maxLocals := 3, code := jdk_41_method_11_code, exceptionTable := #[], attributes := #[] }
def k13m1 : Method := { name := "checkIndex", desc := "(IILjava/util/function/BiFunction;)I", sig := { parameters := [.int, .int, (.object "java/util/function/BiFunction")], returnType := some .int }, accessFlags := 9, code := some k13c1 }
/-- jdk/internal/util/Preconditions -/
def k13 : Class := { plain "jdk/internal/util/Preconditions" (some 0) with
  accessFlags := 33
  interfaces := #[]
  cf := some (fileOf pool13 24 #[.nestMembers #[55, 131, 125, 114]] #[{ accessFlags := 1, nameIndex := 5, descriptorIndex := 6, attributes := #[] }, { accessFlags := 9, nameIndex := 33, descriptorIndex := 178, attributes := #[] }] 33 2 #[] #[{ accessFlags := 25, nameIndex := 123, descriptorIndex := 124, attributes := #[] }, { accessFlags := 25, nameIndex := 130, descriptorIndex := 124, attributes := #[] }, { accessFlags := 25, nameIndex := 136, descriptorIndex := 124, attributes := #[] }])
  fields := #[{ name := "SIOOBE_FORMATTER", type := (.object "java/util/function/BiFunction"), accessFlags := 25, slot := 0, constantValue := 0 }, { name := "AIOOBE_FORMATTER", type := (.object "java/util/function/BiFunction"), accessFlags := 25, slot := 1, constantValue := 0 }, { name := "IOOBE_FORMATTER", type := (.object "java/util/function/BiFunction"), accessFlags := 25, slot := 2, constantValue := 0 }]
  methods := #[k13m0, k13m1]
  instanceTypes := #[]
  staticTypes := #[(.object "java/util/function/BiFunction"), (.object "java/util/function/BiFunction"), (.object "java/util/function/BiFunction")]
  resolved := Array.replicate 194 none
  statics := some 2 }

def pool14 : Array CpInfo := pool [(9, u "<init>"), (6, .class_ 18), (1, u "java/lang/Object"), (0, u "()V"), (1, .class_ 23), (1, u "jdk/internal/util/ArraysSupport"), (0, u "LOG2_ARRAY_LONG_INDEX_SCALE"), (0, u "I"), (2, u "U"), (0, u "Ljdk/internal/misc/Unsafe;"), (8, u "BIG_ENDIAN"), (0, u "Z"), (8, u "LOG2_BYTE_BIT_SIZE"), (4, u "LOG2_ARRAY_INT_INDEX_SCALE"), (54, u "JLA"), (0, u "Ljdk/internal/access/JavaLangAccess;"), (11, u "LOG2_ARRAY_BOOLEAN_INDEX_SCALE"), (9, u "LOG2_ARRAY_BYTE_INDEX_SCALE"), (5, u "LOG2_ARRAY_CHAR_INDEX_SCALE"), (5, u "LOG2_ARRAY_SHORT_INDEX_SCALE"), (18, u "LOG2_ARRAY_FLOAT_INDEX_SCALE"), (24, u "LOG2_ARRAY_DOUBLE_INDEX_SCALE"), (89, u "T_BOOLEAN"), (2, u "T_CHAR"), (1, u "T_FLOAT"), (1, u "T_DOUBLE"), (1, u "T_BYTE"), (1, u "T_SHORT"), (1, u "T_INT"), (1, u "T_LONG"), (1, u "SOFT_MAX_ARRAY_LENGTH")] 83

def k14m0 : Method := { name := "<init>", desc := "()V", sig := { parameters := [], returnType := none }, accessFlags := 2, code := none }
/-- jdk/internal/util/ArraysSupport -/
def k14 : Class := { plain "jdk/internal/util/ArraysSupport" (some 0) with
  accessFlags := 33
  interfaces := #[]
  cf := some (fileOf pool14 21 #[] #[{ accessFlags := 2, nameIndex := 9, descriptorIndex := 19, attributes := #[] }] 33 16 #[] #[{ accessFlags := 24, nameIndex := 28, descriptorIndex := 29, attributes := #[] }, { accessFlags := 26, nameIndex := 38, descriptorIndex := 39, attributes := #[] }, { accessFlags := 25, nameIndex := 121, descriptorIndex := 25, attributes := #[] }, { accessFlags := 25, nameIndex := 131, descriptorIndex := 25, attributes := #[] }, { accessFlags := 25, nameIndex := 137, descriptorIndex := 25, attributes := #[] }, { accessFlags := 25, nameIndex := 143, descriptorIndex := 25, attributes := #[] }, { accessFlags := 25, nameIndex := 53, descriptorIndex := 25, attributes := #[] }, { accessFlags := 25, nameIndex := 24, descriptorIndex := 25, attributes := #[] }, { accessFlags := 25, nameIndex := 162, descriptorIndex := 25, attributes := #[] }, { accessFlags := 25, nameIndex := 187, descriptorIndex := 25, attributes := #[] }, { accessFlags := 26, nameIndex := 48, descriptorIndex := 25, attributes := #[] }, { accessFlags := 25, nameIndex := 277, descriptorIndex := 25, attributes := #[] }, { accessFlags := 25, nameIndex := 280, descriptorIndex := 25, attributes := #[] }, { accessFlags := 25, nameIndex := 282, descriptorIndex := 25, attributes := #[] }, { accessFlags := 25, nameIndex := 284, descriptorIndex := 25, attributes := #[] }, { accessFlags := 25, nameIndex := 286, descriptorIndex := 25, attributes := #[] }, { accessFlags := 25, nameIndex := 288, descriptorIndex := 25, attributes := #[] }, { accessFlags := 25, nameIndex := 290, descriptorIndex := 25, attributes := #[] }, { accessFlags := 25, nameIndex := 292, descriptorIndex := 25, attributes := #[] }, { accessFlags := 26, nameIndex := 108, descriptorIndex := 109, attributes := #[] }, { accessFlags := 25, nameIndex := 294, descriptorIndex := 25, attributes := #[] }])
  fields := #[{ name := "U", type := (.object "jdk/internal/misc/Unsafe"), accessFlags := 24, slot := 0, constantValue := 0 }, { name := "BIG_ENDIAN", type := .boolean, accessFlags := 26, slot := 1, constantValue := 0 }, { name := "LOG2_ARRAY_BOOLEAN_INDEX_SCALE", type := .int, accessFlags := 25, slot := 2, constantValue := 0 }, { name := "LOG2_ARRAY_BYTE_INDEX_SCALE", type := .int, accessFlags := 25, slot := 3, constantValue := 0 }, { name := "LOG2_ARRAY_CHAR_INDEX_SCALE", type := .int, accessFlags := 25, slot := 4, constantValue := 0 }, { name := "LOG2_ARRAY_SHORT_INDEX_SCALE", type := .int, accessFlags := 25, slot := 5, constantValue := 0 }, { name := "LOG2_ARRAY_INT_INDEX_SCALE", type := .int, accessFlags := 25, slot := 6, constantValue := 0 }, { name := "LOG2_ARRAY_LONG_INDEX_SCALE", type := .int, accessFlags := 25, slot := 7, constantValue := 0 }, { name := "LOG2_ARRAY_FLOAT_INDEX_SCALE", type := .int, accessFlags := 25, slot := 8, constantValue := 0 }, { name := "LOG2_ARRAY_DOUBLE_INDEX_SCALE", type := .int, accessFlags := 25, slot := 9, constantValue := 0 }, { name := "LOG2_BYTE_BIT_SIZE", type := .int, accessFlags := 26, slot := 10, constantValue := 0 }, { name := "T_BOOLEAN", type := .int, accessFlags := 25, slot := 11, constantValue := 0 }, { name := "T_CHAR", type := .int, accessFlags := 25, slot := 12, constantValue := 0 }, { name := "T_FLOAT", type := .int, accessFlags := 25, slot := 13, constantValue := 0 }, { name := "T_DOUBLE", type := .int, accessFlags := 25, slot := 14, constantValue := 0 }, { name := "T_BYTE", type := .int, accessFlags := 25, slot := 15, constantValue := 0 }, { name := "T_SHORT", type := .int, accessFlags := 25, slot := 16, constantValue := 0 }, { name := "T_INT", type := .int, accessFlags := 25, slot := 17, constantValue := 0 }, { name := "T_LONG", type := .int, accessFlags := 25, slot := 18, constantValue := 0 }, { name := "JLA", type := (.object "jdk/internal/access/JavaLangAccess"), accessFlags := 26, slot := 19, constantValue := 0 }, { name := "SOFT_MAX_ARRAY_LENGTH", type := .int, accessFlags := 25, slot := 20, constantValue := 0 }]
  methods := #[k14m0]
  instanceTypes := #[]
  staticTypes := #[(.object "jdk/internal/misc/Unsafe"), .boolean, .int, .int, .int, .int, .int, .int, .int, .int, .int, .int, .int, .int, .int, .int, .int, .int, .int, (.object "jdk/internal/access/JavaLangAccess"), .int]
  resolved := Array.replicate 378 none
  statics := none }

/-- the primitive byte -/
def k15 : Class := { plain "byte" none with kind := .primitive 'B', accessFlags := 0x411 }
/-- [B -/
def k16 : Class := { plain "[B" (some 0) with kind := .array 15 .byte, interfaces := #[12, 2], accessFlags := 1041 }

/-- the primitive char -/
def k17 : Class := { plain "char" none with kind := .primitive 'C', accessFlags := 0x411 }
/-- [C -/
def k18 : Class := { plain "[C" (some 0) with kind := .array 17 .char, interfaces := #[12, 2], accessFlags := 1041 }

/-- the primitive int -/
def k19 : Class := { plain "int" none with kind := .primitive 'I', accessFlags := 0x411 }
/-- [I -/
def k20 : Class := { plain "[I" (some 0) with kind := .array 19 .int, interfaces := #[12, 2], accessFlags := 1041 }

/-- [Lcom/example/timely_exodus/timelyexodus/plan/LpSolver; -/
def k21 : Class := { plain "[Lcom/example/timely_exodus/timelyexodus/plan/LpSolver;" (some 0) with kind := .array 11 (.object "com/example/timely_exodus/timelyexodus/plan/LpSolver"), interfaces := #[12, 2], accessFlags := 1041 }

def heap : Heap := #[{ cls := 7, slots := #[.long 0, .int 1, .null, .int 0, .null, .int 0, .int 0], vm := .statics 7 },
  { cls := 11, slots := #[.ref 4, .ref 5, .ref 6, .null, .ref 3], vm := .statics 11 },
  { cls := 13, slots := #[.null, .null, .null], vm := .statics 13 },
  { cls := 21, slots := #[.ref 4, .ref 5, .ref 6], vm := .none },
  { cls := 11, slots := #[.null, .int 0, .int 0, .ref 7, .null, .null], vm := .none },
  { cls := 11, slots := #[.null, .int 1, .int 0, .ref 8, .null, .null], vm := .none },
  { cls := 11, slots := #[.null, .int 2, .int 0, .ref 9, .null, .null], vm := .none },
  { cls := 7, slots := #[.ref 10, .int 0, .int 0, .int 0], vm := .none },
  { cls := 7, slots := #[.ref 11, .int 0, .int 0, .int 0], vm := .none },
  { cls := 7, slots := #[.ref 12, .int 0, .int 0, .int 0], vm := .none },
  { cls := 16, slots := #[.int 103, .int 108, .int 111, .int 112], vm := .none },
  { cls := 16, slots := #[.int 99, .int 108, .int 112], vm := .none },
  { cls := 16, slots := #[.int 112, .int 100, .int 108, .int 112], vm := .none }]
def classes : Array Class := #[k0, k1, k2, k3, k4, k5, k6, k7, k8, k9, k10, k11, k12, k13, k14, k15, k16, k17, k18, k19, k20, k21]
def interned : List (Array UInt16 × Addr) := []
def slotsUsed : Nat := 59
def theMethod : MethodId := ⟨1, 1⟩
def args0 : Array Value := #[.int 5, .int 7, .int 5, .int 7, .int 5, .int 7]
def aboutOver (below : List Frame) : State where
  vm := { classes := classes, interned := interned.toArray }
  heap := heap
  slotsUsed := slotsUsed
  threads := #[{ frames := .invoking theMethod args0 :: below }]
def below0 : List Frame := [.native { method := ⟨0, 0⟩, args := #[] }]
def about1 : State := aboutOver below0
def p0 : Program := .bare "" "" ""
def e0 : Env := launch0.env 0 0 0
theorem w_frames : about1.frames = Frame.invoking theMethod args0 :: below0 := rfl
set_option maxRecDepth 65536 in
theorem w_args : argsFit about1.vm theMethod args0 = true := by decide +kernel
set_option maxRecDepth 65536 in
theorem w_heap : heapFits about1 = true := by decide +kernel
set_option maxRecDepth 65536 in
theorem w_runnable : about1.curStatus? = some .runnable := by decide +kernel
set_option maxRecDepth 65536 in
theorem w_alone : about1.alone = true := by decide +kernel
set_option maxRecDepth 65536 in
theorem w_named : about1.methodNamed? x = some theMethod := by decide +kernel
set_option maxRecDepth 65536 in
theorem w_hears : about1.hears theMethod below0 = true := by decide +kernel
set_option maxRecDepth 65536 in
theorem w_ripe : about1.ripe theMethod args0 below0 = true := by decide +kernel
theorem w_running : about1.status = .running := rfl
set_option maxRecDepth 65536 in
theorem w_room : about1.hasRoom e0.platform room_1 = true :=
  launch0.hasRoom_least _ room_1 (by decide +kernel) (by decide +kernel) (by decide +kernel) (by decide +kernel) (by decide +kernel) (by decide +kernel)
theorem allAtoms_all (ts : List Jvm.Cond) (a : Array Jvm.Value) (st : Jvm.State) : (allAtoms ts).before a st = ts.all (fun c => c.before a st) := by
  induction ts with
  | nil => rfl
  | cons c t ih =>
    show (Jvm.Cond.and c (allAtoms t)).before a st = _
    rw [Jvm.Cond.before_and, ih, List.all_cons]
def words1 : List Jvm.Cond := Jvm.Cond.code x code maxLocals ret :: tables_1
/-- a 'code' word, met by the world's own term for the bytes: nothing is compared byte by byte -/
theorem code_word {y : MethodName} {bytes : ByteArray} {mx : Nat} {rt : Option FieldType} {a : Array Value} {s : State} {m : MethodId} {meth : Method} {c : Code} (h1 : s.methodNamed? y = some m) (h2 : s.vm.method? m = some meth) (h3 : meth.code = some c) (h4 : c.code = bytes)
    (h5 : (c.maxLocals == mx && c.exceptionTable.isEmpty && decide (c.maxStack ≤ mostOperands) && decide (meth.sig.returnType = rt) && !meth.locks && decide (parseMethodDescriptor y.desc = some meth.sig)) = true) : (Jvm.Cond.code y bytes mx rt).before a s = true := by
  simp only [Bool.and_eq_true, beq_iff_eq, Bool.not_eq_true', decide_eq_true_eq] at h5
  obtain ⟨⟨⟨⟨⟨g1, g2⟩, g3⟩, g4⟩, g5⟩, g6⟩ := h5
  simp [Cond.before, Cond.holds, Cond.value, h1, h2, h3, h4, g1, g2, g3, g4, g5, g6]
def isCode : Jvm.Cond → Bool
  | .code _ _ _ _ => true
  | _ => false
theorem all_split {L : List Jvm.Cond} {P : Jvm.Cond → Bool} (h1 : L.all (fun c => isCode c || P c) = true) (h2 : ∀ c ∈ L.filter isCode, P c = true) : L.all P = true := by
  refine List.all_eq_true.mpr fun c hc => ?_
  have h := List.all_eq_true.mp h1 c hc
  rcases Bool.eq_false_or_eq_true (isCode c) with hi | hi
  · exact h2 c (List.mem_filter.mpr ⟨hc, hi⟩)
  · simpa [hi] using h
set_option maxRecDepth 65536 in
theorem w_c0 : (Jvm.Cond.code x code maxLocals ret).before args0 about1 = true := code_word (m := ⟨1, 1⟩) (meth := k1m1) (c := k1c1) (by decide +kernel) rfl rfl rfl (by decide +kernel)
set_option maxRecDepth 65536 in
theorem w_c1 : (Jvm.Cond.code ({ cls := "com/example/timely_exodus/timelyexodus/plan/LpSolverFromNamePinLaw", name := "ch", desc := "(ILjava/lang/String;II)C" } : Jvm.MethodName) method_4_code (4 : Nat) (Option.some Jvm.ClassFile.FieldType.char)).before args0 about1 = true := code_word (m := ⟨1, 3⟩) (meth := k1m3) (c := k1c3) (by decide +kernel) rfl rfl rfl (by decide +kernel)
set_option maxRecDepth 65536 in
theorem w_c2 : (Jvm.Cond.code ({ cls := "java/lang/String", name := "length", desc := "()I" } : Jvm.MethodName) jdk_42_method_54_code (1 : Nat) (Option.some Jvm.ClassFile.FieldType.int)).before args0 about1 = true := code_word (m := ⟨7, 2⟩) (meth := k7m2) (c := k7c2) (by decide +kernel) rfl rfl rfl (by decide +kernel)
set_option maxRecDepth 65536 in
theorem w_c3 : (Jvm.Cond.code ({ cls := "java/lang/String", name := "coder", desc := "()B" } : Jvm.MethodName) jdk_42_method_152_code (1 : Nat) (Option.some Jvm.ClassFile.FieldType.byte)).before args0 about1 = true := code_word (m := ⟨7, 6⟩) (meth := k7m6) (c := k7c6) (by decide +kernel) rfl rfl rfl (by decide +kernel)
set_option maxRecDepth 65536 in
theorem w_c4 : (Jvm.Cond.code ({ cls := "com/example/timely_exodus/timelyexodus/plan/LpSolverFromNamePinLaw", name := "pick", desc := "(I)C" } : Jvm.MethodName) method_5_code (2 : Nat) (Option.some Jvm.ClassFile.FieldType.char)).before args0 about1 = true := code_word (m := ⟨1, 4⟩) (meth := k1m4) (c := k1c4) (by decide +kernel) rfl rfl rfl (by decide +kernel)
set_option maxRecDepth 65536 in
theorem w_c5 : (Jvm.Cond.code ({ cls := "com/example/timely_exodus/timelyexodus/plan/LpSolverFromNamePinLaw", name := "make", desc := "(ICCCC)Ljava/lang/String;" } : Jvm.MethodName) method_6_code (5 : Nat) (Option.some (Jvm.ClassFile.FieldType.object "java/lang/String"))).before args0 about1 = true := code_word (m := ⟨1, 5⟩) (meth := k1m5) (c := k1c5) (by decide +kernel) rfl rfl rfl (by decide +kernel)
set_option maxRecDepth 65536 in
theorem w_c6 : (Jvm.Cond.code ({ cls := "java/lang/String", name := "<init>", desc := "([C)V" } : Jvm.MethodName) jdk_42_method_3_code (2 : Nat) (Option.none : Option Jvm.ClassFile.FieldType)).before args0 about1 = true := code_word (m := ⟨7, 1⟩) (meth := k7m1) (c := k7c1) (by decide +kernel) rfl rfl rfl (by decide +kernel)
set_option maxRecDepth 65536 in
theorem w_c7 : (Jvm.Cond.code ({ cls := "java/lang/String", name := "<init>", desc := "([CIILjava/lang/Void;)V" } : Jvm.MethodName) jdk_42_method_149_code (6 : Nat) (Option.none : Option Jvm.ClassFile.FieldType)).before args0 about1 = true := code_word (m := ⟨7, 5⟩) (meth := k7m5) (c := k7c5) (by decide +kernel) rfl rfl rfl (by decide +kernel)
set_option maxRecDepth 65536 in
theorem w_c8 : (Jvm.Cond.code ({ cls := "java/lang/Object", name := "<init>", desc := "()V" } : Jvm.MethodName) object_method_1_code (1 : Nat) (Option.none : Option Jvm.ClassFile.FieldType)).before args0 about1 = true := code_word (m := ⟨0, 0⟩) (meth := k0m0) (c := k0c0) (by decide +kernel) rfl rfl rfl (by decide +kernel)
set_option maxRecDepth 65536 in
theorem w_c9 : (Jvm.Cond.code ({ cls := "java/lang/StringUTF16", name := "compress", desc := "([CII)[B" } : Jvm.MethodName) jdk_52_method_16_code (6 : Nat) (Option.some (Jvm.ClassFile.FieldType.array Jvm.ClassFile.FieldType.byte))).before args0 about1 = true := code_word (m := ⟨8, 2⟩) (meth := k8m2) (c := k8c2) (by decide +kernel) rfl rfl rfl (by decide +kernel)
set_option maxRecDepth 65536 in
theorem w_c10 : (Jvm.Cond.code ({ cls := "java/lang/StringUTF16", name := "compress", desc := "([CI[BII)I" } : Jvm.MethodName) jdk_52_method_21_code (7 : Nat) (Option.some Jvm.ClassFile.FieldType.int)).before args0 about1 = true := code_word (m := ⟨8, 3⟩) (meth := k8m3) (c := k8c3) (by decide +kernel) rfl rfl rfl (by decide +kernel)
set_option maxRecDepth 65536 in
theorem w_c11 : (Jvm.Cond.code ({ cls := "java/lang/StringUTF16", name := "coderFromArrayLen", desc := "([BI)B" } : Jvm.MethodName) jdk_52_method_15_code (2 : Nat) (Option.some Jvm.ClassFile.FieldType.byte)).before args0 about1 = true := code_word (m := ⟨8, 1⟩) (meth := k8m1) (c := k8c1) (by decide +kernel) rfl rfl rfl (by decide +kernel)
set_option maxRecDepth 65536 in
theorem w_c12 : (Jvm.Cond.code ({ cls := "com/example/timely_exodus/timelyexodus/plan/LpSolverFromNamePinLaw", name := "ref", desc := "(Ljava/lang/String;)Lcom/example/timely_exodus/timelyexodus/plan/LpSolver;" } : Jvm.MethodName) method_3_code (1 : Nat) (Option.some (Jvm.ClassFile.FieldType.object "com/example/timely_exodus/timelyexodus/plan/LpSolver"))).before args0 about1 = true := code_word (m := ⟨1, 2⟩) (meth := k1m2) (c := k1c2) (by decide +kernel) rfl rfl rfl (by decide +kernel)
set_option maxRecDepth 65536 in
theorem w_c13 : (Jvm.Cond.code ({ cls := "java/lang/String", name := "equals", desc := "(Ljava/lang/Object;)Z" } : Jvm.MethodName) jdk_42_method_66_code (3 : Nat) (Option.some Jvm.ClassFile.FieldType.boolean)).before args0 about1 = true := code_word (m := ⟨7, 4⟩) (meth := k7m4) (c := k7c4) (by decide +kernel) rfl rfl rfl (by decide +kernel)
set_option maxRecDepth 65536 in
theorem w_c14 : (Jvm.Cond.code ({ cls := "java/lang/StringLatin1", name := "equals", desc := "([B[B)Z" } : Jvm.MethodName) jdk_43_method_13_code (3 : Nat) (Option.some Jvm.ClassFile.FieldType.boolean)).before args0 about1 = true := code_word (m := ⟨9, 2⟩) (meth := k9m2) (c := k9c2) (by decide +kernel) rfl rfl rfl (by decide +kernel)
set_option maxRecDepth 65536 in
theorem w_c15 : (Jvm.Cond.code ({ cls := "com/example/timely_exodus/timelyexodus/plan/LpSolver", name := "fromName", desc := "(Ljava/lang/String;)Lcom/example/timely_exodus/timelyexodus/plan/LpSolver;" } : Jvm.MethodName) prog_31_method_4_code (6 : Nat) (Option.some (Jvm.ClassFile.FieldType.object "com/example/timely_exodus/timelyexodus/plan/LpSolver"))).before args0 about1 = true := code_word (m := ⟨11, 1⟩) (meth := k11m1) (c := k11c1) (by decide +kernel) rfl rfl rfl (by decide +kernel)
set_option maxRecDepth 65536 in
theorem w_c16 : (Jvm.Cond.code ({ cls := "com/example/timely_exodus/timelyexodus/plan/LpSolver", name := "values", desc := "()[Lcom/example/timely_exodus/timelyexodus/plan/LpSolver;" } : Jvm.MethodName) prog_31_method_1_code (0 : Nat) (Option.some (Jvm.ClassFile.FieldType.array (Jvm.ClassFile.FieldType.object "com/example/timely_exodus/timelyexodus/plan/LpSolver")))).before args0 about1 = true := code_word (m := ⟨11, 0⟩) (meth := k11m0) (c := k11c0) (by decide +kernel) rfl rfl rfl (by decide +kernel)
set_option maxRecDepth 65536 in
theorem w_c17 : (Jvm.Cond.code ({ cls := "java/lang/String", name := "charAt", desc := "(I)C" } : Jvm.MethodName) jdk_42_method_56_code (2 : Nat) (Option.some Jvm.ClassFile.FieldType.char)).before args0 about1 = true := code_word (m := ⟨7, 3⟩) (meth := k7m3) (c := k7c3) (by decide +kernel) rfl rfl rfl (by decide +kernel)
set_option maxRecDepth 65536 in
theorem w_c18 : (Jvm.Cond.code ({ cls := "java/lang/String", name := "isLatin1", desc := "()Z" } : Jvm.MethodName) jdk_42_method_154_code (1 : Nat) (Option.some Jvm.ClassFile.FieldType.boolean)).before args0 about1 = true := code_word (m := ⟨7, 7⟩) (meth := k7m7) (c := k7c7) (by decide +kernel) rfl rfl rfl (by decide +kernel)
set_option maxRecDepth 65536 in
theorem w_c19 : (Jvm.Cond.code ({ cls := "java/lang/StringLatin1", name := "charAt", desc := "([BI)C" } : Jvm.MethodName) jdk_43_method_2_code (2 : Nat) (Option.some Jvm.ClassFile.FieldType.char)).before args0 about1 = true := code_word (m := ⟨9, 1⟩) (meth := k9m1) (c := k9c1) (by decide +kernel) rfl rfl rfl (by decide +kernel)
set_option maxRecDepth 65536 in
theorem w_c20 : (Jvm.Cond.code ({ cls := "java/lang/String", name := "checkIndex", desc := "(II)V" } : Jvm.MethodName) jdk_42_method_155_code (2 : Nat) (Option.none : Option Jvm.ClassFile.FieldType)).before args0 about1 = true := code_word (m := ⟨7, 8⟩) (meth := k7m8) (c := k7c8) (by decide +kernel) rfl rfl rfl (by decide +kernel)
set_option maxRecDepth 65536 in
theorem w_c21 : (Jvm.Cond.code ({ cls := "jdk/internal/util/Preconditions", name := "checkIndex", desc := "(IILjava/util/function/BiFunction;)I" } : Jvm.MethodName) jdk_41_method_11_code (3 : Nat) (Option.some Jvm.ClassFile.FieldType.int)).before args0 about1 = true := code_word (m := ⟨13, 1⟩) (meth := k13m1) (c := k13c1) (by decide +kernel) rfl rfl rfl (by decide +kernel)
def codes1 : List Jvm.Cond := [Jvm.Cond.code x code maxLocals ret, Jvm.Cond.code ({ cls := "com/example/timely_exodus/timelyexodus/plan/LpSolverFromNamePinLaw", name := "ch", desc := "(ILjava/lang/String;II)C" } : Jvm.MethodName) method_4_code (4 : Nat) (Option.some Jvm.ClassFile.FieldType.char), Jvm.Cond.code ({ cls := "java/lang/String", name := "length", desc := "()I" } : Jvm.MethodName) jdk_42_method_54_code (1 : Nat) (Option.some Jvm.ClassFile.FieldType.int), Jvm.Cond.code ({ cls := "java/lang/String", name := "coder", desc := "()B" } : Jvm.MethodName) jdk_42_method_152_code (1 : Nat) (Option.some Jvm.ClassFile.FieldType.byte), Jvm.Cond.code ({ cls := "com/example/timely_exodus/timelyexodus/plan/LpSolverFromNamePinLaw", name := "pick", desc := "(I)C" } : Jvm.MethodName) method_5_code (2 : Nat) (Option.some Jvm.ClassFile.FieldType.char), Jvm.Cond.code ({ cls := "com/example/timely_exodus/timelyexodus/plan/LpSolverFromNamePinLaw", name := "make", desc := "(ICCCC)Ljava/lang/String;" } : Jvm.MethodName) method_6_code (5 : Nat) (Option.some (Jvm.ClassFile.FieldType.object "java/lang/String")), Jvm.Cond.code ({ cls := "java/lang/String", name := "<init>", desc := "([C)V" } : Jvm.MethodName) jdk_42_method_3_code (2 : Nat) (Option.none : Option Jvm.ClassFile.FieldType), Jvm.Cond.code ({ cls := "java/lang/String", name := "<init>", desc := "([CIILjava/lang/Void;)V" } : Jvm.MethodName) jdk_42_method_149_code (6 : Nat) (Option.none : Option Jvm.ClassFile.FieldType), Jvm.Cond.code ({ cls := "java/lang/Object", name := "<init>", desc := "()V" } : Jvm.MethodName) object_method_1_code (1 : Nat) (Option.none : Option Jvm.ClassFile.FieldType), Jvm.Cond.code ({ cls := "java/lang/StringUTF16", name := "compress", desc := "([CII)[B" } : Jvm.MethodName) jdk_52_method_16_code (6 : Nat) (Option.some (Jvm.ClassFile.FieldType.array Jvm.ClassFile.FieldType.byte)), Jvm.Cond.code ({ cls := "java/lang/StringUTF16", name := "compress", desc := "([CI[BII)I" } : Jvm.MethodName) jdk_52_method_21_code (7 : Nat) (Option.some Jvm.ClassFile.FieldType.int), Jvm.Cond.code ({ cls := "java/lang/StringUTF16", name := "coderFromArrayLen", desc := "([BI)B" } : Jvm.MethodName) jdk_52_method_15_code (2 : Nat) (Option.some Jvm.ClassFile.FieldType.byte), Jvm.Cond.code ({ cls := "com/example/timely_exodus/timelyexodus/plan/LpSolverFromNamePinLaw", name := "ref", desc := "(Ljava/lang/String;)Lcom/example/timely_exodus/timelyexodus/plan/LpSolver;" } : Jvm.MethodName) method_3_code (1 : Nat) (Option.some (Jvm.ClassFile.FieldType.object "com/example/timely_exodus/timelyexodus/plan/LpSolver")), Jvm.Cond.code ({ cls := "java/lang/String", name := "equals", desc := "(Ljava/lang/Object;)Z" } : Jvm.MethodName) jdk_42_method_66_code (3 : Nat) (Option.some Jvm.ClassFile.FieldType.boolean), Jvm.Cond.code ({ cls := "java/lang/StringLatin1", name := "equals", desc := "([B[B)Z" } : Jvm.MethodName) jdk_43_method_13_code (3 : Nat) (Option.some Jvm.ClassFile.FieldType.boolean), Jvm.Cond.code ({ cls := "com/example/timely_exodus/timelyexodus/plan/LpSolver", name := "fromName", desc := "(Ljava/lang/String;)Lcom/example/timely_exodus/timelyexodus/plan/LpSolver;" } : Jvm.MethodName) prog_31_method_4_code (6 : Nat) (Option.some (Jvm.ClassFile.FieldType.object "com/example/timely_exodus/timelyexodus/plan/LpSolver")), Jvm.Cond.code ({ cls := "com/example/timely_exodus/timelyexodus/plan/LpSolver", name := "values", desc := "()[Lcom/example/timely_exodus/timelyexodus/plan/LpSolver;" } : Jvm.MethodName) prog_31_method_1_code (0 : Nat) (Option.some (Jvm.ClassFile.FieldType.array (Jvm.ClassFile.FieldType.object "com/example/timely_exodus/timelyexodus/plan/LpSolver"))), Jvm.Cond.code ({ cls := "java/lang/String", name := "charAt", desc := "(I)C" } : Jvm.MethodName) jdk_42_method_56_code (2 : Nat) (Option.some Jvm.ClassFile.FieldType.char), Jvm.Cond.code ({ cls := "java/lang/String", name := "isLatin1", desc := "()Z" } : Jvm.MethodName) jdk_42_method_154_code (1 : Nat) (Option.some Jvm.ClassFile.FieldType.boolean), Jvm.Cond.code ({ cls := "java/lang/StringLatin1", name := "charAt", desc := "([BI)C" } : Jvm.MethodName) jdk_43_method_2_code (2 : Nat) (Option.some Jvm.ClassFile.FieldType.char), Jvm.Cond.code ({ cls := "java/lang/String", name := "checkIndex", desc := "(II)V" } : Jvm.MethodName) jdk_42_method_155_code (2 : Nat) (Option.none : Option Jvm.ClassFile.FieldType), Jvm.Cond.code ({ cls := "jdk/internal/util/Preconditions", name := "checkIndex", desc := "(IILjava/util/function/BiFunction;)I" } : Jvm.MethodName) jdk_41_method_11_code (3 : Nat) (Option.some Jvm.ClassFile.FieldType.int)]
set_option maxRecDepth 65536 in
theorem codes_eq : words1.filter isCode = codes1 := rfl
theorem w_codes : ∀ c ∈ words1.filter isCode, c.before args0 about1 = true := by
  rw [codes_eq]
  intro c hc
  simp only [codes1, List.mem_cons, List.not_mem_nil, or_false] at hc
  rcases hc with rfl | rfl | rfl | rfl | rfl | rfl | rfl | rfl | rfl | rfl | rfl | rfl | rfl | rfl | rfl | rfl | rfl | rfl | rfl | rfl | rfl | rfl
  · exact w_c0
  · exact w_c1
  · exact w_c2
  · exact w_c3
  · exact w_c4
  · exact w_c5
  · exact w_c6
  · exact w_c7
  · exact w_c8
  · exact w_c9
  · exact w_c10
  · exact w_c11
  · exact w_c12
  · exact w_c13
  · exact w_c14
  · exact w_c15
  · exact w_c16
  · exact w_c17
  · exact w_c18
  · exact w_c19
  · exact w_c20
  · exact w_c21
set_option maxRecDepth 65536 in
theorem w_t1 : (words1.take 24).all (fun c => isCode c || c.before args0 about1) = true := by decide +kernel
set_option maxRecDepth 65536 in
theorem w_t2 : ((words1.drop 24).take 24).all (fun c => isCode c || c.before args0 about1) = true := by decide +kernel
set_option maxRecDepth 65536 in
theorem w_t3 : (((words1.drop 24).drop 24).take 24).all (fun c => isCode c || c.before args0 about1) = true := by decide +kernel
set_option maxRecDepth 65536 in
theorem w_t4 : ((((words1.drop 24).drop 24).drop 24).take 24).all (fun c => isCode c || c.before args0 about1) = true := by decide +kernel
set_option maxRecDepth 65536 in
theorem w_t5 : (((((words1.drop 24).drop 24).drop 24).drop 24).take 24).all (fun c => isCode c || c.before args0 about1) = true := by decide +kernel
set_option maxRecDepth 65536 in
theorem w_t6 : (((((words1.drop 24).drop 24).drop 24).drop 24).drop 24).all (fun c => isCode c || c.before args0 about1) = true := by decide +kernel
theorem w_tables : (allAtoms (Jvm.Cond.code x code maxLocals ret :: tables_1)).before args0 about1 = true := by
  rw [allAtoms_all]
  show words1.all (fun c => c.before args0 about1) = true
  refine all_split ?_ w_codes
  rw [← List.take_append_drop 24 words1, List.all_append, w_t1, ← List.take_append_drop 24 (words1.drop 24), List.all_append, w_t2, ← List.take_append_drop 24 ((words1.drop 24).drop 24), List.all_append, w_t3, ← List.take_append_drop 24 (((words1.drop 24).drop 24).drop 24), List.all_append, w_t4, ← List.take_append_drop 24 ((((words1.drop 24).drop 24).drop 24).drop 24), List.all_append, w_t5, w_t6]
  rfl
set_option maxRecDepth 65536 in
theorem w_rest : rest_1_c.before args0 about1 = true := by decide +kernel
set_option maxRecDepth 65536 in
theorem w_case : (Jvm.Cond.and given_1 narrow_1).before args0 about1 = true := by decide +kernel
set_option maxRecDepth 65536 in
theorem w_consts : constsHeld consts_1 about1 := Jvm.Lit.constsHeldB_iff.mp (by decide +kernel)
theorem w_applies : (headSpec (Jvm.Cond.code x code maxLocals ret :: tables_1) room_1).applies x e0.platform about1 = true :=
  (Spec.applies_iff w_frames).mpr ⟨w_running, w_runnable, w_alone, w_named, w_hears, w_ripe, w_room, w_tables⟩
theorem atStart : AtStart classFile x code maxLocals ret World_1 tables_1 room_1 Calls_1 rest_1 Pre_1 launch0 p0 e0 about1 theMethod args0 below0 :=
  ⟨lists_1, trivial, launch0.admits_env _ _ _, launch0.least_env, fairChoices_fair.cas, fairChoices_fair.clock, w_frames, w_args, w_heap, w_applies, ⟨w_consts, trivial⟩, w_rest, w_case⟩
end start1
theorem witness_1 : WitnessClaimed_1 := ⟨start1.p0, start1.e0, start1.about1, start1.theMethod, start1.args0, start1.below0, start1.atStart⟩
end Jvm.Pilot.@@N@@
