import JvmDerived
import JvmDerived.Pilot.@@N@@Statement
import JvmDerived.Pilot.@@N@@Code
set_option linter.unusedVariables false
set_option linter.unusedSimpArgs false
@@BLOCK:NumsL.lean.txt@@
namespace Jvm.Pilot.@@N@@
open Jvm Jvm.ClassFile Sem Op Lib Jvm.Free Jvm.Stand Jvm.LawKit Jvm.RoadKit Bundle Jvm.Pilot.@@N@@.Jvm.D
theorem own_eqL {x y : Int64} (h : x = y) : lcmpW x y = 0 := by rw [lcW]; exact (lc_eq x y).2 h
theorem own_neL {x y : Int64} (h : ¬ x = y) : ¬ lcmpW x y = 0 := by rw [lcW]; exact fun q => h ((lc_eq x y).1 q)
theorem own_ltL {x y : Int64} (h : x < y) : lcmpW x y < 0 := by rw [lcW]; exact (lc_lt x y).2 h
theorem own_nltL {x y : Int64} (h : ¬ x < y) : ¬ lcmpW x y < 0 := by rw [lcW]; exact fun q => h ((lc_lt x y).1 q)
theorem own_gtL {x y : Int64} (h : y < x) : 0 < lcmpW x y := by rw [lcW]; exact (lc_gt x y).2 h
theorem own_ns_exa {Z : State} {h : Heap} {a : Addr} {C : String} (E : Exa Z h a C) : ∀ cell : Cell, h[a]? = some cell → cell.vm.isStatics = false := by
  obtain ⟨c, k, h1, -, -, h4, -⟩ := E
  intro cell hc; cases h1.symm.trans hc; exact h4
theorem own_ns1 {h : Heap} {a : Addr} (p : ∀ cell : Cell, h[a]? = some cell → cell.vm.isStatics = false) : ∀ x ∈ [a], ∀ cell : Cell, h[x]? = some cell → cell.vm.isStatics = false := by
  intro x hx; cases List.mem_singleton.mp hx; exact p
theorem own_ns2 {h : Heap} {a b : Addr} (p : ∀ cell : Cell, h[a]? = some cell → cell.vm.isStatics = false) (q : ∀ cell : Cell, h[b]? = some cell → cell.vm.isStatics = false) : ∀ x ∈ [a, b], ∀ cell : Cell, h[x]? = some cell → cell.vm.isStatics = false := by
  intro x hx; simp only [List.mem_cons, List.not_mem_nil, or_false] at hx; rcases hx with rfl | rfl <;> first | exact p | exact q
theorem own_sta_keep {Z : State} {h h' : Heap} {ws : List Addr} {C n d : String} {v : Value} (F : Sta Z h C n d v) (K : Keep h h' ws) (hn : ∀ x ∈ ws, ∀ cell : Cell, h[x]? = some cell → cell.vm.isStatics = false) : Sta Z h' C n d v := by
  obtain ⟨cf, i, k, f, st, cell, h1, h2, h3, h4, h5, h6, r⟩ := F
  exact ⟨cf, i, k, f, st, cell, h1, h2, h3, h4, K.2.1 _ _ h5 (fun q => by rw [hn _ q _ h5] at h6; cases h6), h6, r⟩
theorem own_sta_keep0 {Z : State} {h h' : Heap} {C n d : String} {v : Value} (F : Sta Z h C n d v) (K : Keep h h' []) : Sta Z h' C n d v := by
  obtain ⟨cf, i, k, f, st, cell, h1, h2, h3, h4, h5, r⟩ := F
  exact ⟨cf, i, k, f, st, cell, h1, h2, h3, h4, K.2.1 _ _ h5 List.not_mem_nil, r⟩
theorem own_ngtL {x y : Int64} (h : ¬ y < x) : ¬ 0 < lcmpW x y := by rw [lcW]; exact fun q => h ((lc_gt x y).1 q)
theorem pn_0 : plainName "com/example/membership/membership/BloomShape$Cell" = true := by first | (simp [plainName, overriddenIn]; done) | decide +kernel
theorem d1_0 : decode prog_4_method_5_code 0 = .ok (.lload_n 1, 1) := by decide +kernel
theorem d1_1 : decode prog_4_method_5_code 1 = .ok (.ldc2_w 43, 3) := by decide +kernel
theorem d1_4 : decode prog_4_method_5_code 4 = .ok (.ladd, 1) := by decide +kernel
theorem d1_5 : decode prog_4_method_5_code 5 = .ok (.lconst 1, 1) := by decide +kernel
theorem d1_6 : decode prog_4_method_5_code 6 = .ok (.lsub, 1) := by decide +kernel
theorem d1_7 : decode prog_4_method_5_code 7 = .ok (.ldc2_w 43, 3) := by decide +kernel
theorem d1_10 : decode prog_4_method_5_code 10 = .ok (.ldiv, 1) := by decide +kernel
theorem d1_11 : decode prog_4_method_5_code 11 = .ok (.aload_n 0, 1) := by decide +kernel
theorem d1_12 : decode prog_4_method_5_code 12 = .ok (.getfield 29, 3) := by decide +kernel
theorem d1_15 : decode prog_4_method_5_code 15 = .ok (.i2l, 1) := by decide +kernel
theorem d1_16 : decode prog_4_method_5_code 16 = .ok (.lmul, 1) := by decide +kernel
theorem d1_17 : decode prog_4_method_5_code 17 = .ok (.l2i, 1) := by decide +kernel
theorem d1_18 : decode prog_4_method_5_code 18 = .ok (.ireturn, 1) := by decide +kernel
theorem ef_1 (m : MethodId) (x0 : Addr) (x1 : Int64) : entryFrame m #[(.ref x0), (.long x1)] 3 = mkF m 0 #[.val (.ref x0), .val (.long x1), .second] [] := by first | (simp [entryFrame, mkF, argsToLocals, Value.category]; done) | rfl
def f1 (q1 : Int64) (w_width_a0 : Int32) : Int32 := (((((q1 + (64 : Int64)) - (1 : Int64)) / (64 : Int64)) * (w_width_a0.toInt64)).toInt32)
def Q1 (Z : State) (a0 : Addr) (q1 : Int64) (w_width_a0 : Int32) (h0 : Heap) (n0 : Nat) (v : Option Value) (h : Heap) (L : List Loc) : Prop := v = some (.int (f1 q1 w_width_a0)) ∧ Fr n0 L ∧ h = h0
set_option maxRecDepth 65536 in
set_option maxHeartbeats 40000000 in
theorem rm1 (l : Launch) (Z : State) (ar0 : Array Value) (hw : ∀ d ∈ tables_1, d.before ar0 Z = true) (ws : List Jvm.Cond) (a0 : Addr) (q1 : Int64) (w_width_a0 : Int32) (h0 : Heap) (n0 : Nat) (Z0 : n0 ≤ h0.size) (F_width_a0 : Fld Z h0 a0 "com/example/membership/membership/BloomShape$Cell" "width" "I" (.int w_width_a0)) :
    MetFree l (⟨"com/example/membership/membership/BloomShape$Cell", "wordsFor", "(J)I"⟩ : MethodName) (head1 (Jvm.Cond.code (⟨"com/example/membership/membership/BloomShape$Cell", "wordsFor", "(J)I"⟩ : MethodName) prog_4_method_5_code 3 (some .int) :: ws) ({ frames := 0, cells := 0, slots := 0, locals := 0 } : Room)) (fun a U => a = #[(.ref a0), (.long q1)] ∧ Z.Warmed39 U.vm ∧ U.heap = h0) (fun _ _ _ _ _ => True) (fun _ U o U' => ∃ v L, o = .returned v ∧ Q1 Z a0 q1 w_width_a0 h0 n0 v U'.heap L ∧ FrameEnd U o U' L ({ frames := 0, cells := 0, slots := 0, locals := 0 } : Room).cells ({ frames := 0, cells := 0, slots := 0, locals := 0 } : Room).slots) := by
  refine MetFree.of_bodySF (plainFor_of_name pn_0) hisR ?_
  intro p e s m args below meth c s₁ Bd hml0 hP hK
  obtain ⟨rfl, hZ, hh⟩ := hP
  have hx := Bd.exec
  have hby := Bd.bytes
  have hml : c.maxLocals = 3 := hml0
  have hown : s.vm.findClass "com/example/membership/membership/BloomShape$Cell" = some m.cls := findClass_of_methodNamed Bd.named
  have hnm := (name_of_methodNamed Bd.named Bd.method).1
  have X0 : Stand p l e ({ frames := 0, cells := 0, slots := 0, locals := 0 } : Room) s m #[(.ref a0), (.long q1)] below meth c s₁ [] 0 0 := Stand.of_body Bd
  have e0 : s₁.heap = h0 := by rw [← hh, Bd.state]; rfl
  have N0 := Fr.nil n0
  have pre0 : ∀ t, Steps p.tables e below (s₁.setTop (mkF m 0 #[.val (.ref a0), .val (.long q1), .second] [])) t → Steps p.tables e below (s₁.setTop (entryFrame m #[(.ref a0), (.long q1)] 3)) t := fun t k => castTop (ef_1 m a0 q1) k
  have pre1 : ∀ t, Steps p.tables e below (s₁.setTop (mkF m 12 #[.val (.ref a0), .val (.long q1), .second] [(.ref a0), (.long (((q1 + (64 : Int64)) - (1 : Int64)) / (64 : Int64)))])) t → Steps p.tables e below (s₁.setTop (entryFrame m #[(.ref a0), (.long q1)] 3)) t := by
    intro t k
    refine pre0 t ?_
    show Steps p.tables e below (s₁.setTop (mkF m 0 #[.val (.ref a0), .val (.long q1), .second] [])) _
    refine XS.lloadN X0.here hx rfl (hb hby d1_0) rfl ?_
    show Steps p.tables e below (s₁.setTop (mkF m 1 #[.val (.ref a0), .val (.long q1), .second] [(.long q1)])) _
    refine X0.ldc2Long hx hown (mvT hZ (hw _ (List.mem_of_getElem? (i := 11) rfl))) (g := (mkF m 1 #[.val (.ref a0), .val (.long q1), .second] [(.long q1)])) rfl (hb hby d1_1) _ ?_
    show Steps p.tables e below (s₁.setTop (mkF m 4 #[.val (.ref a0), .val (.long q1), .second] [(.long (64 : Int64)), (.long q1)])) _
    refine XS.ladd X0.here hx rfl (hb hby d1_4) rfl ?_
    show Steps p.tables e below (s₁.setTop (mkF m 5 #[.val (.ref a0), .val (.long q1), .second] [(.long (q1 + (64 : Int64)))])) _
    refine XS.lconst X0.here hx rfl (hb hby d1_5) ?_
    show Steps p.tables e below (s₁.setTop (mkF m 6 #[.val (.ref a0), .val (.long q1), .second] [(.long (1 : Int64)), (.long (q1 + (64 : Int64)))])) _
    refine XS.lsub X0.here hx rfl (hb hby d1_6) rfl ?_
    show Steps p.tables e below (s₁.setTop (mkF m 7 #[.val (.ref a0), .val (.long q1), .second] [(.long ((q1 + (64 : Int64)) - (1 : Int64)))])) _
    refine X0.ldc2Long hx hown (mvT hZ (hw _ (List.mem_of_getElem? (i := 11) rfl))) (g := (mkF m 7 #[.val (.ref a0), .val (.long q1), .second] [(.long ((q1 + (64 : Int64)) - (1 : Int64)))])) rfl (hb hby d1_7) _ ?_
    show Steps p.tables e below (s₁.setTop (mkF m 10 #[.val (.ref a0), .val (.long q1), .second] [(.long (64 : Int64)), (.long ((q1 + (64 : Int64)) - (1 : Int64)))])) _
    refine XS.ldiv X0.here hx rfl (hb hby d1_10) rfl (by decide) ?_
    show Steps p.tables e below (s₁.setTop (mkF m 11 #[.val (.ref a0), .val (.long q1), .second] [(.long (((q1 + (64 : Int64)) - (1 : Int64)) / (64 : Int64)))])) _
    refine XS.aloadN X0.here hx rfl (hb hby d1_11) rfl rfl ?_
    show Steps p.tables e below (s₁.setTop (mkF m 12 #[.val (.ref a0), .val (.long q1), .second] [(.ref a0), (.long (((q1 + (64 : Int64)) - (1 : Int64)) / (64 : Int64)))])) _
    exact k
  obtain ⟨T2, X2, e2, st2⟩ := getF X0 hx hZ hown (host := "") (Or.inl (hw _ (List.mem_of_getElem? (i := 12) rfl))) Via.refl e0 F_width_a0 (g := (mkF m 12 #[.val (.ref a0), .val (.long q1), .second] [(.ref a0), (.long (((q1 + (64 : Int64)) - (1 : Int64)) / (64 : Int64)))])) rfl rfl (hb hby d1_12)
  have pre3 : ∀ t, Steps p.tables e below (T2.setTop (mkF m 15 #[.val (.ref a0), .val (.long q1), .second] [(.int w_width_a0), (.long (((q1 + (64 : Int64)) - (1 : Int64)) / (64 : Int64)))])) t → Steps p.tables e below (s₁.setTop (entryFrame m #[(.ref a0), (.long q1)] 3)) t := fun t k => pre1 t (st2 t k)
  obtain ⟨fs, hr, hrun, hended, hW, hsame⟩ := X2.leave (v := some (.int (((((q1 + (64 : Int64)) - (1 : Int64)) / (64 : Int64)) * (w_width_a0.toInt64)).toInt32))) (fun h => by rw [Bd.returns] at h; cases h)
  refine ⟨_, _, pre3 _ ?_, hrun, hended, _, _, rfl, ?_, ⟨_, rfl⟩, hW, hsame.mono (by decide) (by decide)⟩
  · show Steps p.tables e below (T2.setTop (mkF m 15 #[.val (.ref a0), .val (.long q1), .second] [(.int w_width_a0), (.long (((q1 + (64 : Int64)) - (1 : Int64)) / (64 : Int64)))])) _
    refine XS.i2l X2.here hx rfl (hb hby d1_15) rfl ?_
    show Steps p.tables e below (T2.setTop (mkF m 16 #[.val (.ref a0), .val (.long q1), .second] [(.long (w_width_a0.toInt64)), (.long (((q1 + (64 : Int64)) - (1 : Int64)) / (64 : Int64)))])) _
    refine XS.lmul X2.here hx rfl (hb hby d1_16) rfl ?_
    show Steps p.tables e below (T2.setTop (mkF m 17 #[.val (.ref a0), .val (.long q1), .second] [(.long ((((q1 + (64 : Int64)) - (1 : Int64)) / (64 : Int64)) * (w_width_a0.toInt64)))])) _
    refine XS.l2i X2.here hx rfl (hb hby d1_17) rfl ?_
    show Steps p.tables e below (T2.setTop (mkF m 18 #[.val (.ref a0), .val (.long q1), .second] [(.int (((((q1 + (64 : Int64)) - (1 : Int64)) / (64 : Int64)) * (w_width_a0.toInt64)).toInt32))])) _
    exact retOut X2 hx Bd.returns rfl (Or.inl ⟨rfl, Or.inl rfl, _, rfl⟩) (hb hby d1_18) hr
  · show Q1 Z a0 q1 w_width_a0 h0 n0 _ T2.heap _
    rw [e2]
    exact ⟨rfl, N0, rfl⟩
theorem own_eqI {a : Term} {k : Int32} {args : Array Value} {first s : State} {o : Option Outcome} {idx : List Nat} (h : (Cond.eq a (.int k)).value args first o s idx = some true) : a.eval args first o idx s = some (.int k) := by
  simp only [Cond.value, Term.eval] at h
  cases ha : a.eval args first o idx s with
  | none => simp [ha] at h
  | some x => cases x <;> simp [ha] at h ⊢; exact h
theorem own_eqJ {a : Term} {k : Int64} {args : Array Value} {first s : State} {o : Option Outcome} {idx : List Nat} (h : (Cond.eq a (.long k)).value args first o s idx = some true) : a.eval args first o idx s = some (.long k) := by
  simp only [Cond.value, Term.eval] at h
  cases ha : a.eval args first o idx s with
  | none => simp [ha] at h
  | some x => cases x <;> simp [ha] at h ⊢; exact h
theorem own_full {u q r full : Int64} (h0 : 0 ≤ u.toInt) (h1 : u.toInt ≤ 137438953280) (hq : q = ((u.toUInt64 >>> ((6 : Int32) &&& 0x3f).toInt64.toUInt64).toInt64)) (hr : r = (u &&& (63 : Int64))) (hf : full = (if r = (0 : Int64) then q else (q + (1 : Int64)))) :
    ((u + 64) - 1) / 64 = full ∧ full.toInt = (u.toInt + 63) / 64 := by
  have e1 : (1 : Int64).toInt = 1 := by decide
  have e64 : (64 : Int64).toInt = 64 := by decide
  have e0 : (0 : Int64).toInt = 0 := by decide
  have a1 : q.toInt = u.toInt / 2 ^ 6 := by
    rw [hq, Jvm.Kit.i64_lushr (k := 6) (by rw [Jvm.Kit.i64_nonneg]; exact h0) (by decide) (by decide)]
  have a2 : r.toInt = u.toInt % 2 ^ 6 := by rw [hr]; exact Jvm.Kit.i64_mask u 63 (k := 6) (by decide) (by decide)
  have a3 : full.toInt = (u.toInt + 63) / 64 := by
    by_cases c : r = 0
    · rw [hf, if_pos c, a1]; rw [← Int64.toInt_inj, a2, e0] at c; omega
    · rw [hf, if_neg c, Jvm.Kit.i64_add (by rw [a1, e1]; omega) (by rw [a1, e1]; omega), a1, e1]; rw [← Int64.toInt_inj, a2, e0] at c; omega
  have b1 : (u + 64).toInt = u.toInt + 64 := by rw [Jvm.Kit.i64_add (by rw [e64]; omega) (by rw [e64]; omega), e64]
  have b2 : (u + 64 - 1).toInt = u.toInt + 63 := by rw [Jvm.Kit.i64_sub (by rw [b1, e1]; omega) (by rw [b1, e1]; omega), b1, e1]; omega
  have b3 : ((u + 64 - 1) / 64).toInt = (u.toInt + 63) / 64 := by
    rw [Jvm.Kit.i64_div (by rw [e64]; omega), b2, e64, Int.tdiv_eq_ediv_of_nonneg (by omega)]
  exact ⟨Int64.toInt_inj.mp (by rw [b3, a3]), a3⟩
theorem own_back {y : Int64} (h0 : 0 ≤ y.toInt) (h1 : y.toInt < 2 ^ 31) : y.toInt32.toInt64 = y := by
  apply Int64.toInt_inj.mp
  rw [Jvm.Kit.i64_of_i32, Jvm.Kit.i32_of_i64 (by omega) h1]
theorem own_cells {q1 u : Int64} {p2 : Int32} (m m1 : Int64) (hm : 127 ≤ m.toInt) (hm2 : m.toInt < 2 ^ 62) (hm1 : m1.toInt = m.toInt + 1) (hu : u = (if (p2 &&& (1 : Int32)) = (0 : Int32) then ((q1 &&& (9223372036854775807 : Int64)) % m1) else (m - (q1 &&& (127 : Int64))))) :
    0 ≤ u.toInt ∧ u.toInt ≤ m.toInt := by
  have a1 : (q1 &&& 9223372036854775807).toInt = q1.toInt % 2 ^ 63 := Jvm.Kit.i64_mask q1 _ (k := 63) (by decide) (by decide)
  have a2 : (q1 &&& 127).toInt = q1.toInt % 2 ^ 7 := Jvm.Kit.i64_mask q1 _ (k := 7) (by decide) (by decide)
  by_cases c : (p2 &&& 1) = 0
  · rw [if_pos c] at hu
    have b : u.toInt = (q1.toInt % 2 ^ 63) % (m.toInt + 1) := by
      rw [hu, Int64.toInt_mod, a1, hm1, Int.tmod_eq_emod_of_nonneg (by omega)]
    have b1 := Int.emod_nonneg (q1.toInt % 2 ^ 63) (show m.toInt + 1 ≠ 0 by omega)
    have b2 := Int.emod_lt_of_pos (q1.toInt % 2 ^ 63) (show 0 < m.toInt + 1 by omega)
    omega
  · rw [if_neg c] at hu
    have b : u.toInt = m.toInt - q1.toInt % 2 ^ 7 := by
      rw [hu, Jvm.Kit.i64_sub (by rw [a2]; omega) (by rw [a2]; omega), a2]
    omega
theorem own_bitcase {q1 u q r full e : Int64} {p2 v : Int32} (hu : u = (if (p2 &&& (1 : Int32)) = (0 : Int32) then ((q1 &&& (9223372036854775807 : Int64)) % ((137438953280 : Int64) + (1 : Int64))) else ((137438953280 : Int64) - (q1 &&& (127 : Int64)))))
    (hq : q = ((u.toUInt64 >>> ((6 : Int32) &&& 0x3f).toInt64.toUInt64).toInt64)) (hr : r = (u &&& (63 : Int64))) (hf : full = (if r = (0 : Int64) then q else (q + (1 : Int64)))) (he : e = (full * (1 : Int64))) (hv : v = (f1 u (1 : Int32))) (h : ¬ ((v.toInt64) = e)) : False := by
  have e1 : (1 : Int64).toInt = 1 := by decide
  have em : (137438953280 : Int64).toInt = 137438953280 := by decide
  obtain ⟨c1, c2⟩ := own_cells (137438953280 : Int64) ((137438953280 : Int64) + (1 : Int64)) (by rw [em]; decide) (by rw [em]; decide) (by decide) hu
  rw [em] at c2
  obtain ⟨k1, k2⟩ := own_full c1 c2 hq hr hf
  apply h
  rw [hv, he]; unfold f1; rw [k1]
  have em : (full * 1).toInt = full.toInt := by rw [Int64.mul_one]
  show (full * 1).toInt32.toInt64 = full * 1
  exact own_back (by omega) (by omega)
theorem own_countercase {q1 u q r full e : Int64} {p2 v : Int32} (hu : u = (if (p2 &&& (1 : Int32)) = (0 : Int32) then ((q1 &&& (9223372036854775807 : Int64)) % ((34359738304 : Int64) + (1 : Int64))) else ((34359738304 : Int64) - (q1 &&& (127 : Int64)))))
    (hq : q = ((u.toUInt64 >>> ((6 : Int32) &&& 0x3f).toInt64.toUInt64).toInt64)) (hr : r = (u &&& (63 : Int64))) (hf : full = (if r = (0 : Int64) then q else (q + (1 : Int64)))) (he : e = (full * (4 : Int64))) (hv : v = (f1 u (4 : Int32))) (h : ¬ ((v.toInt64) = e)) : False := by
  have e4 : (4 : Int64).toInt = 4 := by decide
  have em : (34359738304 : Int64).toInt = 34359738304 := by decide
  obtain ⟨c1, c2⟩ := own_cells (34359738304 : Int64) ((34359738304 : Int64) + (1 : Int64)) (by rw [em]; decide) (by rw [em]; decide) (by decide) hu
  rw [em] at c2
  obtain ⟨k1, k2⟩ := own_full c1 (by omega) hq hr hf
  apply h
  rw [hv, he]; unfold f1; rw [k1]
  have em : (full * 4).toInt = full.toInt * 4 := by rw [Jvm.Kit.i64_mul (by rw [e4]; omega) (by rw [e4]; omega), e4]
  show (full * 4).toInt32.toInt64 = full * 4
  exact own_back (by omega) (by omega)

theorem pd_0 : parseMethodDescriptor "(J)I" = some ⟨[.long], some .int⟩ := by decide +kernel
theorem pn_1 : plainName "com/example/membership/membership/CellWordsForPinLaw" = true := by first | (simp [plainName, overriddenIn]; done) | decide +kernel
theorem ef_0 (m : MethodId) (x0 : Int32) (x1 : Int64) (x2 : Int32) : entryFrame m #[(.int x0), (.long x1), (.int x2)] maxLocals = mkF m 0 #[.val (.int x0), .val (.long x1), .second, .val (.int x2), .unset, .unset, .unset, .unset, .unset, .unset, .unset, .unset, .unset, .unset, .unset, .unset, .unset, .unset, .unset, .unset, .unset] [] := by first | (simp [entryFrame, mkF, argsToLocals, Value.category, maxLocals]; done) | rfl
def Q0 (Z : State) (p0 : Int32) (q1 : Int64) (p2 : Int32) (s_BIT : Addr) (s_COUNTER : Addr) (h0 : Heap) (n0 : Nat) (v : Option Value) (h : Heap) (L : List Loc) : Prop := v = some (.int 1) ∧ Fr n0 L
theorem own_leaf1 {p0 : Int32} {q1 : Int64} {p2 : Int32} {v8 : Int32} {u19 : Int64} {u22 : Int64} {u25 : Int64} {u31 : Int64} {u34 : Int64} {v39 : Int32} (hv8 : v8 = (if (p0 &&& (1 : Int32)) = (0 : Int32) then (0 : Int32) else (1 : Int32))) (hc15_11 : v8 = (0 : Int32)) (hu19 : u19 = (if (p2 &&& (1 : Int32)) = (0 : Int32) then ((q1 &&& (9223372036854775807 : Int64)) % (137438953281 : Int64)) else ((137438953280 : Int64) - (q1 &&& (127 : Int64))))) (hu22 : u22 = ((u19.toUInt64 >>> ((6 : Int32) &&& 0x3f).toInt64.toUInt64).toInt64)) (hu25 : u25 = (u19 &&& (63 : Int64))) (hu31 : u31 = (if u25 = (0 : Int64) then u22 else (u22 + (1 : Int64)))) (hu34 : u34 = (u31 * (1 : Int64))) (hv39 : v39 = (f1 u19 (1 : Int32))) (hc145_42 : ¬ ((v39.toInt64) = u34)) : False := by
  exact own_bitcase hu19 hu22 hu25 hu31 hu34 hv39 hc145_42
theorem own_leaf2 {p0 : Int32} {q1 : Int64} {p2 : Int32} {v8 : Int32} {u51 : Int64} {u54 : Int64} {u57 : Int64} {u63 : Int64} {u66 : Int64} {v71 : Int32} (hv8 : v8 = (if (p0 &&& (1 : Int32)) = (0 : Int32) then (0 : Int32) else (1 : Int32))) (hc15_11 : ¬ (v8 = (0 : Int32))) (hu51 : u51 = (if (p2 &&& (1 : Int32)) = (0 : Int32) then ((q1 &&& (9223372036854775807 : Int64)) % (34359738305 : Int64)) else ((34359738304 : Int64) - (q1 &&& (127 : Int64))))) (hu54 : u54 = ((u51.toUInt64 >>> ((6 : Int32) &&& 0x3f).toInt64.toUInt64).toInt64)) (hu57 : u57 = (u51 &&& (63 : Int64))) (hu63 : u63 = (if u57 = (0 : Int64) then u54 else (u54 + (1 : Int64)))) (hu66 : u66 = (u63 * (4 : Int64))) (hv71 : v71 = (f1 u51 (4 : Int32))) (hc145_74 : ¬ ((v71.toInt64) = u66)) : False := by
  exact own_countercase hu51 hu54 hu57 hu63 hu66 hv71 hc145_74
set_option maxRecDepth 65536 in
set_option maxHeartbeats 40000000 in
theorem rm0 (l : Launch) (Z : State) (ar0 : Array Value) (hw : ∀ d ∈ tables_1, d.before ar0 Z = true) (ws : List Jvm.Cond) (p0 : Int32) (q1 : Int64) (p2 : Int32) (s_BIT : Addr) (s_COUNTER : Addr) (h0 : Heap) (n0 : Nat) (Z0 : n0 ≤ h0.size) (S_BIT : Sta Z h0 "com/example/membership/membership/BloomShape$Cell" "BIT" "Lcom/example/membership/membership/BloomShape$Cell;" (.ref s_BIT)) (E_s_BIT : Exa Z h0 s_BIT "com/example/membership/membership/BloomShape$Cell") (F_width_s_BIT : Fld Z h0 s_BIT "com/example/membership/membership/BloomShape$Cell" "width" "I" (.int (1 : Int32))) (S_COUNTER : Sta Z h0 "com/example/membership/membership/BloomShape$Cell" "COUNTER" "Lcom/example/membership/membership/BloomShape$Cell;" (.ref s_COUNTER)) (E_s_COUNTER : Exa Z h0 s_COUNTER "com/example/membership/membership/BloomShape$Cell") (F_width_s_COUNTER : Fld Z h0 s_COUNTER "com/example/membership/membership/BloomShape$Cell" "width" "I" (.int (4 : Int32))) :
    MetFree l x (head1 (Jvm.Cond.code x code maxLocals ret :: ws) room_1) (fun a U => a = #[(.int p0), (.long q1), (.int p2)] ∧ Z.Warmed39 U.vm ∧ U.heap = h0) (fun _ _ _ _ _ => True) (fun _ U o U' => ∃ v L, o = .returned v ∧ Q0 Z p0 q1 p2 s_BIT s_COUNTER h0 n0 v U'.heap L ∧ FrameEnd U o U' L room_1.cells room_1.slots) := by
  refine MetFree.of_bodySF (plainFor_of_name pn_1) hisR ?_
  intro p e s m args below meth c s₁ Bd hml0 hP hK
  obtain ⟨rfl, hZ, hh⟩ := hP
  have hx := Bd.exec
  have hby := Bd.bytes
  have hml : c.maxLocals = 21 := hml0
  have hown : s.vm.findClass "com/example/membership/membership/CellWordsForPinLaw" = some m.cls := findClass_of_methodNamed Bd.named
  have hnm := (name_of_methodNamed Bd.named Bd.method).1
  have X0 : Stand p l e room_1 s m #[(.int p0), (.long q1), (.int p2)] below meth c s₁ [] 0 0 := Stand.of_body Bd
  have e0 : s₁.heap = h0 := by rw [← hh, Bd.state]; rfl
  have N0 := Fr.nil n0
  have pre0 : ∀ t, Steps p.tables e below (s₁.setTop (mkF m 0 #[.val (.int p0), .val (.long q1), .second, .val (.int p2), .unset, .unset, .unset, .unset, .unset, .unset, .unset, .unset, .unset, .unset, .unset, .unset, .unset, .unset, .unset, .unset, .unset] [])) t → Steps p.tables e below (s₁.setTop (entryFrame m #[(.int p0), (.long q1), (.int p2)] maxLocals)) t := fun t k => castTop (ef_0 m p0 q1 p2) k
  have pre4 : ∀ t, Steps p.tables e below (s₁.setTop (mkF m 3 #[.val (.int p0), .val (.long q1), .second, .val (.int p2), .unset, .unset, .unset, .unset, .unset, .unset, .unset, .unset, .unset, .unset, .unset, .unset, .unset, .unset, .unset, .unset, .unset] [(.int (p0 &&& (1 : Int32)))])) t → Steps p.tables e below (s₁.setTop (entryFrame m #[(.int p0), (.long q1), (.int p2)] maxLocals)) t := by
    intro t k
    refine pre0 t ?_
    show Steps p.tables e below (s₁.setTop (mkF m 0 #[.val (.int p0), .val (.long q1), .second, .val (.int p2), .unset, .unset, .unset, .unset, .unset, .unset, .unset, .unset, .unset, .unset, .unset, .unset, .unset, .unset, .unset, .unset, .unset] [])) _
    refine XS.iloadN X0.here hx rfl (hb hby at_0) rfl ?_
    show Steps p.tables e below (s₁.setTop (mkF m 1 #[.val (.int p0), .val (.long q1), .second, .val (.int p2), .unset, .unset, .unset, .unset, .unset, .unset, .unset, .unset, .unset, .unset, .unset, .unset, .unset, .unset, .unset, .unset, .unset] [(.int p0)])) _
    refine XS.iconst X0.here hx rfl (hb hby at_1) ?_
    show Steps p.tables e below (s₁.setTop (mkF m 2 #[.val (.int p0), .val (.long q1), .second, .val (.int p2), .unset, .unset, .unset, .unset, .unset, .unset, .unset, .unset, .unset, .unset, .unset, .unset, .unset, .unset, .unset, .unset, .unset] [(.int (1 : Int32)), (.int p0)])) _
    refine XS.iand X0.here hx rfl (hb hby at_2) rfl ?_
    show Steps p.tables e below (s₁.setTop (mkF m 3 #[.val (.int p0), .val (.long q1), .second, .val (.int p2), .unset, .unset, .unset, .unset, .unset, .unset, .unset, .unset, .unset, .unset, .unset, .unset, .unset, .unset, .unset, .unset, .unset] [(.int (p0 &&& (1 : Int32)))])) _
    exact k
  obtain ⟨v8, pre9, hv8⟩ : ∃ (v8 : Int32), (∀ t, Steps p.tables e below (s₁.setTop (mkF m 11 #[.val (.int p0), .val (.long q1), .second, .val (.int p2), .unset, .unset, .unset, .unset, .unset, .unset, .unset, .unset, .unset, .unset, .unset, .unset, .unset, .unset, .unset, .unset, .unset] [(.int v8)])) t → Steps p.tables e below (s₁.setTop (entryFrame m #[(.int p0), (.long q1), (.int p2)] maxLocals)) t) ∧ v8 = (if (p0 &&& (1 : Int32)) = (0 : Int32) then (0 : Int32) else (1 : Int32)) := by
    by_cases hc3_5 : (p0 &&& (1 : Int32)) = (0 : Int32)
    · have pre6 : ∀ t, Steps p.tables e below (s₁.setTop (mkF m 11 #[.val (.int p0), .val (.long q1), .second, .val (.int p2), .unset, .unset, .unset, .unset, .unset, .unset, .unset, .unset, .unset, .unset, .unset, .unset, .unset, .unset, .unset, .unset, .unset] [(.int (0 : Int32))])) t → Steps p.tables e below (s₁.setTop (entryFrame m #[(.int p0), (.long q1), (.int p2)] maxLocals)) t := by
        intro t k
        refine pre4 t ?_
        show Steps p.tables e below (s₁.setTop (mkF m 3 #[.val (.int p0), .val (.long q1), .second, .val (.int p2), .unset, .unset, .unset, .unset, .unset, .unset, .unset, .unset, .unset, .unset, .unset, .unset, .unset, .unset, .unset, .unset, .unset] [(.int (p0 &&& (1 : Int32)))])) _
        refine XS.ifYes X0.here hx rfl (pc0 := 3) (pc' := 10) rfl (hb hby at_3) rfl ((if0 _ _).trans (teq hc3_5).1) (by decide) (by decide) ?_
        show Steps p.tables e below (s₁.setTop (mkF m 10 #[.val (.int p0), .val (.long q1), .second, .val (.int p2), .unset, .unset, .unset, .unset, .unset, .unset, .unset, .unset, .unset, .unset, .unset, .unset, .unset, .unset, .unset, .unset, .unset] [])) _
        refine XS.iconst X0.here hx rfl (hb hby at_10) ?_
        show Steps p.tables e below (s₁.setTop (mkF m 11 #[.val (.int p0), .val (.long q1), .second, .val (.int p2), .unset, .unset, .unset, .unset, .unset, .unset, .unset, .unset, .unset, .unset, .unset, .unset, .unset, .unset, .unset, .unset, .unset] [(.int (0 : Int32))])) _
        exact k
      exact ⟨(0 : Int32), pre6, by rw [if_pos hc3_5]⟩
    · have pre7 : ∀ t, Steps p.tables e below (s₁.setTop (mkF m 11 #[.val (.int p0), .val (.long q1), .second, .val (.int p2), .unset, .unset, .unset, .unset, .unset, .unset, .unset, .unset, .unset, .unset, .unset, .unset, .unset, .unset, .unset, .unset, .unset] [(.int (1 : Int32))])) t → Steps p.tables e below (s₁.setTop (entryFrame m #[(.int p0), (.long q1), (.int p2)] maxLocals)) t := by
        intro t k
        refine pre4 t ?_
        show Steps p.tables e below (s₁.setTop (mkF m 3 #[.val (.int p0), .val (.long q1), .second, .val (.int p2), .unset, .unset, .unset, .unset, .unset, .unset, .unset, .unset, .unset, .unset, .unset, .unset, .unset, .unset, .unset, .unset, .unset] [(.int (p0 &&& (1 : Int32)))])) _
        refine XS.ifNo X0.here hx rfl (hb hby at_3) rfl ((if0 _ _).trans (feq hc3_5).1) ?_
        show Steps p.tables e below (s₁.setTop (mkF m 6 #[.val (.int p0), .val (.long q1), .second, .val (.int p2), .unset, .unset, .unset, .unset, .unset, .unset, .unset, .unset, .unset, .unset, .unset, .unset, .unset, .unset, .unset, .unset, .unset] [])) _
        refine XS.iconst X0.here hx rfl (hb hby at_6) ?_
        show Steps p.tables e below (s₁.setTop (mkF m 7 #[.val (.int p0), .val (.long q1), .second, .val (.int p2), .unset, .unset, .unset, .unset, .unset, .unset, .unset, .unset, .unset, .unset, .unset, .unset, .unset, .unset, .unset, .unset, .unset] [(.int (1 : Int32))])) _
        refine XS.goto X0.here hx rfl (pc0 := 7) (pc' := 11) rfl (hb hby at_7) (by decide) (by decide) ?_
        show Steps p.tables e below (s₁.setTop (mkF m 11 #[.val (.int p0), .val (.long q1), .second, .val (.int p2), .unset, .unset, .unset, .unset, .unset, .unset, .unset, .unset, .unset, .unset, .unset, .unset, .unset, .unset, .unset, .unset, .unset] [(.int (1 : Int32))])) _
        exact k
      exact ⟨(1 : Int32), pre7, by rw [if_neg hc3_5]⟩
  have pre10 : ∀ t, Steps p.tables e below (s₁.setTop (mkF m 15 #[.val (.int p0), .val (.long q1), .second, .val (.int p2), .val (.int v8), .unset, .unset, .unset, .unset, .unset, .unset, .unset, .unset, .unset, .unset, .unset, .unset, .unset, .unset, .unset, .unset] [(.int v8)])) t → Steps p.tables e below (s₁.setTop (entryFrame m #[(.int p0), (.long q1), (.int p2)] maxLocals)) t := by
    intro t k
    refine pre9 t ?_
    show Steps p.tables e below (s₁.setTop (mkF m 11 #[.val (.int p0), .val (.long q1), .second, .val (.int p2), .unset, .unset, .unset, .unset, .unset, .unset, .unset, .unset, .unset, .unset, .unset, .unset, .unset, .unset, .unset, .unset, .unset] [(.int v8)])) _
    refine XS.istore X0.here hx rfl (hb hby at_11) rfl (l' := #[.val (.int p0), .val (.long q1), .second, .val (.int p2), .val (.int v8), .unset, .unset, .unset, .unset, .unset, .unset, .unset, .unset, .unset, .unset, .unset, .unset, .unset, .unset, .unset, .unset]) rfl ?_
    show Steps p.tables e below (s₁.setTop (mkF m 13 #[.val (.int p0), .val (.long q1), .second, .val (.int p2), .val (.int v8), .unset, .unset, .unset, .unset, .unset, .unset, .unset, .unset, .unset, .unset, .unset, .unset, .unset, .unset, .unset, .unset] [])) _
    refine XS.iload X0.here hx rfl (hb hby at_13) rfl ?_
    show Steps p.tables e below (s₁.setTop (mkF m 15 #[.val (.int p0), .val (.long q1), .second, .val (.int p2), .val (.int v8), .unset, .unset, .unset, .unset, .unset, .unset, .unset, .unset, .unset, .unset, .unset, .unset, .unset, .unset, .unset, .unset] [(.int v8)])) _
    exact k
  by_cases hc15_11 : v8 = (0 : Int32)
  · have pre12 : ∀ t, Steps p.tables e below (s₁.setTop (mkF m 24 #[.val (.int p0), .val (.long q1), .second, .val (.int p2), .val (.int v8), .unset, .unset, .unset, .unset, .unset, .unset, .unset, .unset, .unset, .unset, .unset, .unset, .unset, .unset, .unset, .unset] [])) t → Steps p.tables e below (s₁.setTop (entryFrame m #[(.int p0), (.long q1), (.int p2)] maxLocals)) t := by
      intro t k
      refine pre10 t ?_
      show Steps p.tables e below (s₁.setTop (mkF m 15 #[.val (.int p0), .val (.long q1), .second, .val (.int p2), .val (.int v8), .unset, .unset, .unset, .unset, .unset, .unset, .unset, .unset, .unset, .unset, .unset, .unset, .unset, .unset, .unset, .unset] [(.int v8)])) _
      refine XS.ifYes X0.here hx rfl (pc0 := 15) (pc' := 24) rfl (hb hby at_15) rfl ((if0 _ _).trans (teq hc15_11).1) (by decide) (by decide) ?_
      show Steps p.tables e below (s₁.setTop (mkF m 24 #[.val (.int p0), .val (.long q1), .second, .val (.int p2), .val (.int v8), .unset, .unset, .unset, .unset, .unset, .unset, .unset, .unset, .unset, .unset, .unset, .unset, .unset, .unset, .unset, .unset] [])) _
      exact k
    obtain ⟨T13, X13, e13, st13⟩ := getS2 X0 hx hZ hown (host := "") (Or.inl (hw _ (List.mem_of_getElem? (i := 0) rfl))) Via.refl e0 S_BIT (g := (mkF m 24 #[.val (.int p0), .val (.long q1), .second, .val (.int p2), .val (.int v8), .unset, .unset, .unset, .unset, .unset, .unset, .unset, .unset, .unset, .unset, .unset, .unset, .unset, .unset, .unset, .unset] [])) rfl (hb hby at_24)
    have pre14 : ∀ t, Steps p.tables e below (T13.setTop (mkF m 27 #[.val (.int p0), .val (.long q1), .second, .val (.int p2), .val (.int v8), .unset, .unset, .unset, .unset, .unset, .unset, .unset, .unset, .unset, .unset, .unset, .unset, .unset, .unset, .unset, .unset] [(.ref s_BIT)])) t → Steps p.tables e below (s₁.setTop (entryFrame m #[(.int p0), (.long q1), (.int p2)] maxLocals)) t := fun t k => pre12 t (st13 t k)
    have pre15 : ∀ t, Steps p.tables e below (T13.setTop (mkF m 62 #[.val (.int p0), .val (.long q1), .second, .val (.int p2), .val (.int v8), .val (.ref s_BIT), .val (.long (1 : Int64)), .second, .val (.long (137438953280 : Int64)), .second, .unset, .unset, .unset, .unset, .unset, .unset, .unset, .unset, .unset, .unset, .unset] [(.int (p2 &&& (1 : Int32)))])) t → Steps p.tables e below (s₁.setTop (entryFrame m #[(.int p0), (.long q1), (.int p2)] maxLocals)) t := by
      intro t k
      refine pre14 t ?_
      show Steps p.tables e below (T13.setTop (mkF m 27 #[.val (.int p0), .val (.long q1), .second, .val (.int p2), .val (.int v8), .unset, .unset, .unset, .unset, .unset, .unset, .unset, .unset, .unset, .unset, .unset, .unset, .unset, .unset, .unset, .unset] [(.ref s_BIT)])) _
      refine XS.astore X13.here hx rfl (hb hby at_27) rfl rfl (l' := #[.val (.int p0), .val (.long q1), .second, .val (.int p2), .val (.int v8), .val (.ref s_BIT), .unset, .unset, .unset, .unset, .unset, .unset, .unset, .unset, .unset, .unset, .unset, .unset, .unset, .unset, .unset]) rfl ?_
      show Steps p.tables e below (T13.setTop (mkF m 29 #[.val (.int p0), .val (.long q1), .second, .val (.int p2), .val (.int v8), .val (.ref s_BIT), .unset, .unset, .unset, .unset, .unset, .unset, .unset, .unset, .unset, .unset, .unset, .unset, .unset, .unset, .unset] [])) _
      refine XS.iload X13.here hx rfl (hb hby at_29) rfl ?_
      show Steps p.tables e below (T13.setTop (mkF m 31 #[.val (.int p0), .val (.long q1), .second, .val (.int p2), .val (.int v8), .val (.ref s_BIT), .unset, .unset, .unset, .unset, .unset, .unset, .unset, .unset, .unset, .unset, .unset, .unset, .unset, .unset, .unset] [(.int v8)])) _
      show Steps p.tables e below (T13.setTop (mkF m 31 #[.val (.int p0), .val (.long q1), .second, .val (.int p2), .val (.int v8), .val (.ref s_BIT), .unset, .unset, .unset, .unset, .unset, .unset, .unset, .unset, .unset, .unset, .unset, .unset, .unset, .unset, .unset] [(.int v8)])) _
      refine XS.ifYes X13.here hx rfl (pc0 := 31) (pc' := 40) rfl (hb hby at_31) rfl ((if0 _ _).trans (teq hc15_11).1) (by decide) (by decide) ?_
      show Steps p.tables e below (T13.setTop (mkF m 40 #[.val (.int p0), .val (.long q1), .second, .val (.int p2), .val (.int v8), .val (.ref s_BIT), .unset, .unset, .unset, .unset, .unset, .unset, .unset, .unset, .unset, .unset, .unset, .unset, .unset, .unset, .unset] [])) _
      refine XS.lconst X13.here hx rfl (hb hby at_40) ?_
      show Steps p.tables e below (T13.setTop (mkF m 41 #[.val (.int p0), .val (.long q1), .second, .val (.int p2), .val (.int v8), .val (.ref s_BIT), .unset, .unset, .unset, .unset, .unset, .unset, .unset, .unset, .unset, .unset, .unset, .unset, .unset, .unset, .unset] [(.long (1 : Int64))])) _
      refine XS.lstore X13.here hx rfl (hb hby at_41) rfl (l' := #[.val (.int p0), .val (.long q1), .second, .val (.int p2), .val (.int v8), .val (.ref s_BIT), .val (.long (1 : Int64)), .second, .unset, .unset, .unset, .unset, .unset, .unset, .unset, .unset, .unset, .unset, .unset, .unset, .unset]) rfl ?_
      show Steps p.tables e below (T13.setTop (mkF m 43 #[.val (.int p0), .val (.long q1), .second, .val (.int p2), .val (.int v8), .val (.ref s_BIT), .val (.long (1 : Int64)), .second, .unset, .unset, .unset, .unset, .unset, .unset, .unset, .unset, .unset, .unset, .unset, .unset, .unset] [])) _
      refine XS.iload X13.here hx rfl (hb hby at_43) rfl ?_
      show Steps p.tables e below (T13.setTop (mkF m 45 #[.val (.int p0), .val (.long q1), .second, .val (.int p2), .val (.int v8), .val (.ref s_BIT), .val (.long (1 : Int64)), .second, .unset, .unset, .unset, .unset, .unset, .unset, .unset, .unset, .unset, .unset, .unset, .unset, .unset] [(.int v8)])) _
      show Steps p.tables e below (T13.setTop (mkF m 45 #[.val (.int p0), .val (.long q1), .second, .val (.int p2), .val (.int v8), .val (.ref s_BIT), .val (.long (1 : Int64)), .second, .unset, .unset, .unset, .unset, .unset, .unset, .unset, .unset, .unset, .unset, .unset, .unset, .unset] [(.int v8)])) _
      refine XS.ifYes X13.here hx rfl (pc0 := 45) (pc' := 54) rfl (hb hby at_45) rfl ((if0 _ _).trans (teq hc15_11).1) (by decide) (by decide) ?_
      show Steps p.tables e below (T13.setTop (mkF m 54 #[.val (.int p0), .val (.long q1), .second, .val (.int p2), .val (.int v8), .val (.ref s_BIT), .val (.long (1 : Int64)), .second, .unset, .unset, .unset, .unset, .unset, .unset, .unset, .unset, .unset, .unset, .unset, .unset, .unset] [])) _
      refine X13.ldc2Long hx hown (mvT hZ (hw _ (List.mem_of_getElem? (i := 3) rfl))) (g := (mkF m 54 #[.val (.int p0), .val (.long q1), .second, .val (.int p2), .val (.int v8), .val (.ref s_BIT), .val (.long (1 : Int64)), .second, .unset, .unset, .unset, .unset, .unset, .unset, .unset, .unset, .unset, .unset, .unset, .unset, .unset] [])) rfl (hb hby at_54) _ ?_
      show Steps p.tables e below (T13.setTop (mkF m 57 #[.val (.int p0), .val (.long q1), .second, .val (.int p2), .val (.int v8), .val (.ref s_BIT), .val (.long (1 : Int64)), .second, .unset, .unset, .unset, .unset, .unset, .unset, .unset, .unset, .unset, .unset, .unset, .unset, .unset] [(.long (137438953280 : Int64))])) _
      refine XS.lstore X13.here hx rfl (hb hby at_57) rfl (l' := #[.val (.int p0), .val (.long q1), .second, .val (.int p2), .val (.int v8), .val (.ref s_BIT), .val (.long (1 : Int64)), .second, .val (.long (137438953280 : Int64)), .second, .unset, .unset, .unset, .unset, .unset, .unset, .unset, .unset, .unset, .unset, .unset]) rfl ?_
      show Steps p.tables e below (T13.setTop (mkF m 59 #[.val (.int p0), .val (.long q1), .second, .val (.int p2), .val (.int v8), .val (.ref s_BIT), .val (.long (1 : Int64)), .second, .val (.long (137438953280 : Int64)), .second, .unset, .unset, .unset, .unset, .unset, .unset, .unset, .unset, .unset, .unset, .unset] [])) _
      refine XS.iloadN X13.here hx rfl (hb hby at_59) rfl ?_
      show Steps p.tables e below (T13.setTop (mkF m 60 #[.val (.int p0), .val (.long q1), .second, .val (.int p2), .val (.int v8), .val (.ref s_BIT), .val (.long (1 : Int64)), .second, .val (.long (137438953280 : Int64)), .second, .unset, .unset, .unset, .unset, .unset, .unset, .unset, .unset, .unset, .unset, .unset] [(.int p2)])) _
      refine XS.iconst X13.here hx rfl (hb hby at_60) ?_
      show Steps p.tables e below (T13.setTop (mkF m 61 #[.val (.int p0), .val (.long q1), .second, .val (.int p2), .val (.int v8), .val (.ref s_BIT), .val (.long (1 : Int64)), .second, .val (.long (137438953280 : Int64)), .second, .unset, .unset, .unset, .unset, .unset, .unset, .unset, .unset, .unset, .unset, .unset] [(.int (1 : Int32)), (.int p2)])) _
      refine XS.iand X13.here hx rfl (hb hby at_61) rfl ?_
      show Steps p.tables e below (T13.setTop (mkF m 62 #[.val (.int p0), .val (.long q1), .second, .val (.int p2), .val (.int v8), .val (.ref s_BIT), .val (.long (1 : Int64)), .second, .val (.long (137438953280 : Int64)), .second, .unset, .unset, .unset, .unset, .unset, .unset, .unset, .unset, .unset, .unset, .unset] [(.int (p2 &&& (1 : Int32)))])) _
      exact k
    obtain ⟨u19, pre20, hu19⟩ : ∃ (u19 : Int64), (∀ t, Steps p.tables e below (T13.setTop (mkF m 90 #[.val (.int p0), .val (.long q1), .second, .val (.int p2), .val (.int v8), .val (.ref s_BIT), .val (.long (1 : Int64)), .second, .val (.long (137438953280 : Int64)), .second, .val (.long u19), .second, .unset, .unset, .unset, .unset, .unset, .unset, .unset, .unset, .unset] [])) t → Steps p.tables e below (s₁.setTop (entryFrame m #[(.int p0), (.long q1), (.int p2)] maxLocals)) t) ∧ u19 = (if (p2 &&& (1 : Int32)) = (0 : Int32) then ((q1 &&& (9223372036854775807 : Int64)) % (137438953281 : Int64)) else ((137438953280 : Int64) - (q1 &&& (127 : Int64)))) := by
      by_cases hc62_16 : (p2 &&& (1 : Int32)) = (0 : Int32)
      · have pre17 : ∀ t, Steps p.tables e below (T13.setTop (mkF m 90 #[.val (.int p0), .val (.long q1), .second, .val (.int p2), .val (.int v8), .val (.ref s_BIT), .val (.long (1 : Int64)), .second, .val (.long (137438953280 : Int64)), .second, .val (.long ((q1 &&& (9223372036854775807 : Int64)) % (137438953281 : Int64))), .second, .unset, .unset, .unset, .unset, .unset, .unset, .unset, .unset, .unset] [])) t → Steps p.tables e below (s₁.setTop (entryFrame m #[(.int p0), (.long q1), (.int p2)] maxLocals)) t := by
          intro t k
          refine pre15 t ?_
          show Steps p.tables e below (T13.setTop (mkF m 62 #[.val (.int p0), .val (.long q1), .second, .val (.int p2), .val (.int v8), .val (.ref s_BIT), .val (.long (1 : Int64)), .second, .val (.long (137438953280 : Int64)), .second, .unset, .unset, .unset, .unset, .unset, .unset, .unset, .unset, .unset, .unset, .unset] [(.int (p2 &&& (1 : Int32)))])) _
          refine XS.ifYes X13.here hx rfl (pc0 := 62) (pc' := 78) rfl (hb hby at_62) rfl ((if0 _ _).trans (teq hc62_16).1) (by decide) (by decide) ?_
          show Steps p.tables e below (T13.setTop (mkF m 78 #[.val (.int p0), .val (.long q1), .second, .val (.int p2), .val (.int v8), .val (.ref s_BIT), .val (.long (1 : Int64)), .second, .val (.long (137438953280 : Int64)), .second, .unset, .unset, .unset, .unset, .unset, .unset, .unset, .unset, .unset, .unset, .unset] [])) _
          refine XS.lloadN X13.here hx rfl (hb hby at_78) rfl ?_
          show Steps p.tables e below (T13.setTop (mkF m 79 #[.val (.int p0), .val (.long q1), .second, .val (.int p2), .val (.int v8), .val (.ref s_BIT), .val (.long (1 : Int64)), .second, .val (.long (137438953280 : Int64)), .second, .unset, .unset, .unset, .unset, .unset, .unset, .unset, .unset, .unset, .unset, .unset] [(.long q1)])) _
          refine X13.ldc2Long hx hown (mvT hZ (hw _ (List.mem_of_getElem? (i := 14) rfl))) (g := (mkF m 79 #[.val (.int p0), .val (.long q1), .second, .val (.int p2), .val (.int v8), .val (.ref s_BIT), .val (.long (1 : Int64)), .second, .val (.long (137438953280 : Int64)), .second, .unset, .unset, .unset, .unset, .unset, .unset, .unset, .unset, .unset, .unset, .unset] [(.long q1)])) rfl (hb hby at_79) _ ?_
          show Steps p.tables e below (T13.setTop (mkF m 82 #[.val (.int p0), .val (.long q1), .second, .val (.int p2), .val (.int v8), .val (.ref s_BIT), .val (.long (1 : Int64)), .second, .val (.long (137438953280 : Int64)), .second, .unset, .unset, .unset, .unset, .unset, .unset, .unset, .unset, .unset, .unset, .unset] [(.long (9223372036854775807 : Int64)), (.long q1)])) _
          refine XS.land X13.here hx rfl (hb hby at_82) rfl ?_
          show Steps p.tables e below (T13.setTop (mkF m 83 #[.val (.int p0), .val (.long q1), .second, .val (.int p2), .val (.int v8), .val (.ref s_BIT), .val (.long (1 : Int64)), .second, .val (.long (137438953280 : Int64)), .second, .unset, .unset, .unset, .unset, .unset, .unset, .unset, .unset, .unset, .unset, .unset] [(.long (q1 &&& (9223372036854775807 : Int64)))])) _
          refine XS.lload X13.here hx rfl (hb hby at_83) rfl ?_
          show Steps p.tables e below (T13.setTop (mkF m 85 #[.val (.int p0), .val (.long q1), .second, .val (.int p2), .val (.int v8), .val (.ref s_BIT), .val (.long (1 : Int64)), .second, .val (.long (137438953280 : Int64)), .second, .unset, .unset, .unset, .unset, .unset, .unset, .unset, .unset, .unset, .unset, .unset] [(.long (137438953280 : Int64)), (.long (q1 &&& (9223372036854775807 : Int64)))])) _
          refine XS.lconst X13.here hx rfl (hb hby at_85) ?_
          show Steps p.tables e below (T13.setTop (mkF m 86 #[.val (.int p0), .val (.long q1), .second, .val (.int p2), .val (.int v8), .val (.ref s_BIT), .val (.long (1 : Int64)), .second, .val (.long (137438953280 : Int64)), .second, .unset, .unset, .unset, .unset, .unset, .unset, .unset, .unset, .unset, .unset, .unset] [(.long (1 : Int64)), (.long (137438953280 : Int64)), (.long (q1 &&& (9223372036854775807 : Int64)))])) _
          refine XS.ladd X13.here hx rfl (hb hby at_86) rfl ?_
          show Steps p.tables e below (T13.setTop (mkF m 87 #[.val (.int p0), .val (.long q1), .second, .val (.int p2), .val (.int v8), .val (.ref s_BIT), .val (.long (1 : Int64)), .second, .val (.long (137438953280 : Int64)), .second, .unset, .unset, .unset, .unset, .unset, .unset, .unset, .unset, .unset, .unset, .unset] [(.long (137438953281 : Int64)), (.long (q1 &&& (9223372036854775807 : Int64)))])) _
          refine XS.lrem X13.here hx rfl (hb hby at_87) rfl (by decide) ?_
          rw [lrem_mod]
          show Steps p.tables e below (T13.setTop (mkF m 88 #[.val (.int p0), .val (.long q1), .second, .val (.int p2), .val (.int v8), .val (.ref s_BIT), .val (.long (1 : Int64)), .second, .val (.long (137438953280 : Int64)), .second, .unset, .unset, .unset, .unset, .unset, .unset, .unset, .unset, .unset, .unset, .unset] [(.long ((q1 &&& (9223372036854775807 : Int64)) % (137438953281 : Int64)))])) _
          refine XS.lstore X13.here hx rfl (hb hby at_88) rfl (l' := #[.val (.int p0), .val (.long q1), .second, .val (.int p2), .val (.int v8), .val (.ref s_BIT), .val (.long (1 : Int64)), .second, .val (.long (137438953280 : Int64)), .second, .val (.long ((q1 &&& (9223372036854775807 : Int64)) % (137438953281 : Int64))), .second, .unset, .unset, .unset, .unset, .unset, .unset, .unset, .unset, .unset]) rfl ?_
          show Steps p.tables e below (T13.setTop (mkF m 90 #[.val (.int p0), .val (.long q1), .second, .val (.int p2), .val (.int v8), .val (.ref s_BIT), .val (.long (1 : Int64)), .second, .val (.long (137438953280 : Int64)), .second, .val (.long ((q1 &&& (9223372036854775807 : Int64)) % (137438953281 : Int64))), .second, .unset, .unset, .unset, .unset, .unset, .unset, .unset, .unset, .unset] [])) _
          exact k
        exact ⟨((q1 &&& (9223372036854775807 : Int64)) % (137438953281 : Int64)), pre17, by rw [if_pos hc62_16]⟩
      · have pre18 : ∀ t, Steps p.tables e below (T13.setTop (mkF m 90 #[.val (.int p0), .val (.long q1), .second, .val (.int p2), .val (.int v8), .val (.ref s_BIT), .val (.long (1 : Int64)), .second, .val (.long (137438953280 : Int64)), .second, .val (.long ((137438953280 : Int64) - (q1 &&& (127 : Int64)))), .second, .unset, .unset, .unset, .unset, .unset, .unset, .unset, .unset, .unset] [])) t → Steps p.tables e below (s₁.setTop (entryFrame m #[(.int p0), (.long q1), (.int p2)] maxLocals)) t := by
          intro t k
          refine pre15 t ?_
          show Steps p.tables e below (T13.setTop (mkF m 62 #[.val (.int p0), .val (.long q1), .second, .val (.int p2), .val (.int v8), .val (.ref s_BIT), .val (.long (1 : Int64)), .second, .val (.long (137438953280 : Int64)), .second, .unset, .unset, .unset, .unset, .unset, .unset, .unset, .unset, .unset, .unset, .unset] [(.int (p2 &&& (1 : Int32)))])) _
          refine XS.ifNo X13.here hx rfl (hb hby at_62) rfl ((if0 _ _).trans (feq hc62_16).1) ?_
          show Steps p.tables e below (T13.setTop (mkF m 65 #[.val (.int p0), .val (.long q1), .second, .val (.int p2), .val (.int v8), .val (.ref s_BIT), .val (.long (1 : Int64)), .second, .val (.long (137438953280 : Int64)), .second, .unset, .unset, .unset, .unset, .unset, .unset, .unset, .unset, .unset, .unset, .unset] [])) _
          refine XS.lload X13.here hx rfl (hb hby at_65) rfl ?_
          show Steps p.tables e below (T13.setTop (mkF m 67 #[.val (.int p0), .val (.long q1), .second, .val (.int p2), .val (.int v8), .val (.ref s_BIT), .val (.long (1 : Int64)), .second, .val (.long (137438953280 : Int64)), .second, .unset, .unset, .unset, .unset, .unset, .unset, .unset, .unset, .unset, .unset, .unset] [(.long (137438953280 : Int64))])) _
          refine XS.lloadN X13.here hx rfl (hb hby at_67) rfl ?_
          show Steps p.tables e below (T13.setTop (mkF m 68 #[.val (.int p0), .val (.long q1), .second, .val (.int p2), .val (.int v8), .val (.ref s_BIT), .val (.long (1 : Int64)), .second, .val (.long (137438953280 : Int64)), .second, .unset, .unset, .unset, .unset, .unset, .unset, .unset, .unset, .unset, .unset, .unset] [(.long q1), (.long (137438953280 : Int64))])) _
          refine X13.ldc2Long hx hown (mvT hZ (hw _ (List.mem_of_getElem? (i := 4) rfl))) (g := (mkF m 68 #[.val (.int p0), .val (.long q1), .second, .val (.int p2), .val (.int v8), .val (.ref s_BIT), .val (.long (1 : Int64)), .second, .val (.long (137438953280 : Int64)), .second, .unset, .unset, .unset, .unset, .unset, .unset, .unset, .unset, .unset, .unset, .unset] [(.long q1), (.long (137438953280 : Int64))])) rfl (hb hby at_68) _ ?_
          show Steps p.tables e below (T13.setTop (mkF m 71 #[.val (.int p0), .val (.long q1), .second, .val (.int p2), .val (.int v8), .val (.ref s_BIT), .val (.long (1 : Int64)), .second, .val (.long (137438953280 : Int64)), .second, .unset, .unset, .unset, .unset, .unset, .unset, .unset, .unset, .unset, .unset, .unset] [(.long (127 : Int64)), (.long q1), (.long (137438953280 : Int64))])) _
          refine XS.land X13.here hx rfl (hb hby at_71) rfl ?_
          show Steps p.tables e below (T13.setTop (mkF m 72 #[.val (.int p0), .val (.long q1), .second, .val (.int p2), .val (.int v8), .val (.ref s_BIT), .val (.long (1 : Int64)), .second, .val (.long (137438953280 : Int64)), .second, .unset, .unset, .unset, .unset, .unset, .unset, .unset, .unset, .unset, .unset, .unset] [(.long (q1 &&& (127 : Int64))), (.long (137438953280 : Int64))])) _
          refine XS.lsub X13.here hx rfl (hb hby at_72) rfl ?_
          show Steps p.tables e below (T13.setTop (mkF m 73 #[.val (.int p0), .val (.long q1), .second, .val (.int p2), .val (.int v8), .val (.ref s_BIT), .val (.long (1 : Int64)), .second, .val (.long (137438953280 : Int64)), .second, .unset, .unset, .unset, .unset, .unset, .unset, .unset, .unset, .unset, .unset, .unset] [(.long ((137438953280 : Int64) - (q1 &&& (127 : Int64))))])) _
          refine XS.lstore X13.here hx rfl (hb hby at_73) rfl (l' := #[.val (.int p0), .val (.long q1), .second, .val (.int p2), .val (.int v8), .val (.ref s_BIT), .val (.long (1 : Int64)), .second, .val (.long (137438953280 : Int64)), .second, .val (.long ((137438953280 : Int64) - (q1 &&& (127 : Int64)))), .second, .unset, .unset, .unset, .unset, .unset, .unset, .unset, .unset, .unset]) rfl ?_
          show Steps p.tables e below (T13.setTop (mkF m 75 #[.val (.int p0), .val (.long q1), .second, .val (.int p2), .val (.int v8), .val (.ref s_BIT), .val (.long (1 : Int64)), .second, .val (.long (137438953280 : Int64)), .second, .val (.long ((137438953280 : Int64) - (q1 &&& (127 : Int64)))), .second, .unset, .unset, .unset, .unset, .unset, .unset, .unset, .unset, .unset] [])) _
          refine XS.goto X13.here hx rfl (pc0 := 75) (pc' := 90) rfl (hb hby at_75) (by decide) (by decide) ?_
          show Steps p.tables e below (T13.setTop (mkF m 90 #[.val (.int p0), .val (.long q1), .second, .val (.int p2), .val (.int v8), .val (.ref s_BIT), .val (.long (1 : Int64)), .second, .val (.long (137438953280 : Int64)), .second, .val (.long ((137438953280 : Int64) - (q1 &&& (127 : Int64)))), .second, .unset, .unset, .unset, .unset, .unset, .unset, .unset, .unset, .unset] [])) _
          exact k
        exact ⟨((137438953280 : Int64) - (q1 &&& (127 : Int64))), pre18, by rw [if_neg hc62_16]⟩
    have pre21 : ∀ t, Steps p.tables e below (T13.setTop (mkF m 95 #[.val (.int p0), .val (.long q1), .second, .val (.int p2), .val (.int v8), .val (.ref s_BIT), .val (.long (1 : Int64)), .second, .val (.long (137438953280 : Int64)), .second, .val (.long u19), .second, .unset, .unset, .unset, .unset, .unset, .unset, .unset, .unset, .unset] [(.long ((u19.toUInt64 >>> ((6 : Int32) &&& 0x3f).toInt64.toUInt64).toInt64))])) t → Steps p.tables e below (s₁.setTop (entryFrame m #[(.int p0), (.long q1), (.int p2)] maxLocals)) t := by
      intro t k
      refine pre20 t ?_
      show Steps p.tables e below (T13.setTop (mkF m 90 #[.val (.int p0), .val (.long q1), .second, .val (.int p2), .val (.int v8), .val (.ref s_BIT), .val (.long (1 : Int64)), .second, .val (.long (137438953280 : Int64)), .second, .val (.long u19), .second, .unset, .unset, .unset, .unset, .unset, .unset, .unset, .unset, .unset] [])) _
      refine XS.lload X13.here hx rfl (hb hby at_90) rfl ?_
      show Steps p.tables e below (T13.setTop (mkF m 92 #[.val (.int p0), .val (.long q1), .second, .val (.int p2), .val (.int v8), .val (.ref s_BIT), .val (.long (1 : Int64)), .second, .val (.long (137438953280 : Int64)), .second, .val (.long u19), .second, .unset, .unset, .unset, .unset, .unset, .unset, .unset, .unset, .unset] [(.long u19)])) _
      refine XS.bipush X13.here hx rfl (hb hby at_92) ?_
      show Steps p.tables e below (T13.setTop (mkF m 94 #[.val (.int p0), .val (.long q1), .second, .val (.int p2), .val (.int v8), .val (.ref s_BIT), .val (.long (1 : Int64)), .second, .val (.long (137438953280 : Int64)), .second, .val (.long u19), .second, .unset, .unset, .unset, .unset, .unset, .unset, .unset, .unset, .unset] [(.int (6 : Int32)), (.long u19)])) _
      refine XS.lushr X13.here hx rfl (hb hby at_94) rfl ?_
      show Steps p.tables e below (T13.setTop (mkF m 95 #[.val (.int p0), .val (.long q1), .second, .val (.int p2), .val (.int v8), .val (.ref s_BIT), .val (.long (1 : Int64)), .second, .val (.long (137438953280 : Int64)), .second, .val (.long u19), .second, .unset, .unset, .unset, .unset, .unset, .unset, .unset, .unset, .unset] [(.long ((u19.toUInt64 >>> ((6 : Int32) &&& 0x3f).toInt64.toUInt64).toInt64))])) _
      exact k
    obtain ⟨u22, hu22⟩ : ∃ z : Int64, z = ((u19.toUInt64 >>> ((6 : Int32) &&& 0x3f).toInt64.toUInt64).toInt64) := ⟨_, rfl⟩
    have pre23 : ∀ t, Steps p.tables e below (T13.setTop (mkF m 95 #[.val (.int p0), .val (.long q1), .second, .val (.int p2), .val (.int v8), .val (.ref s_BIT), .val (.long (1 : Int64)), .second, .val (.long (137438953280 : Int64)), .second, .val (.long u19), .second, .unset, .unset, .unset, .unset, .unset, .unset, .unset, .unset, .unset] [(.long u22)])) t → Steps p.tables e below (s₁.setTop (entryFrame m #[(.int p0), (.long q1), (.int p2)] maxLocals)) t := by rw [hu22]; exact pre21
    have pre24 : ∀ t, Steps p.tables e below (T13.setTop (mkF m 103 #[.val (.int p0), .val (.long q1), .second, .val (.int p2), .val (.int v8), .val (.ref s_BIT), .val (.long (1 : Int64)), .second, .val (.long (137438953280 : Int64)), .second, .val (.long u19), .second, .val (.long u22), .second, .unset, .unset, .unset, .unset, .unset, .unset, .unset] [(.long (u19 &&& (63 : Int64)))])) t → Steps p.tables e below (s₁.setTop (entryFrame m #[(.int p0), (.long q1), (.int p2)] maxLocals)) t := by
      intro t k
      refine pre23 t ?_
      show Steps p.tables e below (T13.setTop (mkF m 95 #[.val (.int p0), .val (.long q1), .second, .val (.int p2), .val (.int v8), .val (.ref s_BIT), .val (.long (1 : Int64)), .second, .val (.long (137438953280 : Int64)), .second, .val (.long u19), .second, .unset, .unset, .unset, .unset, .unset, .unset, .unset, .unset, .unset] [(.long u22)])) _
      refine XS.lstore X13.here hx rfl (hb hby at_95) rfl (l' := #[.val (.int p0), .val (.long q1), .second, .val (.int p2), .val (.int v8), .val (.ref s_BIT), .val (.long (1 : Int64)), .second, .val (.long (137438953280 : Int64)), .second, .val (.long u19), .second, .val (.long u22), .second, .unset, .unset, .unset, .unset, .unset, .unset, .unset]) rfl ?_
      show Steps p.tables e below (T13.setTop (mkF m 97 #[.val (.int p0), .val (.long q1), .second, .val (.int p2), .val (.int v8), .val (.ref s_BIT), .val (.long (1 : Int64)), .second, .val (.long (137438953280 : Int64)), .second, .val (.long u19), .second, .val (.long u22), .second, .unset, .unset, .unset, .unset, .unset, .unset, .unset] [])) _
      refine XS.lload X13.here hx rfl (hb hby at_97) rfl ?_
      show Steps p.tables e below (T13.setTop (mkF m 99 #[.val (.int p0), .val (.long q1), .second, .val (.int p2), .val (.int v8), .val (.ref s_BIT), .val (.long (1 : Int64)), .second, .val (.long (137438953280 : Int64)), .second, .val (.long u19), .second, .val (.long u22), .second, .unset, .unset, .unset, .unset, .unset, .unset, .unset] [(.long u19)])) _
      refine X13.ldc2Long hx hown (mvT hZ (hw _ (List.mem_of_getElem? (i := 5) rfl))) (g := (mkF m 99 #[.val (.int p0), .val (.long q1), .second, .val (.int p2), .val (.int v8), .val (.ref s_BIT), .val (.long (1 : Int64)), .second, .val (.long (137438953280 : Int64)), .second, .val (.long u19), .second, .val (.long u22), .second, .unset, .unset, .unset, .unset, .unset, .unset, .unset] [(.long u19)])) rfl (hb hby at_99) _ ?_
      show Steps p.tables e below (T13.setTop (mkF m 102 #[.val (.int p0), .val (.long q1), .second, .val (.int p2), .val (.int v8), .val (.ref s_BIT), .val (.long (1 : Int64)), .second, .val (.long (137438953280 : Int64)), .second, .val (.long u19), .second, .val (.long u22), .second, .unset, .unset, .unset, .unset, .unset, .unset, .unset] [(.long (63 : Int64)), (.long u19)])) _
      refine XS.land X13.here hx rfl (hb hby at_102) rfl ?_
      show Steps p.tables e below (T13.setTop (mkF m 103 #[.val (.int p0), .val (.long q1), .second, .val (.int p2), .val (.int v8), .val (.ref s_BIT), .val (.long (1 : Int64)), .second, .val (.long (137438953280 : Int64)), .second, .val (.long u19), .second, .val (.long u22), .second, .unset, .unset, .unset, .unset, .unset, .unset, .unset] [(.long (u19 &&& (63 : Int64)))])) _
      exact k
    obtain ⟨u25, hu25⟩ : ∃ z : Int64, z = (u19 &&& (63 : Int64)) := ⟨_, rfl⟩
    have pre26 : ∀ t, Steps p.tables e below (T13.setTop (mkF m 103 #[.val (.int p0), .val (.long q1), .second, .val (.int p2), .val (.int v8), .val (.ref s_BIT), .val (.long (1 : Int64)), .second, .val (.long (137438953280 : Int64)), .second, .val (.long u19), .second, .val (.long u22), .second, .unset, .unset, .unset, .unset, .unset, .unset, .unset] [(.long u25)])) t → Steps p.tables e below (s₁.setTop (entryFrame m #[(.int p0), (.long q1), (.int p2)] maxLocals)) t := by rw [hu25]; exact pre24
    have pre27 : ∀ t, Steps p.tables e below (T13.setTop (mkF m 109 #[.val (.int p0), .val (.long q1), .second, .val (.int p2), .val (.int v8), .val (.ref s_BIT), .val (.long (1 : Int64)), .second, .val (.long (137438953280 : Int64)), .second, .val (.long u19), .second, .val (.long u22), .second, .val (.long u25), .second, .unset, .unset, .unset, .unset, .unset] [(.int (lcmpW u25 (0 : Int64)))])) t → Steps p.tables e below (s₁.setTop (entryFrame m #[(.int p0), (.long q1), (.int p2)] maxLocals)) t := by
      intro t k
      refine pre26 t ?_
      show Steps p.tables e below (T13.setTop (mkF m 103 #[.val (.int p0), .val (.long q1), .second, .val (.int p2), .val (.int v8), .val (.ref s_BIT), .val (.long (1 : Int64)), .second, .val (.long (137438953280 : Int64)), .second, .val (.long u19), .second, .val (.long u22), .second, .unset, .unset, .unset, .unset, .unset, .unset, .unset] [(.long u25)])) _
      refine XS.lstore X13.here hx rfl (hb hby at_103) rfl (l' := #[.val (.int p0), .val (.long q1), .second, .val (.int p2), .val (.int v8), .val (.ref s_BIT), .val (.long (1 : Int64)), .second, .val (.long (137438953280 : Int64)), .second, .val (.long u19), .second, .val (.long u22), .second, .val (.long u25), .second, .unset, .unset, .unset, .unset, .unset]) rfl ?_
      show Steps p.tables e below (T13.setTop (mkF m 105 #[.val (.int p0), .val (.long q1), .second, .val (.int p2), .val (.int v8), .val (.ref s_BIT), .val (.long (1 : Int64)), .second, .val (.long (137438953280 : Int64)), .second, .val (.long u19), .second, .val (.long u22), .second, .val (.long u25), .second, .unset, .unset, .unset, .unset, .unset] [])) _
      refine XS.lload X13.here hx rfl (hb hby at_105) rfl ?_
      show Steps p.tables e below (T13.setTop (mkF m 107 #[.val (.int p0), .val (.long q1), .second, .val (.int p2), .val (.int v8), .val (.ref s_BIT), .val (.long (1 : Int64)), .second, .val (.long (137438953280 : Int64)), .second, .val (.long u19), .second, .val (.long u22), .second, .val (.long u25), .second, .unset, .unset, .unset, .unset, .unset] [(.long u25)])) _
      refine XS.lconst X13.here hx rfl (hb hby at_107) ?_
      show Steps p.tables e below (T13.setTop (mkF m 108 #[.val (.int p0), .val (.long q1), .second, .val (.int p2), .val (.int v8), .val (.ref s_BIT), .val (.long (1 : Int64)), .second, .val (.long (137438953280 : Int64)), .second, .val (.long u19), .second, .val (.long u22), .second, .val (.long u25), .second, .unset, .unset, .unset, .unset, .unset] [(.long (0 : Int64)), (.long u25)])) _
      refine XS.lcmp X13.here hx rfl (hb hby at_108) rfl ?_
      show Steps p.tables e below (T13.setTop (mkF m 109 #[.val (.int p0), .val (.long q1), .second, .val (.int p2), .val (.int v8), .val (.ref s_BIT), .val (.long (1 : Int64)), .second, .val (.long (137438953280 : Int64)), .second, .val (.long u19), .second, .val (.long u22), .second, .val (.long u25), .second, .unset, .unset, .unset, .unset, .unset] [(.int (lcmpW u25 (0 : Int64)))])) _
      exact k
    obtain ⟨u31, pre32, hu31⟩ : ∃ (u31 : Int64), (∀ t, Steps p.tables e below (T13.setTop (mkF m 121 #[.val (.int p0), .val (.long q1), .second, .val (.int p2), .val (.int v8), .val (.ref s_BIT), .val (.long (1 : Int64)), .second, .val (.long (137438953280 : Int64)), .second, .val (.long u19), .second, .val (.long u22), .second, .val (.long u25), .second, .unset, .unset, .unset, .unset, .unset] [(.long u31)])) t → Steps p.tables e below (s₁.setTop (entryFrame m #[(.int p0), (.long q1), (.int p2)] maxLocals)) t) ∧ u31 = (if u25 = (0 : Int64) then u22 else (u22 + (1 : Int64))) := by
      by_cases hc109_28 : u25 = (0 : Int64)
      · have pre29 : ∀ t, Steps p.tables e below (T13.setTop (mkF m 121 #[.val (.int p0), .val (.long q1), .second, .val (.int p2), .val (.int v8), .val (.ref s_BIT), .val (.long (1 : Int64)), .second, .val (.long (137438953280 : Int64)), .second, .val (.long u19), .second, .val (.long u22), .second, .val (.long u25), .second, .unset, .unset, .unset, .unset, .unset] [(.long u22)])) t → Steps p.tables e below (s₁.setTop (entryFrame m #[(.int p0), (.long q1), (.int p2)] maxLocals)) t := by
          intro t k
          refine pre27 t ?_
          show Steps p.tables e below (T13.setTop (mkF m 109 #[.val (.int p0), .val (.long q1), .second, .val (.int p2), .val (.int v8), .val (.ref s_BIT), .val (.long (1 : Int64)), .second, .val (.long (137438953280 : Int64)), .second, .val (.long u19), .second, .val (.long u22), .second, .val (.long u25), .second, .unset, .unset, .unset, .unset, .unset] [(.int (lcmpW u25 (0 : Int64)))])) _
          refine XS.ifNo X13.here hx rfl (hb hby at_109) rfl ((if0 _ _).trans (teq (own_eqL hc109_28)).2) ?_
          show Steps p.tables e below (T13.setTop (mkF m 112 #[.val (.int p0), .val (.long q1), .second, .val (.int p2), .val (.int v8), .val (.ref s_BIT), .val (.long (1 : Int64)), .second, .val (.long (137438953280 : Int64)), .second, .val (.long u19), .second, .val (.long u22), .second, .val (.long u25), .second, .unset, .unset, .unset, .unset, .unset] [])) _
          refine XS.lload X13.here hx rfl (hb hby at_112) rfl ?_
          show Steps p.tables e below (T13.setTop (mkF m 114 #[.val (.int p0), .val (.long q1), .second, .val (.int p2), .val (.int v8), .val (.ref s_BIT), .val (.long (1 : Int64)), .second, .val (.long (137438953280 : Int64)), .second, .val (.long u19), .second, .val (.long u22), .second, .val (.long u25), .second, .unset, .unset, .unset, .unset, .unset] [(.long u22)])) _
          refine XS.goto X13.here hx rfl (pc0 := 114) (pc' := 121) rfl (hb hby at_114) (by decide) (by decide) ?_
          show Steps p.tables e below (T13.setTop (mkF m 121 #[.val (.int p0), .val (.long q1), .second, .val (.int p2), .val (.int v8), .val (.ref s_BIT), .val (.long (1 : Int64)), .second, .val (.long (137438953280 : Int64)), .second, .val (.long u19), .second, .val (.long u22), .second, .val (.long u25), .second, .unset, .unset, .unset, .unset, .unset] [(.long u22)])) _
          exact k
        exact ⟨u22, pre29, by rw [if_pos hc109_28]⟩
      · have pre30 : ∀ t, Steps p.tables e below (T13.setTop (mkF m 121 #[.val (.int p0), .val (.long q1), .second, .val (.int p2), .val (.int v8), .val (.ref s_BIT), .val (.long (1 : Int64)), .second, .val (.long (137438953280 : Int64)), .second, .val (.long u19), .second, .val (.long u22), .second, .val (.long u25), .second, .unset, .unset, .unset, .unset, .unset] [(.long (u22 + (1 : Int64)))])) t → Steps p.tables e below (s₁.setTop (entryFrame m #[(.int p0), (.long q1), (.int p2)] maxLocals)) t := by
          intro t k
          refine pre27 t ?_
          show Steps p.tables e below (T13.setTop (mkF m 109 #[.val (.int p0), .val (.long q1), .second, .val (.int p2), .val (.int v8), .val (.ref s_BIT), .val (.long (1 : Int64)), .second, .val (.long (137438953280 : Int64)), .second, .val (.long u19), .second, .val (.long u22), .second, .val (.long u25), .second, .unset, .unset, .unset, .unset, .unset] [(.int (lcmpW u25 (0 : Int64)))])) _
          refine XS.ifYes X13.here hx rfl (pc0 := 109) (pc' := 117) rfl (hb hby at_109) rfl ((if0 _ _).trans (feq (own_neL hc109_28)).2) (by decide) (by decide) ?_
          show Steps p.tables e below (T13.setTop (mkF m 117 #[.val (.int p0), .val (.long q1), .second, .val (.int p2), .val (.int v8), .val (.ref s_BIT), .val (.long (1 : Int64)), .second, .val (.long (137438953280 : Int64)), .second, .val (.long u19), .second, .val (.long u22), .second, .val (.long u25), .second, .unset, .unset, .unset, .unset, .unset] [])) _
          refine XS.lload X13.here hx rfl (hb hby at_117) rfl ?_
          show Steps p.tables e below (T13.setTop (mkF m 119 #[.val (.int p0), .val (.long q1), .second, .val (.int p2), .val (.int v8), .val (.ref s_BIT), .val (.long (1 : Int64)), .second, .val (.long (137438953280 : Int64)), .second, .val (.long u19), .second, .val (.long u22), .second, .val (.long u25), .second, .unset, .unset, .unset, .unset, .unset] [(.long u22)])) _
          refine XS.lconst X13.here hx rfl (hb hby at_119) ?_
          show Steps p.tables e below (T13.setTop (mkF m 120 #[.val (.int p0), .val (.long q1), .second, .val (.int p2), .val (.int v8), .val (.ref s_BIT), .val (.long (1 : Int64)), .second, .val (.long (137438953280 : Int64)), .second, .val (.long u19), .second, .val (.long u22), .second, .val (.long u25), .second, .unset, .unset, .unset, .unset, .unset] [(.long (1 : Int64)), (.long u22)])) _
          refine XS.ladd X13.here hx rfl (hb hby at_120) rfl ?_
          show Steps p.tables e below (T13.setTop (mkF m 121 #[.val (.int p0), .val (.long q1), .second, .val (.int p2), .val (.int v8), .val (.ref s_BIT), .val (.long (1 : Int64)), .second, .val (.long (137438953280 : Int64)), .second, .val (.long u19), .second, .val (.long u22), .second, .val (.long u25), .second, .unset, .unset, .unset, .unset, .unset] [(.long (u22 + (1 : Int64)))])) _
          exact k
        exact ⟨(u22 + (1 : Int64)), pre30, by rw [if_neg hc109_28]⟩
    have pre33 : ∀ t, Steps p.tables e below (T13.setTop (mkF m 128 #[.val (.int p0), .val (.long q1), .second, .val (.int p2), .val (.int v8), .val (.ref s_BIT), .val (.long (1 : Int64)), .second, .val (.long (137438953280 : Int64)), .second, .val (.long u19), .second, .val (.long u22), .second, .val (.long u25), .second, .val (.long u31), .second, .unset, .unset, .unset] [(.long (u31 * (1 : Int64)))])) t → Steps p.tables e below (s₁.setTop (entryFrame m #[(.int p0), (.long q1), (.int p2)] maxLocals)) t := by
      intro t k
      refine pre32 t ?_
      show Steps p.tables e below (T13.setTop (mkF m 121 #[.val (.int p0), .val (.long q1), .second, .val (.int p2), .val (.int v8), .val (.ref s_BIT), .val (.long (1 : Int64)), .second, .val (.long (137438953280 : Int64)), .second, .val (.long u19), .second, .val (.long u22), .second, .val (.long u25), .second, .unset, .unset, .unset, .unset, .unset] [(.long u31)])) _
      refine XS.lstore X13.here hx rfl (hb hby at_121) rfl (l' := #[.val (.int p0), .val (.long q1), .second, .val (.int p2), .val (.int v8), .val (.ref s_BIT), .val (.long (1 : Int64)), .second, .val (.long (137438953280 : Int64)), .second, .val (.long u19), .second, .val (.long u22), .second, .val (.long u25), .second, .val (.long u31), .second, .unset, .unset, .unset]) rfl ?_
      show Steps p.tables e below (T13.setTop (mkF m 123 #[.val (.int p0), .val (.long q1), .second, .val (.int p2), .val (.int v8), .val (.ref s_BIT), .val (.long (1 : Int64)), .second, .val (.long (137438953280 : Int64)), .second, .val (.long u19), .second, .val (.long u22), .second, .val (.long u25), .second, .val (.long u31), .second, .unset, .unset, .unset] [])) _
      refine XS.lload X13.here hx rfl (hb hby at_123) rfl ?_
      show Steps p.tables e below (T13.setTop (mkF m 125 #[.val (.int p0), .val (.long q1), .second, .val (.int p2), .val (.int v8), .val (.ref s_BIT), .val (.long (1 : Int64)), .second, .val (.long (137438953280 : Int64)), .second, .val (.long u19), .second, .val (.long u22), .second, .val (.long u25), .second, .val (.long u31), .second, .unset, .unset, .unset] [(.long u31)])) _
      refine XS.lload X13.here hx rfl (hb hby at_125) rfl ?_
      show Steps p.tables e below (T13.setTop (mkF m 127 #[.val (.int p0), .val (.long q1), .second, .val (.int p2), .val (.int v8), .val (.ref s_BIT), .val (.long (1 : Int64)), .second, .val (.long (137438953280 : Int64)), .second, .val (.long u19), .second, .val (.long u22), .second, .val (.long u25), .second, .val (.long u31), .second, .unset, .unset, .unset] [(.long (1 : Int64)), (.long u31)])) _
      refine XS.lmul X13.here hx rfl (hb hby at_127) rfl ?_
      show Steps p.tables e below (T13.setTop (mkF m 128 #[.val (.int p0), .val (.long q1), .second, .val (.int p2), .val (.int v8), .val (.ref s_BIT), .val (.long (1 : Int64)), .second, .val (.long (137438953280 : Int64)), .second, .val (.long u19), .second, .val (.long u22), .second, .val (.long u25), .second, .val (.long u31), .second, .unset, .unset, .unset] [(.long (u31 * (1 : Int64)))])) _
      exact k
    obtain ⟨u34, hu34⟩ : ∃ z : Int64, z = (u31 * (1 : Int64)) := ⟨_, rfl⟩
    have pre35 : ∀ t, Steps p.tables e below (T13.setTop (mkF m 128 #[.val (.int p0), .val (.long q1), .second, .val (.int p2), .val (.int v8), .val (.ref s_BIT), .val (.long (1 : Int64)), .second, .val (.long (137438953280 : Int64)), .second, .val (.long u19), .second, .val (.long u22), .second, .val (.long u25), .second, .val (.long u31), .second, .unset, .unset, .unset] [(.long u34)])) t → Steps p.tables e below (s₁.setTop (entryFrame m #[(.int p0), (.long q1), (.int p2)] maxLocals)) t := by rw [hu34]; exact pre33
    have pre36 : ∀ t, Steps p.tables e below (T13.setTop (mkF m 134 #[.val (.int p0), .val (.long q1), .second, .val (.int p2), .val (.int v8), .val (.ref s_BIT), .val (.long (1 : Int64)), .second, .val (.long (137438953280 : Int64)), .second, .val (.long u19), .second, .val (.long u22), .second, .val (.long u25), .second, .val (.long u31), .second, .val (.long u34), .second, .unset] [(.long u19), (.ref s_BIT)])) t → Steps p.tables e below (s₁.setTop (entryFrame m #[(.int p0), (.long q1), (.int p2)] maxLocals)) t := by
      intro t k
      refine pre35 t ?_
      show Steps p.tables e below (T13.setTop (mkF m 128 #[.val (.int p0), .val (.long q1), .second, .val (.int p2), .val (.int v8), .val (.ref s_BIT), .val (.long (1 : Int64)), .second, .val (.long (137438953280 : Int64)), .second, .val (.long u19), .second, .val (.long u22), .second, .val (.long u25), .second, .val (.long u31), .second, .unset, .unset, .unset] [(.long u34)])) _
      refine XS.lstore X13.here hx rfl (hb hby at_128) rfl (l' := #[.val (.int p0), .val (.long q1), .second, .val (.int p2), .val (.int v8), .val (.ref s_BIT), .val (.long (1 : Int64)), .second, .val (.long (137438953280 : Int64)), .second, .val (.long u19), .second, .val (.long u22), .second, .val (.long u25), .second, .val (.long u31), .second, .val (.long u34), .second, .unset]) rfl ?_
      show Steps p.tables e below (T13.setTop (mkF m 130 #[.val (.int p0), .val (.long q1), .second, .val (.int p2), .val (.int v8), .val (.ref s_BIT), .val (.long (1 : Int64)), .second, .val (.long (137438953280 : Int64)), .second, .val (.long u19), .second, .val (.long u22), .second, .val (.long u25), .second, .val (.long u31), .second, .val (.long u34), .second, .unset] [])) _
      refine XS.aload X13.here hx rfl (hb hby at_130) rfl rfl ?_
      show Steps p.tables e below (T13.setTop (mkF m 132 #[.val (.int p0), .val (.long q1), .second, .val (.int p2), .val (.int v8), .val (.ref s_BIT), .val (.long (1 : Int64)), .second, .val (.long (137438953280 : Int64)), .second, .val (.long u19), .second, .val (.long u22), .second, .val (.long u25), .second, .val (.long u31), .second, .val (.long u34), .second, .unset] [(.ref s_BIT)])) _
      refine XS.lload X13.here hx rfl (hb hby at_132) rfl ?_
      show Steps p.tables e below (T13.setTop (mkF m 134 #[.val (.int p0), .val (.long q1), .second, .val (.int p2), .val (.int v8), .val (.ref s_BIT), .val (.long (1 : Int64)), .second, .val (.long (137438953280 : Int64)), .second, .val (.long u19), .second, .val (.long u22), .second, .val (.long u25), .second, .val (.long u31), .second, .val (.long u34), .second, .unset] [(.long u19), (.ref s_BIT)])) _
      exact k
    obtain ⟨cq37, kq37, q37a, q37b, q37c⟩ := isOf hZ e13 E_s_BIT
    obtain ⟨_, _, ⟨T37, L37, k37, n37⟩, -, X37, ⟨Lc37, hQ37, l37, y37, z37⟩, st37⟩ := X13.virtualBack hx (y := (⟨"com/example/membership/membership/BloomShape$Cell", "wordsFor", "(J)I"⟩ : MethodName)) (z := (⟨"com/example/membership/membership/BloomShape$Cell", "wordsFor", "(J)I"⟩ : MethodName)) hown (mvT hZ (hw _ (List.mem_of_getElem? (i := 6) rfl))) (mvT hZ (hw _ (List.mem_of_getElem? (i := 7) rfl))) (notFace_of_selects (args := #[]) (mvT hZ (hw _ (List.mem_of_getElem? (i := 9) rfl)))) (mvT hZ (hw _ (List.mem_of_getElem? (i := 9) rfl))) (mvT hZ (hw _ (List.mem_of_getElem? (i := 8) rfl))) (by decide) (backOf (W := 0) (rm1 l Z ar0 hw [] s_BIT u19 (1 : Int32) h0 n0 Z0 F_width_s_BIT) hZ (hw _ (List.mem_of_getElem? (i := 10) rfl)) (hw _ (List.mem_of_getElem? (i := 1) rfl)) (by decide) (by decide)) q37a q37c (g := (mkF m 134 #[.val (.int p0), .val (.long q1), .second, .val (.int p2), .val (.int v8), .val (.ref s_BIT), .val (.long (1 : Int64)), .second, .val (.long (137438953280 : Int64)), .second, .val (.long u19), .second, .val (.long u22), .second, .val (.long u25), .second, .val (.long u31), .second, .val (.long u34), .second, .unset] [(.long u19), (.ref s_BIT)])) rfl (by rw [hml]; rfl) (Steps.refl _) (argsL := [(.long u19)]) (rest := []) (lenOf pd_0 rfl) rfl (by show 2 * 0 + _ ≤ _; exact Nat.le_of_eq rfl) (hb hby at_134) (fun _ _ => ⟨rfl, e13, (by decide : 0 + 0 ≤ _), (by decide : 0 + 0 ≤ _)⟩)
    dsimp only [Pt.U, Pt.locs, Pt.cells, Pt.slots] at X37 l37 y37 z37 st37 hQ37
    subst l37 y37 z37
    obtain ⟨rfl, N37q, e37⟩ := hQ37
    have N37 := Fr.app N0 N37q
    have pre38 : ∀ t, Steps p.tables e below (T37.setTop (mkF m 137 #[.val (.int p0), .val (.long q1), .second, .val (.int p2), .val (.int v8), .val (.ref s_BIT), .val (.long (1 : Int64)), .second, .val (.long (137438953280 : Int64)), .second, .val (.long u19), .second, .val (.long u22), .second, .val (.long u25), .second, .val (.long u31), .second, .val (.long u34), .second, .unset] [(.int (f1 u19 (1 : Int32)))])) t → Steps p.tables e below (s₁.setTop (entryFrame m #[(.int p0), (.long q1), (.int p2)] maxLocals)) t := fun t k => pre36 t (st37.trans k)
    obtain ⟨v39, hv39⟩ : ∃ z : Int32, z = (f1 u19 (1 : Int32)) := ⟨_, rfl⟩
    have pre40 : ∀ t, Steps p.tables e below (T37.setTop (mkF m 137 #[.val (.int p0), .val (.long q1), .second, .val (.int p2), .val (.int v8), .val (.ref s_BIT), .val (.long (1 : Int64)), .second, .val (.long (137438953280 : Int64)), .second, .val (.long u19), .second, .val (.long u22), .second, .val (.long u25), .second, .val (.long u31), .second, .val (.long u34), .second, .unset] [(.int v39)])) t → Steps p.tables e below (s₁.setTop (entryFrame m #[(.int p0), (.long q1), (.int p2)] maxLocals)) t := by rw [hv39]; exact pre38
    have pre41 : ∀ t, Steps p.tables e below (T37.setTop (mkF m 145 #[.val (.int p0), .val (.long q1), .second, .val (.int p2), .val (.int v8), .val (.ref s_BIT), .val (.long (1 : Int64)), .second, .val (.long (137438953280 : Int64)), .second, .val (.long u19), .second, .val (.long u22), .second, .val (.long u25), .second, .val (.long u31), .second, .val (.long u34), .second, .val (.int v39)] [(.int (lcmpW (v39.toInt64) u34))])) t → Steps p.tables e below (s₁.setTop (entryFrame m #[(.int p0), (.long q1), (.int p2)] maxLocals)) t := by
      intro t k
      refine pre40 t ?_
      show Steps p.tables e below (T37.setTop (mkF m 137 #[.val (.int p0), .val (.long q1), .second, .val (.int p2), .val (.int v8), .val (.ref s_BIT), .val (.long (1 : Int64)), .second, .val (.long (137438953280 : Int64)), .second, .val (.long u19), .second, .val (.long u22), .second, .val (.long u25), .second, .val (.long u31), .second, .val (.long u34), .second, .unset] [(.int v39)])) _
      refine XS.istore X37.here hx rfl (hb hby at_137) rfl (l' := #[.val (.int p0), .val (.long q1), .second, .val (.int p2), .val (.int v8), .val (.ref s_BIT), .val (.long (1 : Int64)), .second, .val (.long (137438953280 : Int64)), .second, .val (.long u19), .second, .val (.long u22), .second, .val (.long u25), .second, .val (.long u31), .second, .val (.long u34), .second, .val (.int v39)]) rfl ?_
      show Steps p.tables e below (T37.setTop (mkF m 139 #[.val (.int p0), .val (.long q1), .second, .val (.int p2), .val (.int v8), .val (.ref s_BIT), .val (.long (1 : Int64)), .second, .val (.long (137438953280 : Int64)), .second, .val (.long u19), .second, .val (.long u22), .second, .val (.long u25), .second, .val (.long u31), .second, .val (.long u34), .second, .val (.int v39)] [])) _
      refine XS.iload X37.here hx rfl (hb hby at_139) rfl ?_
      show Steps p.tables e below (T37.setTop (mkF m 141 #[.val (.int p0), .val (.long q1), .second, .val (.int p2), .val (.int v8), .val (.ref s_BIT), .val (.long (1 : Int64)), .second, .val (.long (137438953280 : Int64)), .second, .val (.long u19), .second, .val (.long u22), .second, .val (.long u25), .second, .val (.long u31), .second, .val (.long u34), .second, .val (.int v39)] [(.int v39)])) _
      refine XS.i2l X37.here hx rfl (hb hby at_141) rfl ?_
      show Steps p.tables e below (T37.setTop (mkF m 142 #[.val (.int p0), .val (.long q1), .second, .val (.int p2), .val (.int v8), .val (.ref s_BIT), .val (.long (1 : Int64)), .second, .val (.long (137438953280 : Int64)), .second, .val (.long u19), .second, .val (.long u22), .second, .val (.long u25), .second, .val (.long u31), .second, .val (.long u34), .second, .val (.int v39)] [(.long (v39.toInt64))])) _
      refine XS.lload X37.here hx rfl (hb hby at_142) rfl ?_
      show Steps p.tables e below (T37.setTop (mkF m 144 #[.val (.int p0), .val (.long q1), .second, .val (.int p2), .val (.int v8), .val (.ref s_BIT), .val (.long (1 : Int64)), .second, .val (.long (137438953280 : Int64)), .second, .val (.long u19), .second, .val (.long u22), .second, .val (.long u25), .second, .val (.long u31), .second, .val (.long u34), .second, .val (.int v39)] [(.long u34), (.long (v39.toInt64))])) _
      refine XS.lcmp X37.here hx rfl (hb hby at_144) rfl ?_
      show Steps p.tables e below (T37.setTop (mkF m 145 #[.val (.int p0), .val (.long q1), .second, .val (.int p2), .val (.int v8), .val (.ref s_BIT), .val (.long (1 : Int64)), .second, .val (.long (137438953280 : Int64)), .second, .val (.long u19), .second, .val (.long u22), .second, .val (.long u25), .second, .val (.long u31), .second, .val (.long u34), .second, .val (.int v39)] [(.int (lcmpW (v39.toInt64) u34))])) _
      exact k
    by_cases hc145_42 : (v39.toInt64) = u34
    · obtain ⟨fs, hr, hrun, hended, hW, hsame⟩ := X37.leave (v := some (.int (1 : Int32))) (fun h => by rw [Bd.returns] at h; cases h)
      refine ⟨_, _, pre41 _ ?_, hrun, hended, _, _, rfl, ?_, ⟨_, rfl⟩, hW, hsame.mono (by decide) (by decide)⟩
      · show Steps p.tables e below (T37.setTop (mkF m 145 #[.val (.int p0), .val (.long q1), .second, .val (.int p2), .val (.int v8), .val (.ref s_BIT), .val (.long (1 : Int64)), .second, .val (.long (137438953280 : Int64)), .second, .val (.long u19), .second, .val (.long u22), .second, .val (.long u25), .second, .val (.long u31), .second, .val (.long u34), .second, .val (.int v39)] [(.int (lcmpW (v39.toInt64) u34))])) _
        refine XS.ifNo X37.here hx rfl (hb hby at_145) rfl ((if0 _ _).trans (teq (own_eqL hc145_42)).2) ?_
        show Steps p.tables e below (T37.setTop (mkF m 148 #[.val (.int p0), .val (.long q1), .second, .val (.int p2), .val (.int v8), .val (.ref s_BIT), .val (.long (1 : Int64)), .second, .val (.long (137438953280 : Int64)), .second, .val (.long u19), .second, .val (.long u22), .second, .val (.long u25), .second, .val (.long u31), .second, .val (.long u34), .second, .val (.int v39)] [])) _
        refine XS.iconst X37.here hx rfl (hb hby at_148) ?_
        show Steps p.tables e below (T37.setTop (mkF m 149 #[.val (.int p0), .val (.long q1), .second, .val (.int p2), .val (.int v8), .val (.ref s_BIT), .val (.long (1 : Int64)), .second, .val (.long (137438953280 : Int64)), .second, .val (.long u19), .second, .val (.long u22), .second, .val (.long u25), .second, .val (.long u31), .second, .val (.long u34), .second, .val (.int v39)] [(.int (1 : Int32))])) _
        refine XS.goto X37.here hx rfl (pc0 := 149) (pc' := 153) rfl (hb hby at_149) (by decide) (by decide) ?_
        show Steps p.tables e below (T37.setTop (mkF m 153 #[.val (.int p0), .val (.long q1), .second, .val (.int p2), .val (.int v8), .val (.ref s_BIT), .val (.long (1 : Int64)), .second, .val (.long (137438953280 : Int64)), .second, .val (.long u19), .second, .val (.long u22), .second, .val (.long u25), .second, .val (.long u31), .second, .val (.long u34), .second, .val (.int v39)] [(.int (1 : Int32))])) _
        exact retN X37 hx (t := .boolean) Bd.returns (by simp) (hb hby at_153) hr
      · show Q0 Z p0 q1 p2 s_BIT s_COUNTER h0 n0 _ T37.heap _
        rw [e37]
        exact ⟨rfl, N37⟩
    · have pre43 : ∀ t, Steps p.tables e below (T37.setTop (mkF m 153 #[.val (.int p0), .val (.long q1), .second, .val (.int p2), .val (.int v8), .val (.ref s_BIT), .val (.long (1 : Int64)), .second, .val (.long (137438953280 : Int64)), .second, .val (.long u19), .second, .val (.long u22), .second, .val (.long u25), .second, .val (.long u31), .second, .val (.long u34), .second, .val (.int v39)] [(.int (0 : Int32))])) t → Steps p.tables e below (s₁.setTop (entryFrame m #[(.int p0), (.long q1), (.int p2)] maxLocals)) t := by
        intro t k
        refine pre41 t ?_
        show Steps p.tables e below (T37.setTop (mkF m 145 #[.val (.int p0), .val (.long q1), .second, .val (.int p2), .val (.int v8), .val (.ref s_BIT), .val (.long (1 : Int64)), .second, .val (.long (137438953280 : Int64)), .second, .val (.long u19), .second, .val (.long u22), .second, .val (.long u25), .second, .val (.long u31), .second, .val (.long u34), .second, .val (.int v39)] [(.int (lcmpW (v39.toInt64) u34))])) _
        refine XS.ifYes X37.here hx rfl (pc0 := 145) (pc' := 152) rfl (hb hby at_145) rfl ((if0 _ _).trans (feq (own_neL hc145_42)).2) (by decide) (by decide) ?_
        show Steps p.tables e below (T37.setTop (mkF m 152 #[.val (.int p0), .val (.long q1), .second, .val (.int p2), .val (.int v8), .val (.ref s_BIT), .val (.long (1 : Int64)), .second, .val (.long (137438953280 : Int64)), .second, .val (.long u19), .second, .val (.long u22), .second, .val (.long u25), .second, .val (.long u31), .second, .val (.long u34), .second, .val (.int v39)] [])) _
        refine XS.iconst X37.here hx rfl (hb hby at_152) ?_
        show Steps p.tables e below (T37.setTop (mkF m 153 #[.val (.int p0), .val (.long q1), .second, .val (.int p2), .val (.int v8), .val (.ref s_BIT), .val (.long (1 : Int64)), .second, .val (.long (137438953280 : Int64)), .second, .val (.long u19), .second, .val (.long u22), .second, .val (.long u25), .second, .val (.long u31), .second, .val (.long u34), .second, .val (.int v39)] [(.int (0 : Int32))])) _
        exact k
      exact (own_leaf1 hv8 hc15_11 hu19 hu22 hu25 hu31 hu34 hv39 hc145_42).elim
  · have pre44 : ∀ t, Steps p.tables e below (s₁.setTop (mkF m 18 #[.val (.int p0), .val (.long q1), .second, .val (.int p2), .val (.int v8), .unset, .unset, .unset, .unset, .unset, .unset, .unset, .unset, .unset, .unset, .unset, .unset, .unset, .unset, .unset, .unset] [])) t → Steps p.tables e below (s₁.setTop (entryFrame m #[(.int p0), (.long q1), (.int p2)] maxLocals)) t := by
      intro t k
      refine pre10 t ?_
      show Steps p.tables e below (s₁.setTop (mkF m 15 #[.val (.int p0), .val (.long q1), .second, .val (.int p2), .val (.int v8), .unset, .unset, .unset, .unset, .unset, .unset, .unset, .unset, .unset, .unset, .unset, .unset, .unset, .unset, .unset, .unset] [(.int v8)])) _
      refine XS.ifNo X0.here hx rfl (hb hby at_15) rfl ((if0 _ _).trans (feq hc15_11).1) ?_
      show Steps p.tables e below (s₁.setTop (mkF m 18 #[.val (.int p0), .val (.long q1), .second, .val (.int p2), .val (.int v8), .unset, .unset, .unset, .unset, .unset, .unset, .unset, .unset, .unset, .unset, .unset, .unset, .unset, .unset, .unset, .unset] [])) _
      exact k
    obtain ⟨T45, X45, e45, st45⟩ := getS2 X0 hx hZ hown (host := "") (Or.inl (hw _ (List.mem_of_getElem? (i := 15) rfl))) Via.refl e0 S_COUNTER (g := (mkF m 18 #[.val (.int p0), .val (.long q1), .second, .val (.int p2), .val (.int v8), .unset, .unset, .unset, .unset, .unset, .unset, .unset, .unset, .unset, .unset, .unset, .unset, .unset, .unset, .unset, .unset] [])) rfl (hb hby at_18)
    have pre46 : ∀ t, Steps p.tables e below (T45.setTop (mkF m 21 #[.val (.int p0), .val (.long q1), .second, .val (.int p2), .val (.int v8), .unset, .unset, .unset, .unset, .unset, .unset, .unset, .unset, .unset, .unset, .unset, .unset, .unset, .unset, .unset, .unset] [(.ref s_COUNTER)])) t → Steps p.tables e below (s₁.setTop (entryFrame m #[(.int p0), (.long q1), (.int p2)] maxLocals)) t := fun t k => pre44 t (st45 t k)
    have pre47 : ∀ t, Steps p.tables e below (T45.setTop (mkF m 62 #[.val (.int p0), .val (.long q1), .second, .val (.int p2), .val (.int v8), .val (.ref s_COUNTER), .val (.long (4 : Int64)), .second, .val (.long (34359738304 : Int64)), .second, .unset, .unset, .unset, .unset, .unset, .unset, .unset, .unset, .unset, .unset, .unset] [(.int (p2 &&& (1 : Int32)))])) t → Steps p.tables e below (s₁.setTop (entryFrame m #[(.int p0), (.long q1), (.int p2)] maxLocals)) t := by
      intro t k
      refine pre46 t ?_
      show Steps p.tables e below (T45.setTop (mkF m 21 #[.val (.int p0), .val (.long q1), .second, .val (.int p2), .val (.int v8), .unset, .unset, .unset, .unset, .unset, .unset, .unset, .unset, .unset, .unset, .unset, .unset, .unset, .unset, .unset, .unset] [(.ref s_COUNTER)])) _
      refine XS.goto X45.here hx rfl (pc0 := 21) (pc' := 27) rfl (hb hby at_21) (by decide) (by decide) ?_
      show Steps p.tables e below (T45.setTop (mkF m 27 #[.val (.int p0), .val (.long q1), .second, .val (.int p2), .val (.int v8), .unset, .unset, .unset, .unset, .unset, .unset, .unset, .unset, .unset, .unset, .unset, .unset, .unset, .unset, .unset, .unset] [(.ref s_COUNTER)])) _
      refine XS.astore X45.here hx rfl (hb hby at_27) rfl rfl (l' := #[.val (.int p0), .val (.long q1), .second, .val (.int p2), .val (.int v8), .val (.ref s_COUNTER), .unset, .unset, .unset, .unset, .unset, .unset, .unset, .unset, .unset, .unset, .unset, .unset, .unset, .unset, .unset]) rfl ?_
      show Steps p.tables e below (T45.setTop (mkF m 29 #[.val (.int p0), .val (.long q1), .second, .val (.int p2), .val (.int v8), .val (.ref s_COUNTER), .unset, .unset, .unset, .unset, .unset, .unset, .unset, .unset, .unset, .unset, .unset, .unset, .unset, .unset, .unset] [])) _
      refine XS.iload X45.here hx rfl (hb hby at_29) rfl ?_
      show Steps p.tables e below (T45.setTop (mkF m 31 #[.val (.int p0), .val (.long q1), .second, .val (.int p2), .val (.int v8), .val (.ref s_COUNTER), .unset, .unset, .unset, .unset, .unset, .unset, .unset, .unset, .unset, .unset, .unset, .unset, .unset, .unset, .unset] [(.int v8)])) _
      show Steps p.tables e below (T45.setTop (mkF m 31 #[.val (.int p0), .val (.long q1), .second, .val (.int p2), .val (.int v8), .val (.ref s_COUNTER), .unset, .unset, .unset, .unset, .unset, .unset, .unset, .unset, .unset, .unset, .unset, .unset, .unset, .unset, .unset] [(.int v8)])) _
      refine XS.ifNo X45.here hx rfl (hb hby at_31) rfl ((if0 _ _).trans (feq hc15_11).1) ?_
      show Steps p.tables e below (T45.setTop (mkF m 34 #[.val (.int p0), .val (.long q1), .second, .val (.int p2), .val (.int v8), .val (.ref s_COUNTER), .unset, .unset, .unset, .unset, .unset, .unset, .unset, .unset, .unset, .unset, .unset, .unset, .unset, .unset, .unset] [])) _
      refine X45.ldc2Long hx hown (mvT hZ (hw _ (List.mem_of_getElem? (i := 17) rfl))) (g := (mkF m 34 #[.val (.int p0), .val (.long q1), .second, .val (.int p2), .val (.int v8), .val (.ref s_COUNTER), .unset, .unset, .unset, .unset, .unset, .unset, .unset, .unset, .unset, .unset, .unset, .unset, .unset, .unset, .unset] [])) rfl (hb hby at_34) _ ?_
      show Steps p.tables e below (T45.setTop (mkF m 37 #[.val (.int p0), .val (.long q1), .second, .val (.int p2), .val (.int v8), .val (.ref s_COUNTER), .unset, .unset, .unset, .unset, .unset, .unset, .unset, .unset, .unset, .unset, .unset, .unset, .unset, .unset, .unset] [(.long (4 : Int64))])) _
      refine XS.goto X45.here hx rfl (pc0 := 37) (pc' := 41) rfl (hb hby at_37) (by decide) (by decide) ?_
      show Steps p.tables e below (T45.setTop (mkF m 41 #[.val (.int p0), .val (.long q1), .second, .val (.int p2), .val (.int v8), .val (.ref s_COUNTER), .unset, .unset, .unset, .unset, .unset, .unset, .unset, .unset, .unset, .unset, .unset, .unset, .unset, .unset, .unset] [(.long (4 : Int64))])) _
      refine XS.lstore X45.here hx rfl (hb hby at_41) rfl (l' := #[.val (.int p0), .val (.long q1), .second, .val (.int p2), .val (.int v8), .val (.ref s_COUNTER), .val (.long (4 : Int64)), .second, .unset, .unset, .unset, .unset, .unset, .unset, .unset, .unset, .unset, .unset, .unset, .unset, .unset]) rfl ?_
      show Steps p.tables e below (T45.setTop (mkF m 43 #[.val (.int p0), .val (.long q1), .second, .val (.int p2), .val (.int v8), .val (.ref s_COUNTER), .val (.long (4 : Int64)), .second, .unset, .unset, .unset, .unset, .unset, .unset, .unset, .unset, .unset, .unset, .unset, .unset, .unset] [])) _
      refine XS.iload X45.here hx rfl (hb hby at_43) rfl ?_
      show Steps p.tables e below (T45.setTop (mkF m 45 #[.val (.int p0), .val (.long q1), .second, .val (.int p2), .val (.int v8), .val (.ref s_COUNTER), .val (.long (4 : Int64)), .second, .unset, .unset, .unset, .unset, .unset, .unset, .unset, .unset, .unset, .unset, .unset, .unset, .unset] [(.int v8)])) _
      show Steps p.tables e below (T45.setTop (mkF m 45 #[.val (.int p0), .val (.long q1), .second, .val (.int p2), .val (.int v8), .val (.ref s_COUNTER), .val (.long (4 : Int64)), .second, .unset, .unset, .unset, .unset, .unset, .unset, .unset, .unset, .unset, .unset, .unset, .unset, .unset] [(.int v8)])) _
      refine XS.ifNo X45.here hx rfl (hb hby at_45) rfl ((if0 _ _).trans (feq hc15_11).1) ?_
      show Steps p.tables e below (T45.setTop (mkF m 48 #[.val (.int p0), .val (.long q1), .second, .val (.int p2), .val (.int v8), .val (.ref s_COUNTER), .val (.long (4 : Int64)), .second, .unset, .unset, .unset, .unset, .unset, .unset, .unset, .unset, .unset, .unset, .unset, .unset, .unset] [])) _
      refine X45.ldc2Long hx hown (mvT hZ (hw _ (List.mem_of_getElem? (i := 18) rfl))) (g := (mkF m 48 #[.val (.int p0), .val (.long q1), .second, .val (.int p2), .val (.int v8), .val (.ref s_COUNTER), .val (.long (4 : Int64)), .second, .unset, .unset, .unset, .unset, .unset, .unset, .unset, .unset, .unset, .unset, .unset, .unset, .unset] [])) rfl (hb hby at_48) _ ?_
      show Steps p.tables e below (T45.setTop (mkF m 51 #[.val (.int p0), .val (.long q1), .second, .val (.int p2), .val (.int v8), .val (.ref s_COUNTER), .val (.long (4 : Int64)), .second, .unset, .unset, .unset, .unset, .unset, .unset, .unset, .unset, .unset, .unset, .unset, .unset, .unset] [(.long (34359738304 : Int64))])) _
      refine XS.goto X45.here hx rfl (pc0 := 51) (pc' := 57) rfl (hb hby at_51) (by decide) (by decide) ?_
      show Steps p.tables e below (T45.setTop (mkF m 57 #[.val (.int p0), .val (.long q1), .second, .val (.int p2), .val (.int v8), .val (.ref s_COUNTER), .val (.long (4 : Int64)), .second, .unset, .unset, .unset, .unset, .unset, .unset, .unset, .unset, .unset, .unset, .unset, .unset, .unset] [(.long (34359738304 : Int64))])) _
      refine XS.lstore X45.here hx rfl (hb hby at_57) rfl (l' := #[.val (.int p0), .val (.long q1), .second, .val (.int p2), .val (.int v8), .val (.ref s_COUNTER), .val (.long (4 : Int64)), .second, .val (.long (34359738304 : Int64)), .second, .unset, .unset, .unset, .unset, .unset, .unset, .unset, .unset, .unset, .unset, .unset]) rfl ?_
      show Steps p.tables e below (T45.setTop (mkF m 59 #[.val (.int p0), .val (.long q1), .second, .val (.int p2), .val (.int v8), .val (.ref s_COUNTER), .val (.long (4 : Int64)), .second, .val (.long (34359738304 : Int64)), .second, .unset, .unset, .unset, .unset, .unset, .unset, .unset, .unset, .unset, .unset, .unset] [])) _
      refine XS.iloadN X45.here hx rfl (hb hby at_59) rfl ?_
      show Steps p.tables e below (T45.setTop (mkF m 60 #[.val (.int p0), .val (.long q1), .second, .val (.int p2), .val (.int v8), .val (.ref s_COUNTER), .val (.long (4 : Int64)), .second, .val (.long (34359738304 : Int64)), .second, .unset, .unset, .unset, .unset, .unset, .unset, .unset, .unset, .unset, .unset, .unset] [(.int p2)])) _
      refine XS.iconst X45.here hx rfl (hb hby at_60) ?_
      show Steps p.tables e below (T45.setTop (mkF m 61 #[.val (.int p0), .val (.long q1), .second, .val (.int p2), .val (.int v8), .val (.ref s_COUNTER), .val (.long (4 : Int64)), .second, .val (.long (34359738304 : Int64)), .second, .unset, .unset, .unset, .unset, .unset, .unset, .unset, .unset, .unset, .unset, .unset] [(.int (1 : Int32)), (.int p2)])) _
      refine XS.iand X45.here hx rfl (hb hby at_61) rfl ?_
      show Steps p.tables e below (T45.setTop (mkF m 62 #[.val (.int p0), .val (.long q1), .second, .val (.int p2), .val (.int v8), .val (.ref s_COUNTER), .val (.long (4 : Int64)), .second, .val (.long (34359738304 : Int64)), .second, .unset, .unset, .unset, .unset, .unset, .unset, .unset, .unset, .unset, .unset, .unset] [(.int (p2 &&& (1 : Int32)))])) _
      exact k
    obtain ⟨u51, pre52, hu51⟩ : ∃ (u51 : Int64), (∀ t, Steps p.tables e below (T45.setTop (mkF m 90 #[.val (.int p0), .val (.long q1), .second, .val (.int p2), .val (.int v8), .val (.ref s_COUNTER), .val (.long (4 : Int64)), .second, .val (.long (34359738304 : Int64)), .second, .val (.long u51), .second, .unset, .unset, .unset, .unset, .unset, .unset, .unset, .unset, .unset] [])) t → Steps p.tables e below (s₁.setTop (entryFrame m #[(.int p0), (.long q1), (.int p2)] maxLocals)) t) ∧ u51 = (if (p2 &&& (1 : Int32)) = (0 : Int32) then ((q1 &&& (9223372036854775807 : Int64)) % (34359738305 : Int64)) else ((34359738304 : Int64) - (q1 &&& (127 : Int64)))) := by
      by_cases hc62_48 : (p2 &&& (1 : Int32)) = (0 : Int32)
      · have pre49 : ∀ t, Steps p.tables e below (T45.setTop (mkF m 90 #[.val (.int p0), .val (.long q1), .second, .val (.int p2), .val (.int v8), .val (.ref s_COUNTER), .val (.long (4 : Int64)), .second, .val (.long (34359738304 : Int64)), .second, .val (.long ((q1 &&& (9223372036854775807 : Int64)) % (34359738305 : Int64))), .second, .unset, .unset, .unset, .unset, .unset, .unset, .unset, .unset, .unset] [])) t → Steps p.tables e below (s₁.setTop (entryFrame m #[(.int p0), (.long q1), (.int p2)] maxLocals)) t := by
          intro t k
          refine pre47 t ?_
          show Steps p.tables e below (T45.setTop (mkF m 62 #[.val (.int p0), .val (.long q1), .second, .val (.int p2), .val (.int v8), .val (.ref s_COUNTER), .val (.long (4 : Int64)), .second, .val (.long (34359738304 : Int64)), .second, .unset, .unset, .unset, .unset, .unset, .unset, .unset, .unset, .unset, .unset, .unset] [(.int (p2 &&& (1 : Int32)))])) _
          refine XS.ifYes X45.here hx rfl (pc0 := 62) (pc' := 78) rfl (hb hby at_62) rfl ((if0 _ _).trans (teq hc62_48).1) (by decide) (by decide) ?_
          show Steps p.tables e below (T45.setTop (mkF m 78 #[.val (.int p0), .val (.long q1), .second, .val (.int p2), .val (.int v8), .val (.ref s_COUNTER), .val (.long (4 : Int64)), .second, .val (.long (34359738304 : Int64)), .second, .unset, .unset, .unset, .unset, .unset, .unset, .unset, .unset, .unset, .unset, .unset] [])) _
          refine XS.lloadN X45.here hx rfl (hb hby at_78) rfl ?_
          show Steps p.tables e below (T45.setTop (mkF m 79 #[.val (.int p0), .val (.long q1), .second, .val (.int p2), .val (.int v8), .val (.ref s_COUNTER), .val (.long (4 : Int64)), .second, .val (.long (34359738304 : Int64)), .second, .unset, .unset, .unset, .unset, .unset, .unset, .unset, .unset, .unset, .unset, .unset] [(.long q1)])) _
          refine X45.ldc2Long hx hown (mvT hZ (hw _ (List.mem_of_getElem? (i := 14) rfl))) (g := (mkF m 79 #[.val (.int p0), .val (.long q1), .second, .val (.int p2), .val (.int v8), .val (.ref s_COUNTER), .val (.long (4 : Int64)), .second, .val (.long (34359738304 : Int64)), .second, .unset, .unset, .unset, .unset, .unset, .unset, .unset, .unset, .unset, .unset, .unset] [(.long q1)])) rfl (hb hby at_79) _ ?_
          show Steps p.tables e below (T45.setTop (mkF m 82 #[.val (.int p0), .val (.long q1), .second, .val (.int p2), .val (.int v8), .val (.ref s_COUNTER), .val (.long (4 : Int64)), .second, .val (.long (34359738304 : Int64)), .second, .unset, .unset, .unset, .unset, .unset, .unset, .unset, .unset, .unset, .unset, .unset] [(.long (9223372036854775807 : Int64)), (.long q1)])) _
          refine XS.land X45.here hx rfl (hb hby at_82) rfl ?_
          show Steps p.tables e below (T45.setTop (mkF m 83 #[.val (.int p0), .val (.long q1), .second, .val (.int p2), .val (.int v8), .val (.ref s_COUNTER), .val (.long (4 : Int64)), .second, .val (.long (34359738304 : Int64)), .second, .unset, .unset, .unset, .unset, .unset, .unset, .unset, .unset, .unset, .unset, .unset] [(.long (q1 &&& (9223372036854775807 : Int64)))])) _
          refine XS.lload X45.here hx rfl (hb hby at_83) rfl ?_
          show Steps p.tables e below (T45.setTop (mkF m 85 #[.val (.int p0), .val (.long q1), .second, .val (.int p2), .val (.int v8), .val (.ref s_COUNTER), .val (.long (4 : Int64)), .second, .val (.long (34359738304 : Int64)), .second, .unset, .unset, .unset, .unset, .unset, .unset, .unset, .unset, .unset, .unset, .unset] [(.long (34359738304 : Int64)), (.long (q1 &&& (9223372036854775807 : Int64)))])) _
          refine XS.lconst X45.here hx rfl (hb hby at_85) ?_
          show Steps p.tables e below (T45.setTop (mkF m 86 #[.val (.int p0), .val (.long q1), .second, .val (.int p2), .val (.int v8), .val (.ref s_COUNTER), .val (.long (4 : Int64)), .second, .val (.long (34359738304 : Int64)), .second, .unset, .unset, .unset, .unset, .unset, .unset, .unset, .unset, .unset, .unset, .unset] [(.long (1 : Int64)), (.long (34359738304 : Int64)), (.long (q1 &&& (9223372036854775807 : Int64)))])) _
          refine XS.ladd X45.here hx rfl (hb hby at_86) rfl ?_
          show Steps p.tables e below (T45.setTop (mkF m 87 #[.val (.int p0), .val (.long q1), .second, .val (.int p2), .val (.int v8), .val (.ref s_COUNTER), .val (.long (4 : Int64)), .second, .val (.long (34359738304 : Int64)), .second, .unset, .unset, .unset, .unset, .unset, .unset, .unset, .unset, .unset, .unset, .unset] [(.long (34359738305 : Int64)), (.long (q1 &&& (9223372036854775807 : Int64)))])) _
          refine XS.lrem X45.here hx rfl (hb hby at_87) rfl (by decide) ?_
          rw [lrem_mod]
          show Steps p.tables e below (T45.setTop (mkF m 88 #[.val (.int p0), .val (.long q1), .second, .val (.int p2), .val (.int v8), .val (.ref s_COUNTER), .val (.long (4 : Int64)), .second, .val (.long (34359738304 : Int64)), .second, .unset, .unset, .unset, .unset, .unset, .unset, .unset, .unset, .unset, .unset, .unset] [(.long ((q1 &&& (9223372036854775807 : Int64)) % (34359738305 : Int64)))])) _
          refine XS.lstore X45.here hx rfl (hb hby at_88) rfl (l' := #[.val (.int p0), .val (.long q1), .second, .val (.int p2), .val (.int v8), .val (.ref s_COUNTER), .val (.long (4 : Int64)), .second, .val (.long (34359738304 : Int64)), .second, .val (.long ((q1 &&& (9223372036854775807 : Int64)) % (34359738305 : Int64))), .second, .unset, .unset, .unset, .unset, .unset, .unset, .unset, .unset, .unset]) rfl ?_
          show Steps p.tables e below (T45.setTop (mkF m 90 #[.val (.int p0), .val (.long q1), .second, .val (.int p2), .val (.int v8), .val (.ref s_COUNTER), .val (.long (4 : Int64)), .second, .val (.long (34359738304 : Int64)), .second, .val (.long ((q1 &&& (9223372036854775807 : Int64)) % (34359738305 : Int64))), .second, .unset, .unset, .unset, .unset, .unset, .unset, .unset, .unset, .unset] [])) _
          exact k
        exact ⟨((q1 &&& (9223372036854775807 : Int64)) % (34359738305 : Int64)), pre49, by rw [if_pos hc62_48]⟩
      · have pre50 : ∀ t, Steps p.tables e below (T45.setTop (mkF m 90 #[.val (.int p0), .val (.long q1), .second, .val (.int p2), .val (.int v8), .val (.ref s_COUNTER), .val (.long (4 : Int64)), .second, .val (.long (34359738304 : Int64)), .second, .val (.long ((34359738304 : Int64) - (q1 &&& (127 : Int64)))), .second, .unset, .unset, .unset, .unset, .unset, .unset, .unset, .unset, .unset] [])) t → Steps p.tables e below (s₁.setTop (entryFrame m #[(.int p0), (.long q1), (.int p2)] maxLocals)) t := by
          intro t k
          refine pre47 t ?_
          show Steps p.tables e below (T45.setTop (mkF m 62 #[.val (.int p0), .val (.long q1), .second, .val (.int p2), .val (.int v8), .val (.ref s_COUNTER), .val (.long (4 : Int64)), .second, .val (.long (34359738304 : Int64)), .second, .unset, .unset, .unset, .unset, .unset, .unset, .unset, .unset, .unset, .unset, .unset] [(.int (p2 &&& (1 : Int32)))])) _
          refine XS.ifNo X45.here hx rfl (hb hby at_62) rfl ((if0 _ _).trans (feq hc62_48).1) ?_
          show Steps p.tables e below (T45.setTop (mkF m 65 #[.val (.int p0), .val (.long q1), .second, .val (.int p2), .val (.int v8), .val (.ref s_COUNTER), .val (.long (4 : Int64)), .second, .val (.long (34359738304 : Int64)), .second, .unset, .unset, .unset, .unset, .unset, .unset, .unset, .unset, .unset, .unset, .unset] [])) _
          refine XS.lload X45.here hx rfl (hb hby at_65) rfl ?_
          show Steps p.tables e below (T45.setTop (mkF m 67 #[.val (.int p0), .val (.long q1), .second, .val (.int p2), .val (.int v8), .val (.ref s_COUNTER), .val (.long (4 : Int64)), .second, .val (.long (34359738304 : Int64)), .second, .unset, .unset, .unset, .unset, .unset, .unset, .unset, .unset, .unset, .unset, .unset] [(.long (34359738304 : Int64))])) _
          refine XS.lloadN X45.here hx rfl (hb hby at_67) rfl ?_
          show Steps p.tables e below (T45.setTop (mkF m 68 #[.val (.int p0), .val (.long q1), .second, .val (.int p2), .val (.int v8), .val (.ref s_COUNTER), .val (.long (4 : Int64)), .second, .val (.long (34359738304 : Int64)), .second, .unset, .unset, .unset, .unset, .unset, .unset, .unset, .unset, .unset, .unset, .unset] [(.long q1), (.long (34359738304 : Int64))])) _
          refine X45.ldc2Long hx hown (mvT hZ (hw _ (List.mem_of_getElem? (i := 4) rfl))) (g := (mkF m 68 #[.val (.int p0), .val (.long q1), .second, .val (.int p2), .val (.int v8), .val (.ref s_COUNTER), .val (.long (4 : Int64)), .second, .val (.long (34359738304 : Int64)), .second, .unset, .unset, .unset, .unset, .unset, .unset, .unset, .unset, .unset, .unset, .unset] [(.long q1), (.long (34359738304 : Int64))])) rfl (hb hby at_68) _ ?_
          show Steps p.tables e below (T45.setTop (mkF m 71 #[.val (.int p0), .val (.long q1), .second, .val (.int p2), .val (.int v8), .val (.ref s_COUNTER), .val (.long (4 : Int64)), .second, .val (.long (34359738304 : Int64)), .second, .unset, .unset, .unset, .unset, .unset, .unset, .unset, .unset, .unset, .unset, .unset] [(.long (127 : Int64)), (.long q1), (.long (34359738304 : Int64))])) _
          refine XS.land X45.here hx rfl (hb hby at_71) rfl ?_
          show Steps p.tables e below (T45.setTop (mkF m 72 #[.val (.int p0), .val (.long q1), .second, .val (.int p2), .val (.int v8), .val (.ref s_COUNTER), .val (.long (4 : Int64)), .second, .val (.long (34359738304 : Int64)), .second, .unset, .unset, .unset, .unset, .unset, .unset, .unset, .unset, .unset, .unset, .unset] [(.long (q1 &&& (127 : Int64))), (.long (34359738304 : Int64))])) _
          refine XS.lsub X45.here hx rfl (hb hby at_72) rfl ?_
          show Steps p.tables e below (T45.setTop (mkF m 73 #[.val (.int p0), .val (.long q1), .second, .val (.int p2), .val (.int v8), .val (.ref s_COUNTER), .val (.long (4 : Int64)), .second, .val (.long (34359738304 : Int64)), .second, .unset, .unset, .unset, .unset, .unset, .unset, .unset, .unset, .unset, .unset, .unset] [(.long ((34359738304 : Int64) - (q1 &&& (127 : Int64))))])) _
          refine XS.lstore X45.here hx rfl (hb hby at_73) rfl (l' := #[.val (.int p0), .val (.long q1), .second, .val (.int p2), .val (.int v8), .val (.ref s_COUNTER), .val (.long (4 : Int64)), .second, .val (.long (34359738304 : Int64)), .second, .val (.long ((34359738304 : Int64) - (q1 &&& (127 : Int64)))), .second, .unset, .unset, .unset, .unset, .unset, .unset, .unset, .unset, .unset]) rfl ?_
          show Steps p.tables e below (T45.setTop (mkF m 75 #[.val (.int p0), .val (.long q1), .second, .val (.int p2), .val (.int v8), .val (.ref s_COUNTER), .val (.long (4 : Int64)), .second, .val (.long (34359738304 : Int64)), .second, .val (.long ((34359738304 : Int64) - (q1 &&& (127 : Int64)))), .second, .unset, .unset, .unset, .unset, .unset, .unset, .unset, .unset, .unset] [])) _
          refine XS.goto X45.here hx rfl (pc0 := 75) (pc' := 90) rfl (hb hby at_75) (by decide) (by decide) ?_
          show Steps p.tables e below (T45.setTop (mkF m 90 #[.val (.int p0), .val (.long q1), .second, .val (.int p2), .val (.int v8), .val (.ref s_COUNTER), .val (.long (4 : Int64)), .second, .val (.long (34359738304 : Int64)), .second, .val (.long ((34359738304 : Int64) - (q1 &&& (127 : Int64)))), .second, .unset, .unset, .unset, .unset, .unset, .unset, .unset, .unset, .unset] [])) _
          exact k
        exact ⟨((34359738304 : Int64) - (q1 &&& (127 : Int64))), pre50, by rw [if_neg hc62_48]⟩
    have pre53 : ∀ t, Steps p.tables e below (T45.setTop (mkF m 95 #[.val (.int p0), .val (.long q1), .second, .val (.int p2), .val (.int v8), .val (.ref s_COUNTER), .val (.long (4 : Int64)), .second, .val (.long (34359738304 : Int64)), .second, .val (.long u51), .second, .unset, .unset, .unset, .unset, .unset, .unset, .unset, .unset, .unset] [(.long ((u51.toUInt64 >>> ((6 : Int32) &&& 0x3f).toInt64.toUInt64).toInt64))])) t → Steps p.tables e below (s₁.setTop (entryFrame m #[(.int p0), (.long q1), (.int p2)] maxLocals)) t := by
      intro t k
      refine pre52 t ?_
      show Steps p.tables e below (T45.setTop (mkF m 90 #[.val (.int p0), .val (.long q1), .second, .val (.int p2), .val (.int v8), .val (.ref s_COUNTER), .val (.long (4 : Int64)), .second, .val (.long (34359738304 : Int64)), .second, .val (.long u51), .second, .unset, .unset, .unset, .unset, .unset, .unset, .unset, .unset, .unset] [])) _
      refine XS.lload X45.here hx rfl (hb hby at_90) rfl ?_
      show Steps p.tables e below (T45.setTop (mkF m 92 #[.val (.int p0), .val (.long q1), .second, .val (.int p2), .val (.int v8), .val (.ref s_COUNTER), .val (.long (4 : Int64)), .second, .val (.long (34359738304 : Int64)), .second, .val (.long u51), .second, .unset, .unset, .unset, .unset, .unset, .unset, .unset, .unset, .unset] [(.long u51)])) _
      refine XS.bipush X45.here hx rfl (hb hby at_92) ?_
      show Steps p.tables e below (T45.setTop (mkF m 94 #[.val (.int p0), .val (.long q1), .second, .val (.int p2), .val (.int v8), .val (.ref s_COUNTER), .val (.long (4 : Int64)), .second, .val (.long (34359738304 : Int64)), .second, .val (.long u51), .second, .unset, .unset, .unset, .unset, .unset, .unset, .unset, .unset, .unset] [(.int (6 : Int32)), (.long u51)])) _
      refine XS.lushr X45.here hx rfl (hb hby at_94) rfl ?_
      show Steps p.tables e below (T45.setTop (mkF m 95 #[.val (.int p0), .val (.long q1), .second, .val (.int p2), .val (.int v8), .val (.ref s_COUNTER), .val (.long (4 : Int64)), .second, .val (.long (34359738304 : Int64)), .second, .val (.long u51), .second, .unset, .unset, .unset, .unset, .unset, .unset, .unset, .unset, .unset] [(.long ((u51.toUInt64 >>> ((6 : Int32) &&& 0x3f).toInt64.toUInt64).toInt64))])) _
      exact k
    obtain ⟨u54, hu54⟩ : ∃ z : Int64, z = ((u51.toUInt64 >>> ((6 : Int32) &&& 0x3f).toInt64.toUInt64).toInt64) := ⟨_, rfl⟩
    have pre55 : ∀ t, Steps p.tables e below (T45.setTop (mkF m 95 #[.val (.int p0), .val (.long q1), .second, .val (.int p2), .val (.int v8), .val (.ref s_COUNTER), .val (.long (4 : Int64)), .second, .val (.long (34359738304 : Int64)), .second, .val (.long u51), .second, .unset, .unset, .unset, .unset, .unset, .unset, .unset, .unset, .unset] [(.long u54)])) t → Steps p.tables e below (s₁.setTop (entryFrame m #[(.int p0), (.long q1), (.int p2)] maxLocals)) t := by rw [hu54]; exact pre53
    have pre56 : ∀ t, Steps p.tables e below (T45.setTop (mkF m 103 #[.val (.int p0), .val (.long q1), .second, .val (.int p2), .val (.int v8), .val (.ref s_COUNTER), .val (.long (4 : Int64)), .second, .val (.long (34359738304 : Int64)), .second, .val (.long u51), .second, .val (.long u54), .second, .unset, .unset, .unset, .unset, .unset, .unset, .unset] [(.long (u51 &&& (63 : Int64)))])) t → Steps p.tables e below (s₁.setTop (entryFrame m #[(.int p0), (.long q1), (.int p2)] maxLocals)) t := by
      intro t k
      refine pre55 t ?_
      show Steps p.tables e below (T45.setTop (mkF m 95 #[.val (.int p0), .val (.long q1), .second, .val (.int p2), .val (.int v8), .val (.ref s_COUNTER), .val (.long (4 : Int64)), .second, .val (.long (34359738304 : Int64)), .second, .val (.long u51), .second, .unset, .unset, .unset, .unset, .unset, .unset, .unset, .unset, .unset] [(.long u54)])) _
      refine XS.lstore X45.here hx rfl (hb hby at_95) rfl (l' := #[.val (.int p0), .val (.long q1), .second, .val (.int p2), .val (.int v8), .val (.ref s_COUNTER), .val (.long (4 : Int64)), .second, .val (.long (34359738304 : Int64)), .second, .val (.long u51), .second, .val (.long u54), .second, .unset, .unset, .unset, .unset, .unset, .unset, .unset]) rfl ?_
      show Steps p.tables e below (T45.setTop (mkF m 97 #[.val (.int p0), .val (.long q1), .second, .val (.int p2), .val (.int v8), .val (.ref s_COUNTER), .val (.long (4 : Int64)), .second, .val (.long (34359738304 : Int64)), .second, .val (.long u51), .second, .val (.long u54), .second, .unset, .unset, .unset, .unset, .unset, .unset, .unset] [])) _
      refine XS.lload X45.here hx rfl (hb hby at_97) rfl ?_
      show Steps p.tables e below (T45.setTop (mkF m 99 #[.val (.int p0), .val (.long q1), .second, .val (.int p2), .val (.int v8), .val (.ref s_COUNTER), .val (.long (4 : Int64)), .second, .val (.long (34359738304 : Int64)), .second, .val (.long u51), .second, .val (.long u54), .second, .unset, .unset, .unset, .unset, .unset, .unset, .unset] [(.long u51)])) _
      refine X45.ldc2Long hx hown (mvT hZ (hw _ (List.mem_of_getElem? (i := 5) rfl))) (g := (mkF m 99 #[.val (.int p0), .val (.long q1), .second, .val (.int p2), .val (.int v8), .val (.ref s_COUNTER), .val (.long (4 : Int64)), .second, .val (.long (34359738304 : Int64)), .second, .val (.long u51), .second, .val (.long u54), .second, .unset, .unset, .unset, .unset, .unset, .unset, .unset] [(.long u51)])) rfl (hb hby at_99) _ ?_
      show Steps p.tables e below (T45.setTop (mkF m 102 #[.val (.int p0), .val (.long q1), .second, .val (.int p2), .val (.int v8), .val (.ref s_COUNTER), .val (.long (4 : Int64)), .second, .val (.long (34359738304 : Int64)), .second, .val (.long u51), .second, .val (.long u54), .second, .unset, .unset, .unset, .unset, .unset, .unset, .unset] [(.long (63 : Int64)), (.long u51)])) _
      refine XS.land X45.here hx rfl (hb hby at_102) rfl ?_
      show Steps p.tables e below (T45.setTop (mkF m 103 #[.val (.int p0), .val (.long q1), .second, .val (.int p2), .val (.int v8), .val (.ref s_COUNTER), .val (.long (4 : Int64)), .second, .val (.long (34359738304 : Int64)), .second, .val (.long u51), .second, .val (.long u54), .second, .unset, .unset, .unset, .unset, .unset, .unset, .unset] [(.long (u51 &&& (63 : Int64)))])) _
      exact k
    obtain ⟨u57, hu57⟩ : ∃ z : Int64, z = (u51 &&& (63 : Int64)) := ⟨_, rfl⟩
    have pre58 : ∀ t, Steps p.tables e below (T45.setTop (mkF m 103 #[.val (.int p0), .val (.long q1), .second, .val (.int p2), .val (.int v8), .val (.ref s_COUNTER), .val (.long (4 : Int64)), .second, .val (.long (34359738304 : Int64)), .second, .val (.long u51), .second, .val (.long u54), .second, .unset, .unset, .unset, .unset, .unset, .unset, .unset] [(.long u57)])) t → Steps p.tables e below (s₁.setTop (entryFrame m #[(.int p0), (.long q1), (.int p2)] maxLocals)) t := by rw [hu57]; exact pre56
    have pre59 : ∀ t, Steps p.tables e below (T45.setTop (mkF m 109 #[.val (.int p0), .val (.long q1), .second, .val (.int p2), .val (.int v8), .val (.ref s_COUNTER), .val (.long (4 : Int64)), .second, .val (.long (34359738304 : Int64)), .second, .val (.long u51), .second, .val (.long u54), .second, .val (.long u57), .second, .unset, .unset, .unset, .unset, .unset] [(.int (lcmpW u57 (0 : Int64)))])) t → Steps p.tables e below (s₁.setTop (entryFrame m #[(.int p0), (.long q1), (.int p2)] maxLocals)) t := by
      intro t k
      refine pre58 t ?_
      show Steps p.tables e below (T45.setTop (mkF m 103 #[.val (.int p0), .val (.long q1), .second, .val (.int p2), .val (.int v8), .val (.ref s_COUNTER), .val (.long (4 : Int64)), .second, .val (.long (34359738304 : Int64)), .second, .val (.long u51), .second, .val (.long u54), .second, .unset, .unset, .unset, .unset, .unset, .unset, .unset] [(.long u57)])) _
      refine XS.lstore X45.here hx rfl (hb hby at_103) rfl (l' := #[.val (.int p0), .val (.long q1), .second, .val (.int p2), .val (.int v8), .val (.ref s_COUNTER), .val (.long (4 : Int64)), .second, .val (.long (34359738304 : Int64)), .second, .val (.long u51), .second, .val (.long u54), .second, .val (.long u57), .second, .unset, .unset, .unset, .unset, .unset]) rfl ?_
      show Steps p.tables e below (T45.setTop (mkF m 105 #[.val (.int p0), .val (.long q1), .second, .val (.int p2), .val (.int v8), .val (.ref s_COUNTER), .val (.long (4 : Int64)), .second, .val (.long (34359738304 : Int64)), .second, .val (.long u51), .second, .val (.long u54), .second, .val (.long u57), .second, .unset, .unset, .unset, .unset, .unset] [])) _
      refine XS.lload X45.here hx rfl (hb hby at_105) rfl ?_
      show Steps p.tables e below (T45.setTop (mkF m 107 #[.val (.int p0), .val (.long q1), .second, .val (.int p2), .val (.int v8), .val (.ref s_COUNTER), .val (.long (4 : Int64)), .second, .val (.long (34359738304 : Int64)), .second, .val (.long u51), .second, .val (.long u54), .second, .val (.long u57), .second, .unset, .unset, .unset, .unset, .unset] [(.long u57)])) _
      refine XS.lconst X45.here hx rfl (hb hby at_107) ?_
      show Steps p.tables e below (T45.setTop (mkF m 108 #[.val (.int p0), .val (.long q1), .second, .val (.int p2), .val (.int v8), .val (.ref s_COUNTER), .val (.long (4 : Int64)), .second, .val (.long (34359738304 : Int64)), .second, .val (.long u51), .second, .val (.long u54), .second, .val (.long u57), .second, .unset, .unset, .unset, .unset, .unset] [(.long (0 : Int64)), (.long u57)])) _
      refine XS.lcmp X45.here hx rfl (hb hby at_108) rfl ?_
      show Steps p.tables e below (T45.setTop (mkF m 109 #[.val (.int p0), .val (.long q1), .second, .val (.int p2), .val (.int v8), .val (.ref s_COUNTER), .val (.long (4 : Int64)), .second, .val (.long (34359738304 : Int64)), .second, .val (.long u51), .second, .val (.long u54), .second, .val (.long u57), .second, .unset, .unset, .unset, .unset, .unset] [(.int (lcmpW u57 (0 : Int64)))])) _
      exact k
    obtain ⟨u63, pre64, hu63⟩ : ∃ (u63 : Int64), (∀ t, Steps p.tables e below (T45.setTop (mkF m 121 #[.val (.int p0), .val (.long q1), .second, .val (.int p2), .val (.int v8), .val (.ref s_COUNTER), .val (.long (4 : Int64)), .second, .val (.long (34359738304 : Int64)), .second, .val (.long u51), .second, .val (.long u54), .second, .val (.long u57), .second, .unset, .unset, .unset, .unset, .unset] [(.long u63)])) t → Steps p.tables e below (s₁.setTop (entryFrame m #[(.int p0), (.long q1), (.int p2)] maxLocals)) t) ∧ u63 = (if u57 = (0 : Int64) then u54 else (u54 + (1 : Int64))) := by
      by_cases hc109_60 : u57 = (0 : Int64)
      · have pre61 : ∀ t, Steps p.tables e below (T45.setTop (mkF m 121 #[.val (.int p0), .val (.long q1), .second, .val (.int p2), .val (.int v8), .val (.ref s_COUNTER), .val (.long (4 : Int64)), .second, .val (.long (34359738304 : Int64)), .second, .val (.long u51), .second, .val (.long u54), .second, .val (.long u57), .second, .unset, .unset, .unset, .unset, .unset] [(.long u54)])) t → Steps p.tables e below (s₁.setTop (entryFrame m #[(.int p0), (.long q1), (.int p2)] maxLocals)) t := by
          intro t k
          refine pre59 t ?_
          show Steps p.tables e below (T45.setTop (mkF m 109 #[.val (.int p0), .val (.long q1), .second, .val (.int p2), .val (.int v8), .val (.ref s_COUNTER), .val (.long (4 : Int64)), .second, .val (.long (34359738304 : Int64)), .second, .val (.long u51), .second, .val (.long u54), .second, .val (.long u57), .second, .unset, .unset, .unset, .unset, .unset] [(.int (lcmpW u57 (0 : Int64)))])) _
          refine XS.ifNo X45.here hx rfl (hb hby at_109) rfl ((if0 _ _).trans (teq (own_eqL hc109_60)).2) ?_
          show Steps p.tables e below (T45.setTop (mkF m 112 #[.val (.int p0), .val (.long q1), .second, .val (.int p2), .val (.int v8), .val (.ref s_COUNTER), .val (.long (4 : Int64)), .second, .val (.long (34359738304 : Int64)), .second, .val (.long u51), .second, .val (.long u54), .second, .val (.long u57), .second, .unset, .unset, .unset, .unset, .unset] [])) _
          refine XS.lload X45.here hx rfl (hb hby at_112) rfl ?_
          show Steps p.tables e below (T45.setTop (mkF m 114 #[.val (.int p0), .val (.long q1), .second, .val (.int p2), .val (.int v8), .val (.ref s_COUNTER), .val (.long (4 : Int64)), .second, .val (.long (34359738304 : Int64)), .second, .val (.long u51), .second, .val (.long u54), .second, .val (.long u57), .second, .unset, .unset, .unset, .unset, .unset] [(.long u54)])) _
          refine XS.goto X45.here hx rfl (pc0 := 114) (pc' := 121) rfl (hb hby at_114) (by decide) (by decide) ?_
          show Steps p.tables e below (T45.setTop (mkF m 121 #[.val (.int p0), .val (.long q1), .second, .val (.int p2), .val (.int v8), .val (.ref s_COUNTER), .val (.long (4 : Int64)), .second, .val (.long (34359738304 : Int64)), .second, .val (.long u51), .second, .val (.long u54), .second, .val (.long u57), .second, .unset, .unset, .unset, .unset, .unset] [(.long u54)])) _
          exact k
        exact ⟨u54, pre61, by rw [if_pos hc109_60]⟩
      · have pre62 : ∀ t, Steps p.tables e below (T45.setTop (mkF m 121 #[.val (.int p0), .val (.long q1), .second, .val (.int p2), .val (.int v8), .val (.ref s_COUNTER), .val (.long (4 : Int64)), .second, .val (.long (34359738304 : Int64)), .second, .val (.long u51), .second, .val (.long u54), .second, .val (.long u57), .second, .unset, .unset, .unset, .unset, .unset] [(.long (u54 + (1 : Int64)))])) t → Steps p.tables e below (s₁.setTop (entryFrame m #[(.int p0), (.long q1), (.int p2)] maxLocals)) t := by
          intro t k
          refine pre59 t ?_
          show Steps p.tables e below (T45.setTop (mkF m 109 #[.val (.int p0), .val (.long q1), .second, .val (.int p2), .val (.int v8), .val (.ref s_COUNTER), .val (.long (4 : Int64)), .second, .val (.long (34359738304 : Int64)), .second, .val (.long u51), .second, .val (.long u54), .second, .val (.long u57), .second, .unset, .unset, .unset, .unset, .unset] [(.int (lcmpW u57 (0 : Int64)))])) _
          refine XS.ifYes X45.here hx rfl (pc0 := 109) (pc' := 117) rfl (hb hby at_109) rfl ((if0 _ _).trans (feq (own_neL hc109_60)).2) (by decide) (by decide) ?_
          show Steps p.tables e below (T45.setTop (mkF m 117 #[.val (.int p0), .val (.long q1), .second, .val (.int p2), .val (.int v8), .val (.ref s_COUNTER), .val (.long (4 : Int64)), .second, .val (.long (34359738304 : Int64)), .second, .val (.long u51), .second, .val (.long u54), .second, .val (.long u57), .second, .unset, .unset, .unset, .unset, .unset] [])) _
          refine XS.lload X45.here hx rfl (hb hby at_117) rfl ?_
          show Steps p.tables e below (T45.setTop (mkF m 119 #[.val (.int p0), .val (.long q1), .second, .val (.int p2), .val (.int v8), .val (.ref s_COUNTER), .val (.long (4 : Int64)), .second, .val (.long (34359738304 : Int64)), .second, .val (.long u51), .second, .val (.long u54), .second, .val (.long u57), .second, .unset, .unset, .unset, .unset, .unset] [(.long u54)])) _
          refine XS.lconst X45.here hx rfl (hb hby at_119) ?_
          show Steps p.tables e below (T45.setTop (mkF m 120 #[.val (.int p0), .val (.long q1), .second, .val (.int p2), .val (.int v8), .val (.ref s_COUNTER), .val (.long (4 : Int64)), .second, .val (.long (34359738304 : Int64)), .second, .val (.long u51), .second, .val (.long u54), .second, .val (.long u57), .second, .unset, .unset, .unset, .unset, .unset] [(.long (1 : Int64)), (.long u54)])) _
          refine XS.ladd X45.here hx rfl (hb hby at_120) rfl ?_
          show Steps p.tables e below (T45.setTop (mkF m 121 #[.val (.int p0), .val (.long q1), .second, .val (.int p2), .val (.int v8), .val (.ref s_COUNTER), .val (.long (4 : Int64)), .second, .val (.long (34359738304 : Int64)), .second, .val (.long u51), .second, .val (.long u54), .second, .val (.long u57), .second, .unset, .unset, .unset, .unset, .unset] [(.long (u54 + (1 : Int64)))])) _
          exact k
        exact ⟨(u54 + (1 : Int64)), pre62, by rw [if_neg hc109_60]⟩
    have pre65 : ∀ t, Steps p.tables e below (T45.setTop (mkF m 128 #[.val (.int p0), .val (.long q1), .second, .val (.int p2), .val (.int v8), .val (.ref s_COUNTER), .val (.long (4 : Int64)), .second, .val (.long (34359738304 : Int64)), .second, .val (.long u51), .second, .val (.long u54), .second, .val (.long u57), .second, .val (.long u63), .second, .unset, .unset, .unset] [(.long (u63 * (4 : Int64)))])) t → Steps p.tables e below (s₁.setTop (entryFrame m #[(.int p0), (.long q1), (.int p2)] maxLocals)) t := by
      intro t k
      refine pre64 t ?_
      show Steps p.tables e below (T45.setTop (mkF m 121 #[.val (.int p0), .val (.long q1), .second, .val (.int p2), .val (.int v8), .val (.ref s_COUNTER), .val (.long (4 : Int64)), .second, .val (.long (34359738304 : Int64)), .second, .val (.long u51), .second, .val (.long u54), .second, .val (.long u57), .second, .unset, .unset, .unset, .unset, .unset] [(.long u63)])) _
      refine XS.lstore X45.here hx rfl (hb hby at_121) rfl (l' := #[.val (.int p0), .val (.long q1), .second, .val (.int p2), .val (.int v8), .val (.ref s_COUNTER), .val (.long (4 : Int64)), .second, .val (.long (34359738304 : Int64)), .second, .val (.long u51), .second, .val (.long u54), .second, .val (.long u57), .second, .val (.long u63), .second, .unset, .unset, .unset]) rfl ?_
      show Steps p.tables e below (T45.setTop (mkF m 123 #[.val (.int p0), .val (.long q1), .second, .val (.int p2), .val (.int v8), .val (.ref s_COUNTER), .val (.long (4 : Int64)), .second, .val (.long (34359738304 : Int64)), .second, .val (.long u51), .second, .val (.long u54), .second, .val (.long u57), .second, .val (.long u63), .second, .unset, .unset, .unset] [])) _
      refine XS.lload X45.here hx rfl (hb hby at_123) rfl ?_
      show Steps p.tables e below (T45.setTop (mkF m 125 #[.val (.int p0), .val (.long q1), .second, .val (.int p2), .val (.int v8), .val (.ref s_COUNTER), .val (.long (4 : Int64)), .second, .val (.long (34359738304 : Int64)), .second, .val (.long u51), .second, .val (.long u54), .second, .val (.long u57), .second, .val (.long u63), .second, .unset, .unset, .unset] [(.long u63)])) _
      refine XS.lload X45.here hx rfl (hb hby at_125) rfl ?_
      show Steps p.tables e below (T45.setTop (mkF m 127 #[.val (.int p0), .val (.long q1), .second, .val (.int p2), .val (.int v8), .val (.ref s_COUNTER), .val (.long (4 : Int64)), .second, .val (.long (34359738304 : Int64)), .second, .val (.long u51), .second, .val (.long u54), .second, .val (.long u57), .second, .val (.long u63), .second, .unset, .unset, .unset] [(.long (4 : Int64)), (.long u63)])) _
      refine XS.lmul X45.here hx rfl (hb hby at_127) rfl ?_
      show Steps p.tables e below (T45.setTop (mkF m 128 #[.val (.int p0), .val (.long q1), .second, .val (.int p2), .val (.int v8), .val (.ref s_COUNTER), .val (.long (4 : Int64)), .second, .val (.long (34359738304 : Int64)), .second, .val (.long u51), .second, .val (.long u54), .second, .val (.long u57), .second, .val (.long u63), .second, .unset, .unset, .unset] [(.long (u63 * (4 : Int64)))])) _
      exact k
    obtain ⟨u66, hu66⟩ : ∃ z : Int64, z = (u63 * (4 : Int64)) := ⟨_, rfl⟩
    have pre67 : ∀ t, Steps p.tables e below (T45.setTop (mkF m 128 #[.val (.int p0), .val (.long q1), .second, .val (.int p2), .val (.int v8), .val (.ref s_COUNTER), .val (.long (4 : Int64)), .second, .val (.long (34359738304 : Int64)), .second, .val (.long u51), .second, .val (.long u54), .second, .val (.long u57), .second, .val (.long u63), .second, .unset, .unset, .unset] [(.long u66)])) t → Steps p.tables e below (s₁.setTop (entryFrame m #[(.int p0), (.long q1), (.int p2)] maxLocals)) t := by rw [hu66]; exact pre65
    have pre68 : ∀ t, Steps p.tables e below (T45.setTop (mkF m 134 #[.val (.int p0), .val (.long q1), .second, .val (.int p2), .val (.int v8), .val (.ref s_COUNTER), .val (.long (4 : Int64)), .second, .val (.long (34359738304 : Int64)), .second, .val (.long u51), .second, .val (.long u54), .second, .val (.long u57), .second, .val (.long u63), .second, .val (.long u66), .second, .unset] [(.long u51), (.ref s_COUNTER)])) t → Steps p.tables e below (s₁.setTop (entryFrame m #[(.int p0), (.long q1), (.int p2)] maxLocals)) t := by
      intro t k
      refine pre67 t ?_
      show Steps p.tables e below (T45.setTop (mkF m 128 #[.val (.int p0), .val (.long q1), .second, .val (.int p2), .val (.int v8), .val (.ref s_COUNTER), .val (.long (4 : Int64)), .second, .val (.long (34359738304 : Int64)), .second, .val (.long u51), .second, .val (.long u54), .second, .val (.long u57), .second, .val (.long u63), .second, .unset, .unset, .unset] [(.long u66)])) _
      refine XS.lstore X45.here hx rfl (hb hby at_128) rfl (l' := #[.val (.int p0), .val (.long q1), .second, .val (.int p2), .val (.int v8), .val (.ref s_COUNTER), .val (.long (4 : Int64)), .second, .val (.long (34359738304 : Int64)), .second, .val (.long u51), .second, .val (.long u54), .second, .val (.long u57), .second, .val (.long u63), .second, .val (.long u66), .second, .unset]) rfl ?_
      show Steps p.tables e below (T45.setTop (mkF m 130 #[.val (.int p0), .val (.long q1), .second, .val (.int p2), .val (.int v8), .val (.ref s_COUNTER), .val (.long (4 : Int64)), .second, .val (.long (34359738304 : Int64)), .second, .val (.long u51), .second, .val (.long u54), .second, .val (.long u57), .second, .val (.long u63), .second, .val (.long u66), .second, .unset] [])) _
      refine XS.aload X45.here hx rfl (hb hby at_130) rfl rfl ?_
      show Steps p.tables e below (T45.setTop (mkF m 132 #[.val (.int p0), .val (.long q1), .second, .val (.int p2), .val (.int v8), .val (.ref s_COUNTER), .val (.long (4 : Int64)), .second, .val (.long (34359738304 : Int64)), .second, .val (.long u51), .second, .val (.long u54), .second, .val (.long u57), .second, .val (.long u63), .second, .val (.long u66), .second, .unset] [(.ref s_COUNTER)])) _
      refine XS.lload X45.here hx rfl (hb hby at_132) rfl ?_
      show Steps p.tables e below (T45.setTop (mkF m 134 #[.val (.int p0), .val (.long q1), .second, .val (.int p2), .val (.int v8), .val (.ref s_COUNTER), .val (.long (4 : Int64)), .second, .val (.long (34359738304 : Int64)), .second, .val (.long u51), .second, .val (.long u54), .second, .val (.long u57), .second, .val (.long u63), .second, .val (.long u66), .second, .unset] [(.long u51), (.ref s_COUNTER)])) _
      exact k
    obtain ⟨cq69, kq69, q69a, q69b, q69c⟩ := isOf hZ e45 E_s_COUNTER
    obtain ⟨_, _, ⟨T69, L69, k69, n69⟩, -, X69, ⟨Lc69, hQ69, l69, y69, z69⟩, st69⟩ := X45.virtualBack hx (y := (⟨"com/example/membership/membership/BloomShape$Cell", "wordsFor", "(J)I"⟩ : MethodName)) (z := (⟨"com/example/membership/membership/BloomShape$Cell", "wordsFor", "(J)I"⟩ : MethodName)) hown (mvT hZ (hw _ (List.mem_of_getElem? (i := 6) rfl))) (mvT hZ (hw _ (List.mem_of_getElem? (i := 7) rfl))) (notFace_of_selects (args := #[]) (mvT hZ (hw _ (List.mem_of_getElem? (i := 9) rfl)))) (mvT hZ (hw _ (List.mem_of_getElem? (i := 9) rfl))) (mvT hZ (hw _ (List.mem_of_getElem? (i := 8) rfl))) (by decide) (backOf (W := 0) (rm1 l Z ar0 hw [] s_COUNTER u51 (4 : Int32) h0 n0 Z0 F_width_s_COUNTER) hZ (hw _ (List.mem_of_getElem? (i := 10) rfl)) (hw _ (List.mem_of_getElem? (i := 1) rfl)) (by decide) (by decide)) q69a q69c (g := (mkF m 134 #[.val (.int p0), .val (.long q1), .second, .val (.int p2), .val (.int v8), .val (.ref s_COUNTER), .val (.long (4 : Int64)), .second, .val (.long (34359738304 : Int64)), .second, .val (.long u51), .second, .val (.long u54), .second, .val (.long u57), .second, .val (.long u63), .second, .val (.long u66), .second, .unset] [(.long u51), (.ref s_COUNTER)])) rfl (by rw [hml]; rfl) (Steps.refl _) (argsL := [(.long u51)]) (rest := []) (lenOf pd_0 rfl) rfl (by show 2 * 0 + _ ≤ _; exact Nat.le_of_eq rfl) (hb hby at_134) (fun _ _ => ⟨rfl, e45, (by decide : 0 + 0 ≤ _), (by decide : 0 + 0 ≤ _)⟩)
    dsimp only [Pt.U, Pt.locs, Pt.cells, Pt.slots] at X69 l69 y69 z69 st69 hQ69
    subst l69 y69 z69
    obtain ⟨rfl, N69q, e69⟩ := hQ69
    have N69 := Fr.app N0 N69q
    have pre70 : ∀ t, Steps p.tables e below (T69.setTop (mkF m 137 #[.val (.int p0), .val (.long q1), .second, .val (.int p2), .val (.int v8), .val (.ref s_COUNTER), .val (.long (4 : Int64)), .second, .val (.long (34359738304 : Int64)), .second, .val (.long u51), .second, .val (.long u54), .second, .val (.long u57), .second, .val (.long u63), .second, .val (.long u66), .second, .unset] [(.int (f1 u51 (4 : Int32)))])) t → Steps p.tables e below (s₁.setTop (entryFrame m #[(.int p0), (.long q1), (.int p2)] maxLocals)) t := fun t k => pre68 t (st69.trans k)
    obtain ⟨v71, hv71⟩ : ∃ z : Int32, z = (f1 u51 (4 : Int32)) := ⟨_, rfl⟩
    have pre72 : ∀ t, Steps p.tables e below (T69.setTop (mkF m 137 #[.val (.int p0), .val (.long q1), .second, .val (.int p2), .val (.int v8), .val (.ref s_COUNTER), .val (.long (4 : Int64)), .second, .val (.long (34359738304 : Int64)), .second, .val (.long u51), .second, .val (.long u54), .second, .val (.long u57), .second, .val (.long u63), .second, .val (.long u66), .second, .unset] [(.int v71)])) t → Steps p.tables e below (s₁.setTop (entryFrame m #[(.int p0), (.long q1), (.int p2)] maxLocals)) t := by rw [hv71]; exact pre70
    have pre73 : ∀ t, Steps p.tables e below (T69.setTop (mkF m 145 #[.val (.int p0), .val (.long q1), .second, .val (.int p2), .val (.int v8), .val (.ref s_COUNTER), .val (.long (4 : Int64)), .second, .val (.long (34359738304 : Int64)), .second, .val (.long u51), .second, .val (.long u54), .second, .val (.long u57), .second, .val (.long u63), .second, .val (.long u66), .second, .val (.int v71)] [(.int (lcmpW (v71.toInt64) u66))])) t → Steps p.tables e below (s₁.setTop (entryFrame m #[(.int p0), (.long q1), (.int p2)] maxLocals)) t := by
      intro t k
      refine pre72 t ?_
      show Steps p.tables e below (T69.setTop (mkF m 137 #[.val (.int p0), .val (.long q1), .second, .val (.int p2), .val (.int v8), .val (.ref s_COUNTER), .val (.long (4 : Int64)), .second, .val (.long (34359738304 : Int64)), .second, .val (.long u51), .second, .val (.long u54), .second, .val (.long u57), .second, .val (.long u63), .second, .val (.long u66), .second, .unset] [(.int v71)])) _
      refine XS.istore X69.here hx rfl (hb hby at_137) rfl (l' := #[.val (.int p0), .val (.long q1), .second, .val (.int p2), .val (.int v8), .val (.ref s_COUNTER), .val (.long (4 : Int64)), .second, .val (.long (34359738304 : Int64)), .second, .val (.long u51), .second, .val (.long u54), .second, .val (.long u57), .second, .val (.long u63), .second, .val (.long u66), .second, .val (.int v71)]) rfl ?_
      show Steps p.tables e below (T69.setTop (mkF m 139 #[.val (.int p0), .val (.long q1), .second, .val (.int p2), .val (.int v8), .val (.ref s_COUNTER), .val (.long (4 : Int64)), .second, .val (.long (34359738304 : Int64)), .second, .val (.long u51), .second, .val (.long u54), .second, .val (.long u57), .second, .val (.long u63), .second, .val (.long u66), .second, .val (.int v71)] [])) _
      refine XS.iload X69.here hx rfl (hb hby at_139) rfl ?_
      show Steps p.tables e below (T69.setTop (mkF m 141 #[.val (.int p0), .val (.long q1), .second, .val (.int p2), .val (.int v8), .val (.ref s_COUNTER), .val (.long (4 : Int64)), .second, .val (.long (34359738304 : Int64)), .second, .val (.long u51), .second, .val (.long u54), .second, .val (.long u57), .second, .val (.long u63), .second, .val (.long u66), .second, .val (.int v71)] [(.int v71)])) _
      refine XS.i2l X69.here hx rfl (hb hby at_141) rfl ?_
      show Steps p.tables e below (T69.setTop (mkF m 142 #[.val (.int p0), .val (.long q1), .second, .val (.int p2), .val (.int v8), .val (.ref s_COUNTER), .val (.long (4 : Int64)), .second, .val (.long (34359738304 : Int64)), .second, .val (.long u51), .second, .val (.long u54), .second, .val (.long u57), .second, .val (.long u63), .second, .val (.long u66), .second, .val (.int v71)] [(.long (v71.toInt64))])) _
      refine XS.lload X69.here hx rfl (hb hby at_142) rfl ?_
      show Steps p.tables e below (T69.setTop (mkF m 144 #[.val (.int p0), .val (.long q1), .second, .val (.int p2), .val (.int v8), .val (.ref s_COUNTER), .val (.long (4 : Int64)), .second, .val (.long (34359738304 : Int64)), .second, .val (.long u51), .second, .val (.long u54), .second, .val (.long u57), .second, .val (.long u63), .second, .val (.long u66), .second, .val (.int v71)] [(.long u66), (.long (v71.toInt64))])) _
      refine XS.lcmp X69.here hx rfl (hb hby at_144) rfl ?_
      show Steps p.tables e below (T69.setTop (mkF m 145 #[.val (.int p0), .val (.long q1), .second, .val (.int p2), .val (.int v8), .val (.ref s_COUNTER), .val (.long (4 : Int64)), .second, .val (.long (34359738304 : Int64)), .second, .val (.long u51), .second, .val (.long u54), .second, .val (.long u57), .second, .val (.long u63), .second, .val (.long u66), .second, .val (.int v71)] [(.int (lcmpW (v71.toInt64) u66))])) _
      exact k
    by_cases hc145_74 : (v71.toInt64) = u66
    · obtain ⟨fs, hr, hrun, hended, hW, hsame⟩ := X69.leave (v := some (.int (1 : Int32))) (fun h => by rw [Bd.returns] at h; cases h)
      refine ⟨_, _, pre73 _ ?_, hrun, hended, _, _, rfl, ?_, ⟨_, rfl⟩, hW, hsame.mono (by decide) (by decide)⟩
      · show Steps p.tables e below (T69.setTop (mkF m 145 #[.val (.int p0), .val (.long q1), .second, .val (.int p2), .val (.int v8), .val (.ref s_COUNTER), .val (.long (4 : Int64)), .second, .val (.long (34359738304 : Int64)), .second, .val (.long u51), .second, .val (.long u54), .second, .val (.long u57), .second, .val (.long u63), .second, .val (.long u66), .second, .val (.int v71)] [(.int (lcmpW (v71.toInt64) u66))])) _
        refine XS.ifNo X69.here hx rfl (hb hby at_145) rfl ((if0 _ _).trans (teq (own_eqL hc145_74)).2) ?_
        show Steps p.tables e below (T69.setTop (mkF m 148 #[.val (.int p0), .val (.long q1), .second, .val (.int p2), .val (.int v8), .val (.ref s_COUNTER), .val (.long (4 : Int64)), .second, .val (.long (34359738304 : Int64)), .second, .val (.long u51), .second, .val (.long u54), .second, .val (.long u57), .second, .val (.long u63), .second, .val (.long u66), .second, .val (.int v71)] [])) _
        refine XS.iconst X69.here hx rfl (hb hby at_148) ?_
        show Steps p.tables e below (T69.setTop (mkF m 149 #[.val (.int p0), .val (.long q1), .second, .val (.int p2), .val (.int v8), .val (.ref s_COUNTER), .val (.long (4 : Int64)), .second, .val (.long (34359738304 : Int64)), .second, .val (.long u51), .second, .val (.long u54), .second, .val (.long u57), .second, .val (.long u63), .second, .val (.long u66), .second, .val (.int v71)] [(.int (1 : Int32))])) _
        refine XS.goto X69.here hx rfl (pc0 := 149) (pc' := 153) rfl (hb hby at_149) (by decide) (by decide) ?_
        show Steps p.tables e below (T69.setTop (mkF m 153 #[.val (.int p0), .val (.long q1), .second, .val (.int p2), .val (.int v8), .val (.ref s_COUNTER), .val (.long (4 : Int64)), .second, .val (.long (34359738304 : Int64)), .second, .val (.long u51), .second, .val (.long u54), .second, .val (.long u57), .second, .val (.long u63), .second, .val (.long u66), .second, .val (.int v71)] [(.int (1 : Int32))])) _
        exact retN X69 hx (t := .boolean) Bd.returns (by simp) (hb hby at_153) hr
      · show Q0 Z p0 q1 p2 s_BIT s_COUNTER h0 n0 _ T69.heap _
        rw [e69]
        exact ⟨rfl, N69⟩
    · have pre75 : ∀ t, Steps p.tables e below (T69.setTop (mkF m 153 #[.val (.int p0), .val (.long q1), .second, .val (.int p2), .val (.int v8), .val (.ref s_COUNTER), .val (.long (4 : Int64)), .second, .val (.long (34359738304 : Int64)), .second, .val (.long u51), .second, .val (.long u54), .second, .val (.long u57), .second, .val (.long u63), .second, .val (.long u66), .second, .val (.int v71)] [(.int (0 : Int32))])) t → Steps p.tables e below (s₁.setTop (entryFrame m #[(.int p0), (.long q1), (.int p2)] maxLocals)) t := by
        intro t k
        refine pre73 t ?_
        show Steps p.tables e below (T69.setTop (mkF m 145 #[.val (.int p0), .val (.long q1), .second, .val (.int p2), .val (.int v8), .val (.ref s_COUNTER), .val (.long (4 : Int64)), .second, .val (.long (34359738304 : Int64)), .second, .val (.long u51), .second, .val (.long u54), .second, .val (.long u57), .second, .val (.long u63), .second, .val (.long u66), .second, .val (.int v71)] [(.int (lcmpW (v71.toInt64) u66))])) _
        refine XS.ifYes X69.here hx rfl (pc0 := 145) (pc' := 152) rfl (hb hby at_145) rfl ((if0 _ _).trans (feq (own_neL hc145_74)).2) (by decide) (by decide) ?_
        show Steps p.tables e below (T69.setTop (mkF m 152 #[.val (.int p0), .val (.long q1), .second, .val (.int p2), .val (.int v8), .val (.ref s_COUNTER), .val (.long (4 : Int64)), .second, .val (.long (34359738304 : Int64)), .second, .val (.long u51), .second, .val (.long u54), .second, .val (.long u57), .second, .val (.long u63), .second, .val (.long u66), .second, .val (.int v71)] [])) _
        refine XS.iconst X69.here hx rfl (hb hby at_152) ?_
        show Steps p.tables e below (T69.setTop (mkF m 153 #[.val (.int p0), .val (.long q1), .second, .val (.int p2), .val (.int v8), .val (.ref s_COUNTER), .val (.long (4 : Int64)), .second, .val (.long (34359738304 : Int64)), .second, .val (.long u51), .second, .val (.long u54), .second, .val (.long u57), .second, .val (.long u63), .second, .val (.long u66), .second, .val (.int v71)] [(.int (0 : Int32))])) _
        exact k
      exact (own_leaf2 hv8 hc15_11 hu51 hu54 hu57 hu63 hu66 hv71 hc145_74).elim
set_option maxRecDepth 65536 in
set_option maxHeartbeats 40000000 in
theorem comes_1 {Post : Tables → Env → Array Value → State → Outcome → State → Prop} (hpost : ∀ tb e args s v u, (limb_1_1.after args s (.returned v) u = true ∧ limb_1_2.after args s (.returned v) u = true ∧ True) → FrameEnd s (.returned v) u (Jvm.fieldLocs frame_1_writes args s ++ Jvm.arrayLocs frame_1_arrays args s ++ Jvm.staticLocs frame_1_statics s) 0 0 → Post tb e args s (.returned v) u) :
    ArmFor flags0 classFile x code maxLocals ret World_1 tables_1 room_1 Calls_1 rest_1 Pre_1 Post := by
  intro l hfl _ _ p e ha hc hk s m args below hf hA hF happ hP
  obtain ⟨hcalls, hrest, hpre⟩ := hP
  obtain ⟨-, -, -, hnamed, -, -, -, hat⟩ := (Spec.applies_iff hf).mp happ
  obtain ⟨hg, hn⟩ := and_e (Cond.before_iff.mp (show (Jvm.Cond.and given_1 narrow_1).before args s = true from hpre))
  obtain ⟨hcount, hg0⟩ := and_e hg
  obtain ⟨ha0, hg1⟩ := and_e hg0
  obtain ⟨ha1, hg2⟩ := and_e hg1
  have ha2 := hg2
  obtain ⟨w0, w1, w2, rfl⟩ : ∃ w0 w1 w2 : Value, args = #[w0, w1, w2] := by
    have hs : args.size = 3 := by simpa [Cond.value, given_1] using hcount
    obtain ⟨L⟩ := args
    match L, hs with
    | [w0, w1, w2], _ => exact ⟨w0, w1, w2, rfl⟩
  have hw := fun d (hd : d ∈ tables_1) => atoms_spec (ws := Jvm.Cond.code x code maxLocals ret :: tables_1) hat d (List.mem_cons_of_mem _ hd)
  have hfit : Fit s := fun {y c} hc i hi => by
    obtain ⟨ha, rfl⟩ := Array.getElem?_eq_some_iff.mp hc
    have q := List.all_eq_true.mp ((Array.all_eq_true_iff_forall_mem.mp hF) _ (Array.getElem_mem ha)) i (List.mem_range.mpr hi)
    simpa [Array.getElem?_eq_getElem hi] using q
  obtain ⟨i0, ei0⟩ := is_v ha0
  obtain rfl : w0 = (.int i0) := Option.some.inj ei0
  obtain ⟨i1, ei1⟩ := isL_v ha1
  obtain rfl : w1 = (.long i1) := Option.some.inj ei1
  obtain ⟨i2, ei2⟩ := is_v ha2
  obtain rfl : w2 = (.int i2) := Option.some.inj ei2
  obtain ⟨hn1a, hn1b⟩ := and_e hn
  obtain ⟨s_BIT, hs_BIT⟩ := exa_v hn1a
  have S_BIT := Sta.start hs_BIT (Or.inr ⟨(hw _ (List.mem_of_getElem? (i := 1) rfl)), (hw _ (List.mem_of_getElem? (i := 2) rfl))⟩)
  have E_s_BIT := Exa.start hs_BIT hn1a
  obtain ⟨hn2a, hn2b⟩ := and_e hn1b
  have F_width_s_BIT := Fld.start ((fld_at hs_BIT).symm.trans (own_eqI hn2a))
  obtain ⟨hn3a, hn3b⟩ := and_e hn2b
  obtain ⟨s_COUNTER, hs_COUNTER⟩ := exa_v hn3a
  have S_COUNTER := Sta.start hs_COUNTER (Or.inr ⟨(hw _ (List.mem_of_getElem? (i := 1) rfl)), (hw _ (List.mem_of_getElem? (i := 16) rfl))⟩)
  have E_s_COUNTER := Exa.start hs_COUNTER hn3a
  have F_width_s_COUNTER := Fld.start ((fld_at hs_COUNTER).symm.trans (own_eqI hn3b))
  obtain ⟨n, o, h1, h2, h3, _, L, rfl, ⟨rfl, N⟩, hq⟩ := rm0 l s _ hw tables_1 i0 i1 i2 s_BIT s_COUNTER s.heap s.heap.size (Nat.le_refl _) S_BIT E_s_BIT F_width_s_BIT S_COUNTER E_s_COUNTER F_width_s_COUNTER p e ha hc hk s m _ below hf ((Spec.applies_iff_loose hf).mp happ).1 ⟨rfl, State.Warmed39.refl s, rfl⟩ trivial
  refine ⟨n, _, h1, h2, h3, hpost _ _ _ _ _ _ ⟨Cond.after_iff.mpr rfl, Cond.after_iff.mpr (eq_i res_at (Term.int_eval (1)) rfl), trivial⟩ ⟨hq.1, hq.2.1, (hq.2.2.sift fun y hy => Or.inr (N y hy)).mono (by decide) (by decide)⟩⟩
theorem main_1_1 : Claimed_1_1 := comes_1 fun _ _ _ _ _ _ h hF => ⟨h.1, hF⟩
theorem main_1_2 : Claimed_1_2 := comes_1 fun _ _ _ _ _ _ h hF => ⟨h.2.1, hF⟩
end Jvm.Pilot.@@N@@
namespace Jvm.Pilot.@@N@@
open Jvm Jvm.ClassFile Sem Op Lib Jvm.Free Jvm.Stand Jvm.Pilot.@@N@@.Jvm.D
/-! MADE BY PROGRAM (witnessworld.py) out of the Statement's table words and the real class files: 12 classes; the members and pool entries that the words name. The judged class is class 1, her method 1. -/
namespace start1
open Jvm.ClassFile
def u (s : String) : CpInfo := .utf8 (stringToUtf16 s)
/-- a pool by its gaps: so many unusable entries, then the entry; so many at the end -/
def gap : Nat → List CpInfo → List CpInfo
  | 0, r => r
  | n + 1, r => .unusable :: gap n r
def poolList (es : List (Nat × CpInfo)) (last : Nat) : List CpInfo := es.foldr (fun e r => gap e.1 (e.2 :: r)) (gap last [])
def pool (es : List (Nat × CpInfo)) (last : Nat) : Array CpInfo := ⟨poolList es last⟩
def fileOf (pool : Array CpInfo) (this : Nat) (attrs : Array Attribute := #[]) (ms : Array MethodInfo := #[]) (fl : Nat := 33) (sup : Nat := 0) (ifs : Array Nat := #[]) (fds : Array FieldInfo := #[]) : ClassFile where
  minorVersion := 0
  majorVersion := 65
  constantPool := pool
  accessFlags := fl
  thisClass := this
  superClass := sup
  interfaces := ifs
  fields := fds
  methods := ms
  attributes := attrs
def plain (name : String) (sup : Option ClassId) : Class where
  name := name
  kind := .ordinary
  loader := none
  accessFlags := 33
  super := sup
  interfaces := #[]
  cf := none
  fields := #[]
  methods := #[]
  instanceTypes := #[]
  staticTypes := #[]
  resolved := #[]
  callSites := []
  init := .initialized
  statics := none
  mirror := none

def pool0 : Array CpInfo := pool [(5, u "<init>"), (0, u "()V"), (1, .class_ 10), (1, u "java/lang/Object")] 113

def k0m0 : Method := { name := "<init>", desc := "()V", sig := { parameters := [], returnType := none }, accessFlags := 1, code := none }
/-- java/lang/Object -/
def k0 : Class := { plain "java/lang/Object" none with
  accessFlags := 33
  interfaces := #[]
  cf := some (fileOf pool0 8 #[] #[{ accessFlags := 1, nameIndex := 5, descriptorIndex := 6, attributes := #[] }] 33 0 #[] #[])
  fields := #[]
  methods := #[k0m0]
  instanceTypes := #[]
  staticTypes := #[]
  resolved := Array.replicate 124 none
  statics := none }

def pool1 : Array CpInfo := pool [(2, .class_ 4), (1, u "java/lang/Object"), (0, u "<init>"), (0, u "()V"), (0, .fieldref 8 9), (0, .class_ 10), (0, .nameAndType 11 12), (0, u "com/example/membership/membership/BloomShape$Cell"), (0, u "COUNTER"), (0, u "Lcom/example/membership/membership/BloomShape$Cell;"), (0, .fieldref 8 14), (0, .nameAndType 15 12), (0, u "BIT"), (0, .long 4), (1, .long 34359738304), (1, .long 137438953280), (1, .long 127), (3, .long 9223372036854775807), (1, .long 63), (1, .methodref 8 31), (0, .nameAndType 32 33), (0, u "wordsFor"), (0, u "(J)I"), (0, .class_ 35), (0, u "com/example/membership/membership/CellWordsForPinLaw"), (2, u "law"), (0, u "(IJI)Z")] 7

def k1m0 : Method := { name := "<init>", desc := "()V", sig := { parameters := [], returnType := none }, accessFlags := 1, code := none }
def k1c1 : Code := { maxStack := 6, maxLocals := 21, code := code, exceptionTable := #[], attributes := #[] }
def k1m1 : Method := { name := "law", desc := "(IJI)Z", sig := { parameters := [.int, .long, .int], returnType := some .boolean }, accessFlags := 9, code := some k1c1 }
/-- com/example/membership/membership/CellWordsForPinLaw -/
def k1 : Class := { plain "com/example/membership/membership/CellWordsForPinLaw" (some 0) with
  accessFlags := 49
  interfaces := #[]
  cf := some (fileOf pool1 34 #[] #[{ accessFlags := 1, nameIndex := 5, descriptorIndex := 6, attributes := #[] }, { accessFlags := 9, nameIndex := 38, descriptorIndex := 39, attributes := #[] }] 49 2 #[] #[])
  fields := #[]
  methods := #[k1m0, k1m1]
  instanceTypes := #[]
  staticTypes := #[]
  resolved := Array.replicate 47 none
  statics := none }

def pool2 : Array CpInfo := pool [(1, .class_ 2), (0, u "java/lang/constant/Constable"), (0, .class_ 4), (0, u "java/lang/Object")] 6

/-- java/lang/constant/Constable -/
def k2 : Class := { plain "java/lang/constant/Constable" (some 0) with
  accessFlags := 1537
  interfaces := #[]
  cf := some (fileOf pool2 1 #[] #[] 1537 3 #[] #[])
  fields := #[]
  methods := #[]
  instanceTypes := #[]
  staticTypes := #[]
  resolved := Array.replicate 11 none
  statics := none }

def pool3 : Array CpInfo := pool [(1, .class_ 2), (0, u "java/lang/Comparable"), (0, .class_ 4), (0, u "java/lang/Object")] 7

/-- java/lang/Comparable -/
def k3 : Class := { plain "java/lang/Comparable" (some 0) with
  accessFlags := 1537
  interfaces := #[]
  cf := some (fileOf pool3 1 #[] #[] 1537 3 #[] #[])
  fields := #[]
  methods := #[]
  instanceTypes := #[]
  staticTypes := #[]
  resolved := Array.replicate 12 none
  statics := none }

def pool4 : Array CpInfo := pool [(1, .class_ 2), (0, u "java/io/Serializable"), (0, .class_ 4), (0, u "java/lang/Object")] 2

/-- java/io/Serializable -/
def k4 : Class := { plain "java/io/Serializable" (some 0) with
  accessFlags := 1537
  interfaces := #[]
  cf := some (fileOf pool4 1 #[] #[] 1537 3 #[] #[])
  fields := #[]
  methods := #[]
  instanceTypes := #[]
  staticTypes := #[]
  resolved := Array.replicate 7 none
  statics := none }

def pool5 : Array CpInfo := pool [(2, .class_ 4), (1, u "java/lang/Enum"), (0, u "name"), (0, u "Ljava/lang/String;"), (2, u "ordinal"), (0, u "I"), (1, .class_ 14), (1, u "java/lang/Object"), (4, u "hash"), (86, .class_ 108), (1, u "java/lang/Enum$EnumDesc"), (2, .class_ 112), (0, u "java/lang/constant/Constable"), (0, .class_ 114), (0, u "java/lang/Comparable"), (0, .class_ 116), (0, u "java/io/Serializable")] 87

/-- java/lang/Enum -/
def k5 : Class := { plain "java/lang/Enum" (some 0) with
  accessFlags := 1057
  interfaces := #[2, 3, 4]
  cf := some (fileOf pool5 2 #[.nestMembers #[106]] #[] 1057 12 #[111, 113, 115] #[{ accessFlags := 18, nameIndex := 5, descriptorIndex := 6, attributes := #[] }, { accessFlags := 18, nameIndex := 9, descriptorIndex := 10, attributes := #[] }, { accessFlags := 2, nameIndex := 19, descriptorIndex := 10, attributes := #[] }])
  fields := #[{ name := "name", type := (.object "java/lang/String"), accessFlags := 18, slot := 0, constantValue := 0 }, { name := "ordinal", type := .int, accessFlags := 18, slot := 1, constantValue := 0 }, { name := "hash", type := .int, accessFlags := 2, slot := 2, constantValue := 0 }]
  methods := #[]
  instanceTypes := #[(.object "java/lang/String"), .int, .int]
  staticTypes := #[]
  resolved := Array.replicate 204 none
  statics := none }

def pool6 : Array CpInfo := pool [(1, .class_ 2), (0, u "com/example/membership/membership/BloomShape$Cell"), (2, u "BIT"), (0, u "Lcom/example/membership/membership/BloomShape$Cell;"), (2, u "COUNTER"), (2, u "$VALUES"), (0, u "[Lcom/example/membership/membership/BloomShape$Cell;"), (6, .class_ 22), (1, u "java/lang/Enum"), (6, .fieldref 1 30), (0, .nameAndType 31 32), (0, u "width"), (0, u "I"), (2, u "plural"), (0, u "Ljava/lang/String;"), (6, .long 64), (3, u "max"), (0, u "J"), (21, u "wordsFor"), (0, u "(J)I"), (10, .class_ 83), (0, u "com/example/membership/membership/BloomShape")] 2

def k6c0 : Code := { maxStack := 4, maxLocals := 3, code := prog_4_method_5_code, exceptionTable := #[], attributes := #[] }
def k6m0 : Method := { name := "wordsFor", desc := "(J)I", sig := { parameters := [.long], returnType := some .int }, accessFlags := 0, code := some k6c0 }
/-- com/example/membership/membership/BloomShape$Cell -/
def k6 : Class := { plain "com/example/membership/membership/BloomShape$Cell" (some 5) with
  accessFlags := 16432
  interfaces := #[]
  cf := some (fileOf pool6 1 #[.nestHost 82] #[{ accessFlags := 0, nameIndex := 70, descriptorIndex := 71, attributes := #[] }] 16432 20 #[] #[{ accessFlags := 16409, nameIndex := 5, descriptorIndex := 6, attributes := #[] }, { accessFlags := 16409, nameIndex := 9, descriptorIndex := 6, attributes := #[] }, { accessFlags := 18, nameIndex := 31, descriptorIndex := 32, attributes := #[] }, { accessFlags := 18, nameIndex := 35, descriptorIndex := 36, attributes := #[] }, { accessFlags := 18, nameIndex := 47, descriptorIndex := 48, attributes := #[] }, { accessFlags := 4122, nameIndex := 12, descriptorIndex := 13, attributes := #[] }])
  fields := #[{ name := "BIT", type := (.object "com/example/membership/membership/BloomShape$Cell"), accessFlags := 16409, slot := 0, constantValue := 0 }, { name := "COUNTER", type := (.object "com/example/membership/membership/BloomShape$Cell"), accessFlags := 16409, slot := 1, constantValue := 0 }, { name := "width", type := .int, accessFlags := 18, slot := 3, constantValue := 0 }, { name := "plural", type := (.object "java/lang/String"), accessFlags := 18, slot := 4, constantValue := 0 }, { name := "max", type := .long, accessFlags := 18, slot := 5, constantValue := 0 }, { name := "$VALUES", type := (.array (.object "com/example/membership/membership/BloomShape$Cell")), accessFlags := 4122, slot := 2, constantValue := 0 }]
  methods := #[k6m0]
  instanceTypes := #[(.object "java/lang/String"), .int, .int, .int, (.object "java/lang/String"), .long]
  staticTypes := #[(.object "com/example/membership/membership/BloomShape$Cell"), (.object "com/example/membership/membership/BloomShape$Cell"), (.array (.object "com/example/membership/membership/BloomShape$Cell"))]
  resolved := Array.replicate 86 none
  statics := some 0 }

def pool7 : Array CpInfo := pool [(1, u "java/lang/Cloneable"), (0, .class_ 1), (0, u "java/lang/Object"), (0, .class_ 3)] 3

/-- java/lang/Cloneable -/
def k7 : Class := { plain "java/lang/Cloneable" (some 0) with
  accessFlags := 1537
  interfaces := #[]
  cf := some (fileOf pool7 2 #[] #[] 1537 4 #[] #[])
  fields := #[]
  methods := #[]
  instanceTypes := #[]
  staticTypes := #[]
  resolved := Array.replicate 8 none
  statics := none }

/-- the primitive byte -/
def k8 : Class := { plain "byte" none with kind := .primitive 'B', accessFlags := 0x411 }
/-- [B -/
def k9 : Class := { plain "[B" (some 0) with kind := .array 8 .byte, interfaces := #[7, 4], accessFlags := 1041 }

/-- the primitive int -/
def k10 : Class := { plain "int" none with kind := .primitive 'I', accessFlags := 0x411 }
/-- [I -/
def k11 : Class := { plain "[I" (some 0) with kind := .array 10 .int, interfaces := #[7, 4], accessFlags := 1041 }

def heap : Heap := #[{ cls := 6, slots := #[.ref 1, .ref 2, .null], vm := .statics 6 },
  { cls := 6, slots := #[.null, .int 0, .int 0, .int 1, .null, .long 0], vm := .none },
  { cls := 6, slots := #[.null, .int 1, .int 0, .int 4, .null, .long 0], vm := .none }]
def classes : Array Class := #[k0, k1, k2, k3, k4, k5, k6, k7, k8, k9, k10, k11]
def interned : List (Array UInt16 × Addr) := []
def slotsUsed : Nat := 15
def theMethod : MethodId := ⟨1, 1⟩
def args0 : Array Value := #[.int 5, .long 7, .int 7]
def aboutOver (below : List Frame) : State where
  vm := { classes := classes, interned := interned.toArray }
  heap := heap
  slotsUsed := slotsUsed
  threads := #[{ frames := .invoking theMethod args0 :: below }]
def below0 : List Frame := [.native { method := ⟨0, 0⟩, args := #[] }]
def about1 : State := aboutOver below0
def p0 : Program := .bare "" "" ""
def e0 : Env := launch0.env 0 0 0
theorem w_frames : about1.frames = Frame.invoking theMethod args0 :: below0 := rfl
set_option maxRecDepth 65536 in
theorem w_args : argsFit about1.vm theMethod args0 = true := by decide +kernel
set_option maxRecDepth 65536 in
theorem w_heap : heapFits about1 = true := by decide +kernel
set_option maxRecDepth 65536 in
theorem w_runnable : about1.curStatus? = some .runnable := by decide +kernel
set_option maxRecDepth 65536 in
theorem w_alone : about1.alone = true := by decide +kernel
set_option maxRecDepth 65536 in
theorem w_named : about1.methodNamed? x = some theMethod := by decide +kernel
set_option maxRecDepth 65536 in
theorem w_hears : about1.hears theMethod below0 = true := by decide +kernel
set_option maxRecDepth 65536 in
theorem w_ripe : about1.ripe theMethod args0 below0 = true := by decide +kernel
theorem w_running : about1.status = .running := rfl
set_option maxRecDepth 65536 in
theorem w_room : about1.hasRoom e0.platform room_1 = true :=
  launch0.hasRoom_least _ room_1 (by decide +kernel) (by decide +kernel) (by decide +kernel) (by decide +kernel) (by decide +kernel) (by decide +kernel)
theorem allAtoms_all (ts : List Jvm.Cond) (a : Array Jvm.Value) (st : Jvm.State) : (allAtoms ts).before a st = ts.all (fun c => c.before a st) := by
  induction ts with
  | nil => rfl
  | cons c t ih =>
    show (Jvm.Cond.and c (allAtoms t)).before a st = _
    rw [Jvm.Cond.before_and, ih, List.all_cons]
def words1 : List Jvm.Cond := Jvm.Cond.code x code maxLocals ret :: tables_1
/-- a 'code' word, met by the world's own term for the bytes: nothing is compared byte by byte -/
theorem code_word {y : MethodName} {bytes : ByteArray} {mx : Nat} {rt : Option FieldType} {a : Array Value} {s : State} {m : MethodId} {meth : Method} {c : Code} (h1 : s.methodNamed? y = some m) (h2 : s.vm.method? m = some meth) (h3 : meth.code = some c) (h4 : c.code = bytes)
    (h5 : (c.maxLocals == mx && c.exceptionTable.isEmpty && decide (c.maxStack ≤ mostOperands) && decide (meth.sig.returnType = rt) && !meth.locks && decide (parseMethodDescriptor y.desc = some meth.sig)) = true) : (Jvm.Cond.code y bytes mx rt).before a s = true := by
  simp only [Bool.and_eq_true, beq_iff_eq, Bool.not_eq_true', decide_eq_true_eq] at h5
  obtain ⟨⟨⟨⟨⟨g1, g2⟩, g3⟩, g4⟩, g5⟩, g6⟩ := h5
  simp [Cond.before, Cond.holds, Cond.value, h1, h2, h3, h4, g1, g2, g3, g4, g5, g6]
def isCode : Jvm.Cond → Bool
  | .code _ _ _ _ => true
  | _ => false
theorem all_split {L : List Jvm.Cond} {P : Jvm.Cond → Bool} (h1 : L.all (fun c => isCode c || P c) = true) (h2 : ∀ c ∈ L.filter isCode, P c = true) : L.all P = true := by
  refine List.all_eq_true.mpr fun c hc => ?_
  have h := List.all_eq_true.mp h1 c hc
  rcases Bool.eq_false_or_eq_true (isCode c) with hi | hi
  · exact h2 c (List.mem_filter.mpr ⟨hc, hi⟩)
  · simpa [hi] using h
set_option maxRecDepth 65536 in
theorem w_c0 : (Jvm.Cond.code x code maxLocals ret).before args0 about1 = true := code_word (m := ⟨1, 1⟩) (meth := k1m1) (c := k1c1) (by decide +kernel) rfl rfl rfl (by decide +kernel)
set_option maxRecDepth 65536 in
theorem w_c1 : (Jvm.Cond.code ({ cls := "com/example/membership/membership/BloomShape$Cell", name := "wordsFor", desc := "(J)I" } : Jvm.MethodName) prog_4_method_5_code (3 : Nat) (Option.some Jvm.ClassFile.FieldType.int)).before args0 about1 = true := code_word (m := ⟨6, 0⟩) (meth := k6m0) (c := k6c0) (by decide +kernel) rfl rfl rfl (by decide +kernel)
def codes1 : List Jvm.Cond := [Jvm.Cond.code x code maxLocals ret, Jvm.Cond.code ({ cls := "com/example/membership/membership/BloomShape$Cell", name := "wordsFor", desc := "(J)I" } : Jvm.MethodName) prog_4_method_5_code (3 : Nat) (Option.some Jvm.ClassFile.FieldType.int)]
set_option maxRecDepth 65536 in
theorem codes_eq : words1.filter isCode = codes1 := rfl
theorem w_codes : ∀ c ∈ words1.filter isCode, c.before args0 about1 = true := by
  rw [codes_eq]
  intro c hc
  simp only [codes1, List.mem_cons, List.not_mem_nil, or_false] at hc
  rcases hc with rfl | rfl
  · exact w_c0
  · exact w_c1
set_option maxRecDepth 65536 in
theorem w_t1 : words1.all (fun c => isCode c || c.before args0 about1) = true := by decide +kernel
theorem w_tables : (allAtoms (Jvm.Cond.code x code maxLocals ret :: tables_1)).before args0 about1 = true := by
  rw [allAtoms_all]
  show words1.all (fun c => c.before args0 about1) = true
  refine all_split ?_ w_codes
  rw [w_t1]
set_option maxRecDepth 65536 in
theorem w_case : (Jvm.Cond.and given_1 narrow_1).before args0 about1 = true := by decide +kernel
theorem w_applies : (headSpec (Jvm.Cond.code x code maxLocals ret :: tables_1) room_1).applies x e0.platform about1 = true :=
  (Spec.applies_iff w_frames).mpr ⟨w_running, w_runnable, w_alone, w_named, w_hears, w_ripe, w_room, w_tables⟩
theorem atStart : AtStart classFile x code maxLocals ret World_1 tables_1 room_1 Calls_1 rest_1 Pre_1 launch0 p0 e0 about1 theMethod args0 below0 :=
  ⟨lists_1, trivial, launch0.admits_env _ _ _, launch0.least_env, fairChoices_fair.cas, fairChoices_fair.clock, w_frames, w_args, w_heap, w_applies, trivial, trivial, w_case⟩
end start1
theorem witness_1 : WitnessClaimed_1 := ⟨start1.p0, start1.e0, start1.about1, start1.theMethod, start1.args0, start1.below0, start1.atStart⟩
end Jvm.Pilot.@@N@@
