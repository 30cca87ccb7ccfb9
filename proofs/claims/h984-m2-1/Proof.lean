import JvmDerived
import JvmDerived.Pilot.@@N@@Statement
import JvmDerived.Pilot.@@N@@Code
set_option linter.unusedVariables false
set_option linter.unusedSimpArgs false
@@BLOCK:NumsL.lean.txt@@
namespace Jvm.Pilot.@@N@@
open Jvm Jvm.ClassFile Sem Op Lib Jvm.Free Jvm.Stand Jvm.LawKit Jvm.RoadKit Bundle Jvm.Pilot.@@N@@.Jvm.D
theorem own_eqL {x y : Int64} (h : x = y) : lcmpW x y = 0 := by rw [lcW]; exact (lc_eq x y).2 h
theorem own_neL {x y : Int64} (h : ¬ x = y) : ¬ lcmpW x y = 0 := by rw [lcW]; exact fun q => h ((lc_eq x y).1 q)
theorem own_ltL {x y : Int64} (h : x < y) : lcmpW x y < 0 := by rw [lcW]; exact (lc_lt x y).2 h
theorem own_nltL {x y : Int64} (h : ¬ x < y) : ¬ lcmpW x y < 0 := by rw [lcW]; exact fun q => h ((lc_lt x y).1 q)
theorem own_gtL {x y : Int64} (h : y < x) : 0 < lcmpW x y := by rw [lcW]; exact (lc_gt x y).2 h
theorem own_ngtL {x y : Int64} (h : ¬ y < x) : ¬ 0 < lcmpW x y := by rw [lcW]; exact fun q => h ((lc_gt x y).1 q)
theorem pn_0 : plainName "com/example/loomfilter/loomfilter/core/Sharding" = true := by first | (simp [plainName, overriddenIn]; done) | decide +kernel
theorem d1_0 : decode prog_7_method_3_code 0 = .ok (.lload_n 0, 1) := by decide +kernel
theorem d1_1 : decode prog_7_method_3_code 1 = .ok (.ldc2_w 25, 3) := by decide +kernel
theorem d1_4 : decode prog_7_method_3_code 4 = .ok (.lcmp, 1) := by decide +kernel
theorem d1_5 : decode prog_7_method_3_code 5 = .ok (.ifCond .lt 25, 3) := by decide +kernel
theorem d1_8 : decode prog_7_method_3_code 8 = .ok (.lload_n 0, 1) := by decide +kernel
theorem d1_9 : decode prog_7_method_3_code 9 = .ok (.ldc2_w 35, 3) := by decide +kernel
theorem d1_12 : decode prog_7_method_3_code 12 = .ok (.lcmp, 1) := by decide +kernel
theorem d1_13 : decode prog_7_method_3_code 13 = .ok (.ifCond .gt 17, 3) := by decide +kernel
theorem d1_16 : decode prog_7_method_3_code 16 = .ok (.lload_n 0, 1) := by decide +kernel
theorem d1_17 : decode prog_7_method_3_code 17 = .ok (.ldc2_w 25, 3) := by decide +kernel
theorem d1_20 : decode prog_7_method_3_code 20 = .ok (.lrem, 1) := by decide +kernel
theorem d1_21 : decode prog_7_method_3_code 21 = .ok (.lconst 0, 1) := by decide +kernel
theorem d1_22 : decode prog_7_method_3_code 22 = .ok (.lcmp, 1) := by decide +kernel
theorem d1_23 : decode prog_7_method_3_code 23 = .ok (.ifCond .ne 7, 3) := by decide +kernel
theorem d1_26 : decode prog_7_method_3_code 26 = .ok (.iconst 1, 1) := by decide +kernel
theorem d1_27 : decode prog_7_method_3_code 27 = .ok (.goto 4, 3) := by decide +kernel
theorem d1_30 : decode prog_7_method_3_code 30 = .ok (.iconst 0, 1) := by decide +kernel
theorem d1_31 : decode prog_7_method_3_code 31 = .ok (.ireturn, 1) := by decide +kernel
theorem ef_1 (m : MethodId) (x0 : Int64) : entryFrame m #[(.long x0)] 2 = mkF m 0 #[.val (.long x0), .second] [] := by first | (simp [entryFrame, mkF, argsToLocals, Value.category]; done) | rfl
def f1 (q0 : Int64) : Int32 := (if q0 < (64 : Int64) then (0 : Int32) else (if (4294967296 : Int64) < q0 then (0 : Int32) else (if (q0 % (64 : Int64)) = (0 : Int64) then (1 : Int32) else (0 : Int32))))
def Q1 (Z : State) (q0 : Int64) (h0 : Heap) (n0 : Nat) (v : Option Value) (h : Heap) (L : List Loc) : Prop := v = some (.int (f1 q0)) ∧ Fr n0 L ∧ h = h0
set_option maxRecDepth 65536 in
set_option maxHeartbeats 40000000 in
theorem rm1 (l : Launch) (Z : State) (a0 : Array Value) (hw : ∀ d ∈ tables_1, d.before a0 Z = true) (ws : List Jvm.Cond) (q0 : Int64) (h0 : Heap) (n0 : Nat) (Z0 : n0 ≤ h0.size) :
    MetFree l (⟨"com/example/loomfilter/loomfilter/core/Sharding", "isShardSize", "(J)Z"⟩ : MethodName) (head1 (Jvm.Cond.code (⟨"com/example/loomfilter/loomfilter/core/Sharding", "isShardSize", "(J)Z"⟩ : MethodName) prog_7_method_3_code 2 (some .boolean) :: ws) ({ frames := 0, cells := 0, slots := 0, locals := 0 } : Room)) (fun a U => a = #[(.long q0)] ∧ Z.Warmed39 U.vm ∧ U.heap = h0) (fun _ _ _ _ _ => True) (fun _ U o U' => ∃ v L, o = .returned v ∧ Q1 Z q0 h0 n0 v U'.heap L ∧ FrameEnd U o U' L ({ frames := 0, cells := 0, slots := 0, locals := 0 } : Room).cells ({ frames := 0, cells := 0, slots := 0, locals := 0 } : Room).slots) := by
  refine MetFree.of_bodySF (plainFor_of_name pn_0) hisR ?_
  intro p e s m args below meth c s₁ Bd hml0 hP hK
  obtain ⟨rfl, hZ, hh⟩ := hP
  have hx := Bd.exec
  have hby := Bd.bytes
  have hml : c.maxLocals = 2 := hml0
  have hown : s.vm.findClass "com/example/loomfilter/loomfilter/core/Sharding" = some m.cls := findClass_of_methodNamed Bd.named
  have hnm := (name_of_methodNamed Bd.named Bd.method).1
  have X0 : Stand p l e ({ frames := 0, cells := 0, slots := 0, locals := 0 } : Room) s m #[(.long q0)] below meth c s₁ [] 0 0 := Stand.of_body Bd
  have e0 : s₁.heap = h0 := by rw [← hh, Bd.state]; rfl
  have N0 := Fr.nil n0
  have pre0 : ∀ t, Steps p.tables e below (s₁.setTop (mkF m 0 #[.val (.long q0), .second] [])) t → Steps p.tables e below (s₁.setTop (entryFrame m #[(.long q0)] 2)) t := fun t k => castTop (ef_1 m q0) k
  have pre1 : ∀ t, Steps p.tables e below (s₁.setTop (mkF m 5 #[.val (.long q0), .second] [(.int (lcmpW q0 (64 : Int64)))])) t → Steps p.tables e below (s₁.setTop (entryFrame m #[(.long q0)] 2)) t := by
    intro t k
    refine pre0 t ?_
    show Steps p.tables e below (s₁.setTop (mkF m 0 #[.val (.long q0), .second] [])) _
    refine XS.lloadN X0.here hx rfl (hb hby d1_0) rfl ?_
    show Steps p.tables e below (s₁.setTop (mkF m 1 #[.val (.long q0), .second] [(.long q0)])) _
    refine X0.ldc2Long hx hown (mvT hZ (hw _ (List.mem_of_getElem? (i := 5) rfl))) (g := (mkF m 1 #[.val (.long q0), .second] [(.long q0)])) rfl (hb hby d1_1) _ ?_
    show Steps p.tables e below (s₁.setTop (mkF m 4 #[.val (.long q0), .second] [(.long (64 : Int64)), (.long q0)])) _
    refine XS.lcmp X0.here hx rfl (hb hby d1_4) rfl ?_
    show Steps p.tables e below (s₁.setTop (mkF m 5 #[.val (.long q0), .second] [(.int (lcmpW q0 (64 : Int64)))])) _
    exact k
  by_cases hc5_2 : q0 < (64 : Int64)
  · obtain ⟨fs, hr, hrun, hended, hW, hsame⟩ := X0.leave (v := some (.int (0 : Int32))) (fun h => by rw [Bd.returns] at h; cases h)
    refine ⟨_, _, pre1 _ ?_, hrun, hended, _, _, rfl, ?_, ⟨_, rfl⟩, hW, hsame.mono (by decide) (by decide)⟩
    · show Steps p.tables e below (s₁.setTop (mkF m 5 #[.val (.long q0), .second] [(.int (lcmpW q0 (64 : Int64)))])) _
      refine XS.ifYes X0.here hx rfl (pc0 := 5) (pc' := 30) rfl (hb hby d1_5) rfl ((if0 _ _).trans (tlt (own_ltL hc5_2)).1) (by decide) (by decide) ?_
      show Steps p.tables e below (s₁.setTop (mkF m 30 #[.val (.long q0), .second] [])) _
      refine XS.iconst X0.here hx rfl (hb hby d1_30) ?_
      show Steps p.tables e below (s₁.setTop (mkF m 31 #[.val (.long q0), .second] [(.int (0 : Int32))])) _
      exact retN X0 hx (t := .boolean) Bd.returns (by simp) (hb hby d1_31) hr
    · show Q1 Z q0 h0 n0 _ s₁.heap _
      rw [e0]
      exact ⟨by unfold f1; rw [if_pos hc5_2], N0, rfl⟩
  · have pre3 : ∀ t, Steps p.tables e below (s₁.setTop (mkF m 13 #[.val (.long q0), .second] [(.int (lcmpW q0 (4294967296 : Int64)))])) t → Steps p.tables e below (s₁.setTop (entryFrame m #[(.long q0)] 2)) t := by
      intro t k
      refine pre1 t ?_
      show Steps p.tables e below (s₁.setTop (mkF m 5 #[.val (.long q0), .second] [(.int (lcmpW q0 (64 : Int64)))])) _
      refine XS.ifNo X0.here hx rfl (hb hby d1_5) rfl ((if0 _ _).trans (flt (own_nltL hc5_2)).1) ?_
      show Steps p.tables e below (s₁.setTop (mkF m 8 #[.val (.long q0), .second] [])) _
      refine XS.lloadN X0.here hx rfl (hb hby d1_8) rfl ?_
      show Steps p.tables e below (s₁.setTop (mkF m 9 #[.val (.long q0), .second] [(.long q0)])) _
      refine X0.ldc2Long hx hown (mvT hZ (hw _ (List.mem_of_getElem? (i := 8) rfl))) (g := (mkF m 9 #[.val (.long q0), .second] [(.long q0)])) rfl (hb hby d1_9) _ ?_
      show Steps p.tables e below (s₁.setTop (mkF m 12 #[.val (.long q0), .second] [(.long (4294967296 : Int64)), (.long q0)])) _
      refine XS.lcmp X0.here hx rfl (hb hby d1_12) rfl ?_
      show Steps p.tables e below (s₁.setTop (mkF m 13 #[.val (.long q0), .second] [(.int (lcmpW q0 (4294967296 : Int64)))])) _
      exact k
    by_cases hc13_4 : (4294967296 : Int64) < q0
    · obtain ⟨fs, hr, hrun, hended, hW, hsame⟩ := X0.leave (v := some (.int (0 : Int32))) (fun h => by rw [Bd.returns] at h; cases h)
      refine ⟨_, _, pre3 _ ?_, hrun, hended, _, _, rfl, ?_, ⟨_, rfl⟩, hW, hsame.mono (by decide) (by decide)⟩
      · show Steps p.tables e below (s₁.setTop (mkF m 13 #[.val (.long q0), .second] [(.int (lcmpW q0 (4294967296 : Int64)))])) _
        refine XS.ifYes X0.here hx rfl (pc0 := 13) (pc' := 30) rfl (hb hby d1_13) rfl ((if0 _ _).trans (tlt (own_gtL hc13_4)).2.2.1) (by decide) (by decide) ?_
        show Steps p.tables e below (s₁.setTop (mkF m 30 #[.val (.long q0), .second] [])) _
        refine XS.iconst X0.here hx rfl (hb hby d1_30) ?_
        show Steps p.tables e below (s₁.setTop (mkF m 31 #[.val (.long q0), .second] [(.int (0 : Int32))])) _
        exact retN X0 hx (t := .boolean) Bd.returns (by simp) (hb hby d1_31) hr
      · show Q1 Z q0 h0 n0 _ s₁.heap _
        rw [e0]
        exact ⟨by unfold f1; rw [if_neg hc5_2, if_pos hc13_4], N0, rfl⟩
    · have pre5 : ∀ t, Steps p.tables e below (s₁.setTop (mkF m 23 #[.val (.long q0), .second] [(.int (lcmpW (q0 % (64 : Int64)) (0 : Int64)))])) t → Steps p.tables e below (s₁.setTop (entryFrame m #[(.long q0)] 2)) t := by
        intro t k
        refine pre3 t ?_
        show Steps p.tables e below (s₁.setTop (mkF m 13 #[.val (.long q0), .second] [(.int (lcmpW q0 (4294967296 : Int64)))])) _
        refine XS.ifNo X0.here hx rfl (hb hby d1_13) rfl ((if0 _ _).trans (flt (own_ngtL hc13_4)).2.2.1) ?_
        show Steps p.tables e below (s₁.setTop (mkF m 16 #[.val (.long q0), .second] [])) _
        refine XS.lloadN X0.here hx rfl (hb hby d1_16) rfl ?_
        show Steps p.tables e below (s₁.setTop (mkF m 17 #[.val (.long q0), .second] [(.long q0)])) _
        refine X0.ldc2Long hx hown (mvT hZ (hw _ (List.mem_of_getElem? (i := 5) rfl))) (g := (mkF m 17 #[.val (.long q0), .second] [(.long q0)])) rfl (hb hby d1_17) _ ?_
        show Steps p.tables e below (s₁.setTop (mkF m 20 #[.val (.long q0), .second] [(.long (64 : Int64)), (.long q0)])) _
        refine XS.lrem X0.here hx rfl (hb hby d1_20) rfl (by decide) ?_
        rw [lrem_mod]
        show Steps p.tables e below (s₁.setTop (mkF m 21 #[.val (.long q0), .second] [(.long (q0 % (64 : Int64)))])) _
        refine XS.lconst X0.here hx rfl (hb hby d1_21) ?_
        show Steps p.tables e below (s₁.setTop (mkF m 22 #[.val (.long q0), .second] [(.long (0 : Int64)), (.long (q0 % (64 : Int64)))])) _
        refine XS.lcmp X0.here hx rfl (hb hby d1_22) rfl ?_
        show Steps p.tables e below (s₁.setTop (mkF m 23 #[.val (.long q0), .second] [(.int (lcmpW (q0 % (64 : Int64)) (0 : Int64)))])) _
        exact k
      by_cases hc23_6 : (q0 % (64 : Int64)) = (0 : Int64)
      · obtain ⟨fs, hr, hrun, hended, hW, hsame⟩ := X0.leave (v := some (.int (1 : Int32))) (fun h => by rw [Bd.returns] at h; cases h)
        refine ⟨_, _, pre5 _ ?_, hrun, hended, _, _, rfl, ?_, ⟨_, rfl⟩, hW, hsame.mono (by decide) (by decide)⟩
        · show Steps p.tables e below (s₁.setTop (mkF m 23 #[.val (.long q0), .second] [(.int (lcmpW (q0 % (64 : Int64)) (0 : Int64)))])) _
          refine XS.ifNo X0.here hx rfl (hb hby d1_23) rfl ((if0 _ _).trans (teq (own_eqL hc23_6)).2) ?_
          show Steps p.tables e below (s₁.setTop (mkF m 26 #[.val (.long q0), .second] [])) _
          refine XS.iconst X0.here hx rfl (hb hby d1_26) ?_
          show Steps p.tables e below (s₁.setTop (mkF m 27 #[.val (.long q0), .second] [(.int (1 : Int32))])) _
          refine XS.goto X0.here hx rfl (pc0 := 27) (pc' := 31) rfl (hb hby d1_27) (by decide) (by decide) ?_
          show Steps p.tables e below (s₁.setTop (mkF m 31 #[.val (.long q0), .second] [(.int (1 : Int32))])) _
          exact retN X0 hx (t := .boolean) Bd.returns (by simp) (hb hby d1_31) hr
        · show Q1 Z q0 h0 n0 _ s₁.heap _
          rw [e0]
          exact ⟨by unfold f1; rw [if_neg hc5_2, if_neg hc13_4, if_pos hc23_6], N0, rfl⟩
      · obtain ⟨fs, hr, hrun, hended, hW, hsame⟩ := X0.leave (v := some (.int (0 : Int32))) (fun h => by rw [Bd.returns] at h; cases h)
        refine ⟨_, _, pre5 _ ?_, hrun, hended, _, _, rfl, ?_, ⟨_, rfl⟩, hW, hsame.mono (by decide) (by decide)⟩
        · show Steps p.tables e below (s₁.setTop (mkF m 23 #[.val (.long q0), .second] [(.int (lcmpW (q0 % (64 : Int64)) (0 : Int64)))])) _
          refine XS.ifYes X0.here hx rfl (pc0 := 23) (pc' := 30) rfl (hb hby d1_23) rfl ((if0 _ _).trans (feq (own_neL hc23_6)).2) (by decide) (by decide) ?_
          show Steps p.tables e below (s₁.setTop (mkF m 30 #[.val (.long q0), .second] [])) _
          refine XS.iconst X0.here hx rfl (hb hby d1_30) ?_
          show Steps p.tables e below (s₁.setTop (mkF m 31 #[.val (.long q0), .second] [(.int (0 : Int32))])) _
          exact retN X0 hx (t := .boolean) Bd.returns (by simp) (hb hby d1_31) hr
        · show Q1 Z q0 h0 n0 _ s₁.heap _
          rw [e0]
          exact ⟨by unfold f1; rw [if_neg hc5_2, if_neg hc13_4, if_neg hc23_6], N0, rfl⟩
theorem own_f1 (q : Int64) : f1 q = if 64 ≤ q.toInt ∧ q.toInt ≤ 4294967296 ∧ q.toInt % 64 = 0 then 1 else 0 := by
  unfold f1
  have e1 : (64 : Int64).toInt = 64 := by decide
  have e2 : (4294967296 : Int64).toInt = 4294967296 := by decide
  have e3 : (0 : Int64).toInt = 0 := by decide
  have e4 : q % 64 = 0 ↔ q.toInt.tmod 64 = 0 := by
    rw [← Int64.toInt_inj, Int64.toInt_mod, e1, e3]
  by_cases a : q < 64
  · rw [if_pos a, if_neg]; rw [Int64.lt_iff_toInt_lt, e1] at a; omega
  · rw [if_neg a]; rw [Int64.lt_iff_toInt_lt, e1] at a
    by_cases b : 4294967296 < q
    · rw [if_pos b, if_neg]; rw [Int64.lt_iff_toInt_lt, e2] at b; omega
    · rw [if_neg b]; rw [Int64.lt_iff_toInt_lt, e2] at b
      have e5 : q.toInt.tmod 64 = q.toInt % 64 := Int.tmod_eq_emod_of_nonneg (by omega)
      by_cases c : q % 64 = 0
      · rw [if_pos c, if_pos]; rw [e4, e5] at c; omega
      · rw [if_neg c, if_neg]; rw [e4, e5] at c; omega
theorem own_p1 {q0 : Int64} {v : Int32} (hv : v = (if (0 : Int64) < q0 then (if (q0 &&& (63 : Int64)) = (0 : Int64) then (if (((q0 - (1 : Int64)).toUInt64 >>> ((32 : Int32) &&& 0x3f).toInt64.toUInt64).toInt64) = (0 : Int64) then (1 : Int32) else (0 : Int32)) else (0 : Int32)) else (0 : Int32))) : f1 q0 = v := by
  rw [own_f1, hv]
  have b1 := q0.le_toInt; have b2 := q0.toInt_lt
  have e1 : (1 : Int64).toInt = 1 := by decide
  have e3 : (0 : Int64).toInt = 0 := by decide
  have m : (q0 &&& 63).toInt = q0.toInt % 2 ^ 6 := Jvm.Kit.i64_mask q0 63 (k := 6) (by decide) (by decide)
  by_cases a : 0 < q0
  · rw [if_pos a]
    rw [Int64.lt_iff_toInt_lt, e3] at a
    have s : (q0 - 1).toInt = q0.toInt - 1 := by rw [Jvm.Kit.i64_sub (by rw [e1]; omega) (by rw [e1]; omega), e1]
    have u : (((q0 - (1 : Int64)).toUInt64 >>> ((32 : Int32) &&& 0x3f).toInt64.toUInt64).toInt64).toInt = (q0.toInt - 1) / 2 ^ 32 := by
      rw [Jvm.Kit.i64_lushr (k := 32) (by rw [Jvm.Kit.i64_nonneg, s]; omega) (by decide) (by decide), s]
    by_cases c : (q0 &&& 63) = 0
    · rw [if_pos c]; rw [← Int64.toInt_inj, m, e3] at c
      by_cases d : (((q0 - (1 : Int64)).toUInt64 >>> ((32 : Int32) &&& 0x3f).toInt64.toUInt64).toInt64) = (0 : Int64)
      · rw [if_pos d]; rw [← Int64.toInt_inj, u, e3] at d
        rw [if_pos]; omega
      · rw [if_neg d]; rw [← Int64.toInt_inj, u, e3] at d
        rw [if_neg]; omega
    · rw [if_neg c]; rw [← Int64.toInt_inj, m, e3] at c
      rw [if_neg]; omega
  · rw [if_neg a]; rw [Int64.lt_iff_toInt_lt, e3] at a
    rw [if_neg]; omega
theorem own_u35 {p1 p2 w : Int32} {u b : Int64} (hu : u = ((p1 &&& (134217727 : Int32)).toInt64)) (hw : w = (p2 &&& (63 : Int32))) (hb : b = ((u * (64 : Int64)) + (w.toInt64))) :
    u.toInt = p1.toInt % 2 ^ 27 ∧ w.toInt = p2.toInt % 64 ∧ b.toInt = u.toInt * 64 + w.toInt := by
  have e1 : (64 : Int64).toInt = 64 := by decide
  have m1 : u.toInt = p1.toInt % 2 ^ 27 := by rw [hu, Jvm.Kit.i64_of_i32, Jvm.Kit.i32_mask p1 134217727 (k := 27) (by decide) (by decide)]
  have m2 : w.toInt = p2.toInt % 2 ^ 6 := by rw [hw]; exact Jvm.Kit.i32_mask p2 63 (k := 6) (by decide) (by decide)
  have m3 : w.toInt64.toInt = w.toInt := Jvm.Kit.i64_of_i32 w
  have m4 : (u * 64).toInt = u.toInt * 64 := by rw [Jvm.Kit.i64_mul (by rw [e1]; omega) (by rw [e1]; omega), e1]
  refine ⟨m1, by omega, ?_⟩
  rw [hb, Jvm.Kit.i64_add (by rw [m4, m3]; omega) (by rw [m4, m3]; omega), m4, m3]
theorem own_p2 {p1 p2 w v : Int32} {u b : Int64} (hu : u = ((p1 &&& (134217727 : Int32)).toInt64)) (hw : w = (p2 &&& (63 : Int32))) (hb : b = ((u * (64 : Int64)) + (w.toInt64)))
    (hv : v = (if w = (0 : Int32) then (if u < (1 : Int64) then (0 : Int32) else (if (67108864 : Int64) < u then (0 : Int32) else (1 : Int32))) else (0 : Int32))) : f1 b = v := by
  obtain ⟨a1, a2, a3⟩ := own_u35 hu hw hb
  have e0 : (0 : Int32).toInt = 0 := by decide
  have e1 : (1 : Int64).toInt = 1 := by decide
  have e2 : (67108864 : Int64).toInt = 67108864 := by decide
  rw [own_f1, hv]
  by_cases a : w = 0
  · rw [if_pos a]; rw [← Int32.toInt_inj, e0] at a
    by_cases c : u < 1
    · rw [if_pos c]; rw [Int64.lt_iff_toInt_lt, e1] at c; rw [if_neg]; omega
    · rw [if_neg c]; rw [Int64.lt_iff_toInt_lt, e1] at c
      by_cases d : 67108864 < u
      · rw [if_pos d]; rw [Int64.lt_iff_toInt_lt, e2] at d; rw [if_neg]; omega
      · rw [if_neg d]; rw [Int64.lt_iff_toInt_lt, e2] at d; rw [if_pos]; omega
  · rw [if_neg a]; rw [← Int32.toInt_inj, e0] at a; rw [if_neg]; omega
theorem own_p3 {p1 p2 w : Int32} {u b : Int64} (hu : u = ((p1 &&& (134217727 : Int32)).toInt64)) (hw : w = (p2 &&& (63 : Int32))) (hb : b = ((u * (64 : Int64)) + (w.toInt64))) : f1 (-b) = 0 := by
  obtain ⟨a1, a2, a3⟩ := own_u35 hu hw hb
  have n : (-b).toInt = -b.toInt := Jvm.Kit.i64_neg (by omega)
  rw [own_f1, if_neg]; omega
theorem own_bit {c : Prop} [Decidable c] {v : Int32} (hc : c) (hv : v = (if c then (1 : Int32) else (0 : Int32))) (h : v = 0) : False := by
  rw [if_pos hc] at hv; rw [hv] at h; exact absurd h (by decide)

theorem pd_0 : parseMethodDescriptor "(J)Z" = some ⟨[.long], some .boolean⟩ := by decide +kernel
theorem pn_1 : plainName "com/example/loomfilter/loomfilter/core/ShardingIsShardSizePinLaw" = true := by first | (simp [plainName, overriddenIn]; done) | decide +kernel
theorem ef_0 (m : MethodId) (x0 : Int64) (x1 : Int32) (x2 : Int32) : entryFrame m #[(.long x0), (.int x1), (.int x2)] maxLocals = mkF m 0 #[.val (.long x0), .second, .val (.int x1), .val (.int x2), .unset, .unset, .unset, .unset, .unset, .unset, .unset, .unset, .unset, .unset] [] := by first | (simp [entryFrame, mkF, argsToLocals, Value.category, maxLocals]; done) | rfl
def Q0 (Z : State) (q0 : Int64) (p1 : Int32) (p2 : Int32) (h0 : Heap) (n0 : Nat) (v : Option Value) (h : Heap) (L : List Loc) : Prop := v = some (.int 1) ∧ Fr n0 L
theorem own_leaf1 {q0 : Int64} {p1 : Int32} {p2 : Int32} {v17 : Int32} {v26 : Int32} {u29 : Int64} {v32 : Int32} {u35 : Int64} {v47 : Int32} {v56 : Int32} {v64 : Int32} (hv17 : v17 = (if (0 : Int64) < q0 then (if (q0 &&& (63 : Int64)) = (0 : Int64) then (if (((q0 - (1 : Int64)).toUInt64 >>> ((32 : Int32) &&& 0x3f).toInt64.toUInt64).toInt64) = (0 : Int64) then (1 : Int32) else (0 : Int32)) else (0 : Int32)) else (0 : Int32))) (hv26 : v26 = (if (f1 q0) = v17 then (1 : Int32) else (0 : Int32))) (hu29 : u29 = ((p1 &&& (134217727 : Int32)).toInt64)) (hv32 : v32 = (p2 &&& (63 : Int32))) (hu35 : u35 = ((u29 * (64 : Int64)) + (v32.toInt64))) (hv47 : v47 = (if v32 = (0 : Int32) then (if u29 < (1 : Int64) then (0 : Int32) else (if (67108864 : Int64) < u29 then (0 : Int32) else (1 : Int32))) else (0 : Int32))) (hv56 : v56 = (if (f1 u35) = v47 then (1 : Int32) else (0 : Int32))) (hv64 : v64 = (if (f1 (-u35)) = (0 : Int32) then (1 : Int32) else (0 : Int32))) (hc138_67 : v26 = (0 : Int32)) : False := by
  exact own_bit (own_p1 hv17) hv26 hc138_67
theorem own_leaf2 {q0 : Int64} {p1 : Int32} {p2 : Int32} {v17 : Int32} {v26 : Int32} {u29 : Int64} {v32 : Int32} {u35 : Int64} {v47 : Int32} {v56 : Int32} {v64 : Int32} (hv17 : v17 = (if (0 : Int64) < q0 then (if (q0 &&& (63 : Int64)) = (0 : Int64) then (if (((q0 - (1 : Int64)).toUInt64 >>> ((32 : Int32) &&& 0x3f).toInt64.toUInt64).toInt64) = (0 : Int64) then (1 : Int32) else (0 : Int32)) else (0 : Int32)) else (0 : Int32))) (hv26 : v26 = (if (f1 q0) = v17 then (1 : Int32) else (0 : Int32))) (hu29 : u29 = ((p1 &&& (134217727 : Int32)).toInt64)) (hv32 : v32 = (p2 &&& (63 : Int32))) (hu35 : u35 = ((u29 * (64 : Int64)) + (v32.toInt64))) (hv47 : v47 = (if v32 = (0 : Int32) then (if u29 < (1 : Int64) then (0 : Int32) else (if (67108864 : Int64) < u29 then (0 : Int32) else (1 : Int32))) else (0 : Int32))) (hv56 : v56 = (if (f1 u35) = v47 then (1 : Int32) else (0 : Int32))) (hv64 : v64 = (if (f1 (-u35)) = (0 : Int32) then (1 : Int32) else (0 : Int32))) (hc138_67 : ¬ (v26 = (0 : Int32))) (hc143_70 : v56 = (0 : Int32)) : False := by
  exact own_bit (own_p2 hu29 hv32 hu35 hv47) hv56 hc143_70
theorem own_leaf3 {q0 : Int64} {p1 : Int32} {p2 : Int32} {v17 : Int32} {v26 : Int32} {u29 : Int64} {v32 : Int32} {u35 : Int64} {v47 : Int32} {v56 : Int32} {v64 : Int32} (hv17 : v17 = (if (0 : Int64) < q0 then (if (q0 &&& (63 : Int64)) = (0 : Int64) then (if (((q0 - (1 : Int64)).toUInt64 >>> ((32 : Int32) &&& 0x3f).toInt64.toUInt64).toInt64) = (0 : Int64) then (1 : Int32) else (0 : Int32)) else (0 : Int32)) else (0 : Int32))) (hv26 : v26 = (if (f1 q0) = v17 then (1 : Int32) else (0 : Int32))) (hu29 : u29 = ((p1 &&& (134217727 : Int32)).toInt64)) (hv32 : v32 = (p2 &&& (63 : Int32))) (hu35 : u35 = ((u29 * (64 : Int64)) + (v32.toInt64))) (hv47 : v47 = (if v32 = (0 : Int32) then (if u29 < (1 : Int64) then (0 : Int32) else (if (67108864 : Int64) < u29 then (0 : Int32) else (1 : Int32))) else (0 : Int32))) (hv56 : v56 = (if (f1 u35) = v47 then (1 : Int32) else (0 : Int32))) (hv64 : v64 = (if (f1 (-u35)) = (0 : Int32) then (1 : Int32) else (0 : Int32))) (hc138_67 : ¬ (v26 = (0 : Int32))) (hc143_70 : ¬ (v56 = (0 : Int32))) (hc148_73 : v64 = (0 : Int32)) : False := by
  exact own_bit (own_p3 hu29 hv32 hu35) hv64 hc148_73
set_option maxRecDepth 65536 in
set_option maxHeartbeats 40000000 in
theorem rm0 (l : Launch) (Z : State) (a0 : Array Value) (hw : ∀ d ∈ tables_1, d.before a0 Z = true) (ws : List Jvm.Cond) (q0 : Int64) (p1 : Int32) (p2 : Int32) (h0 : Heap) (n0 : Nat) (Z0 : n0 ≤ h0.size) :
    MetFree l x (head1 (Jvm.Cond.code x code maxLocals ret :: ws) room_1) (fun a U => a = #[(.long q0), (.int p1), (.int p2)] ∧ Z.Warmed39 U.vm ∧ U.heap = h0) (fun _ _ _ _ _ => True) (fun _ U o U' => ∃ v L, o = .returned v ∧ Q0 Z q0 p1 p2 h0 n0 v U'.heap L ∧ FrameEnd U o U' L room_1.cells room_1.slots) := by
  refine MetFree.of_bodySF (plainFor_of_name pn_1) hisR ?_
  intro p e s m args below meth c s₁ Bd hml0 hP hK
  obtain ⟨rfl, hZ, hh⟩ := hP
  have hx := Bd.exec
  have hby := Bd.bytes
  have hml : c.maxLocals = 14 := hml0
  have hown : s.vm.findClass "com/example/loomfilter/loomfilter/core/ShardingIsShardSizePinLaw" = some m.cls := findClass_of_methodNamed Bd.named
  have hnm := (name_of_methodNamed Bd.named Bd.method).1
  have X0 : Stand p l e room_1 s m #[(.long q0), (.int p1), (.int p2)] below meth c s₁ [] 0 0 := Stand.of_body Bd
  have e0 : s₁.heap = h0 := by rw [← hh, Bd.state]; rfl
  have N0 := Fr.nil n0
  have pre0 : ∀ t, Steps p.tables e below (s₁.setTop (mkF m 0 #[.val (.long q0), .second, .val (.int p1), .val (.int p2), .unset, .unset, .unset, .unset, .unset, .unset, .unset, .unset, .unset, .unset] [])) t → Steps p.tables e below (s₁.setTop (entryFrame m #[(.long q0), (.int p1), (.int p2)] maxLocals)) t := fun t k => castTop (ef_0 m q0 p1 p2) k
  have pre7 : ∀ t, Steps p.tables e below (s₁.setTop (mkF m 3 #[.val (.long q0), .second, .val (.int p1), .val (.int p2), .unset, .unset, .unset, .unset, .unset, .unset, .unset, .unset, .unset, .unset] [(.int (lcmpW q0 (0 : Int64)))])) t → Steps p.tables e below (s₁.setTop (entryFrame m #[(.long q0), (.int p1), (.int p2)] maxLocals)) t := by
    intro t k
    refine pre0 t ?_
    show Steps p.tables e below (s₁.setTop (mkF m 0 #[.val (.long q0), .second, .val (.int p1), .val (.int p2), .unset, .unset, .unset, .unset, .unset, .unset, .unset, .unset, .unset, .unset] [])) _
    refine XS.lloadN X0.here hx rfl (hb hby at_0) rfl ?_
    show Steps p.tables e below (s₁.setTop (mkF m 1 #[.val (.long q0), .second, .val (.int p1), .val (.int p2), .unset, .unset, .unset, .unset, .unset, .unset, .unset, .unset, .unset, .unset] [(.long q0)])) _
    refine XS.lconst X0.here hx rfl (hb hby at_1) ?_
    show Steps p.tables e below (s₁.setTop (mkF m 2 #[.val (.long q0), .second, .val (.int p1), .val (.int p2), .unset, .unset, .unset, .unset, .unset, .unset, .unset, .unset, .unset, .unset] [(.long (0 : Int64)), (.long q0)])) _
    refine XS.lcmp X0.here hx rfl (hb hby at_2) rfl ?_
    show Steps p.tables e below (s₁.setTop (mkF m 3 #[.val (.long q0), .second, .val (.int p1), .val (.int p2), .unset, .unset, .unset, .unset, .unset, .unset, .unset, .unset, .unset, .unset] [(.int (lcmpW q0 (0 : Int64)))])) _
    exact k
  obtain ⟨v17, pre18, hv17⟩ : ∃ (v17 : Int32), (∀ t, Steps p.tables e below (s₁.setTop (mkF m 32 #[.val (.long q0), .second, .val (.int p1), .val (.int p2), .unset, .unset, .unset, .unset, .unset, .unset, .unset, .unset, .unset, .unset] [(.int v17)])) t → Steps p.tables e below (s₁.setTop (entryFrame m #[(.long q0), (.int p1), (.int p2)] maxLocals)) t) ∧ v17 = (if (0 : Int64) < q0 then (if (q0 &&& (63 : Int64)) = (0 : Int64) then (if (((q0 - (1 : Int64)).toUInt64 >>> ((32 : Int32) &&& 0x3f).toInt64.toUInt64).toInt64) = (0 : Int64) then (1 : Int32) else (0 : Int32)) else (0 : Int32)) else (0 : Int32)) := by
    by_cases hc3_8 : (0 : Int64) < q0
    · have pre9 : ∀ t, Steps p.tables e below (s₁.setTop (mkF m 13 #[.val (.long q0), .second, .val (.int p1), .val (.int p2), .unset, .unset, .unset, .unset, .unset, .unset, .unset, .unset, .unset, .unset] [(.int (lcmpW (q0 &&& (63 : Int64)) (0 : Int64)))])) t → Steps p.tables e below (s₁.setTop (entryFrame m #[(.long q0), (.int p1), (.int p2)] maxLocals)) t := by
        intro t k
        refine pre7 t ?_
        show Steps p.tables e below (s₁.setTop (mkF m 3 #[.val (.long q0), .second, .val (.int p1), .val (.int p2), .unset, .unset, .unset, .unset, .unset, .unset, .unset, .unset, .unset, .unset] [(.int (lcmpW q0 (0 : Int64)))])) _
        refine XS.ifNo X0.here hx rfl (hb hby at_3) rfl ((if0 _ _).trans (tlt (own_gtL hc3_8)).2.2.2) ?_
        show Steps p.tables e below (s₁.setTop (mkF m 6 #[.val (.long q0), .second, .val (.int p1), .val (.int p2), .unset, .unset, .unset, .unset, .unset, .unset, .unset, .unset, .unset, .unset] [])) _
        refine XS.lloadN X0.here hx rfl (hb hby at_6) rfl ?_
        show Steps p.tables e below (s₁.setTop (mkF m 7 #[.val (.long q0), .second, .val (.int p1), .val (.int p2), .unset, .unset, .unset, .unset, .unset, .unset, .unset, .unset, .unset, .unset] [(.long q0)])) _
        refine X0.ldc2Long hx hown (mvT hZ (hw _ (List.mem_of_getElem? (i := 0) rfl))) (g := (mkF m 7 #[.val (.long q0), .second, .val (.int p1), .val (.int p2), .unset, .unset, .unset, .unset, .unset, .unset, .unset, .unset, .unset, .unset] [(.long q0)])) rfl (hb hby at_7) _ ?_
        show Steps p.tables e below (s₁.setTop (mkF m 10 #[.val (.long q0), .second, .val (.int p1), .val (.int p2), .unset, .unset, .unset, .unset, .unset, .unset, .unset, .unset, .unset, .unset] [(.long (63 : Int64)), (.long q0)])) _
        refine XS.land X0.here hx rfl (hb hby at_10) rfl ?_
        show Steps p.tables e below (s₁.setTop (mkF m 11 #[.val (.long q0), .second, .val (.int p1), .val (.int p2), .unset, .unset, .unset, .unset, .unset, .unset, .unset, .unset, .unset, .unset] [(.long (q0 &&& (63 : Int64)))])) _
        refine XS.lconst X0.here hx rfl (hb hby at_11) ?_
        show Steps p.tables e below (s₁.setTop (mkF m 12 #[.val (.long q0), .second, .val (.int p1), .val (.int p2), .unset, .unset, .unset, .unset, .unset, .unset, .unset, .unset, .unset, .unset] [(.long (0 : Int64)), (.long (q0 &&& (63 : Int64)))])) _
        refine XS.lcmp X0.here hx rfl (hb hby at_12) rfl ?_
        show Steps p.tables e below (s₁.setTop (mkF m 13 #[.val (.long q0), .second, .val (.int p1), .val (.int p2), .unset, .unset, .unset, .unset, .unset, .unset, .unset, .unset, .unset, .unset] [(.int (lcmpW (q0 &&& (63 : Int64)) (0 : Int64)))])) _
        exact k
      by_cases hc13_10 : (q0 &&& (63 : Int64)) = (0 : Int64)
      · have pre11 : ∀ t, Steps p.tables e below (s₁.setTop (mkF m 24 #[.val (.long q0), .second, .val (.int p1), .val (.int p2), .unset, .unset, .unset, .unset, .unset, .unset, .unset, .unset, .unset, .unset] [(.int (lcmpW (((q0 - (1 : Int64)).toUInt64 >>> ((32 : Int32) &&& 0x3f).toInt64.toUInt64).toInt64) (0 : Int64)))])) t → Steps p.tables e below (s₁.setTop (entryFrame m #[(.long q0), (.int p1), (.int p2)] maxLocals)) t := by
          intro t k
          refine pre9 t ?_
          show Steps p.tables e below (s₁.setTop (mkF m 13 #[.val (.long q0), .second, .val (.int p1), .val (.int p2), .unset, .unset, .unset, .unset, .unset, .unset, .unset, .unset, .unset, .unset] [(.int (lcmpW (q0 &&& (63 : Int64)) (0 : Int64)))])) _
          refine XS.ifNo X0.here hx rfl (hb hby at_13) rfl ((if0 _ _).trans (teq (own_eqL hc13_10)).2) ?_
          show Steps p.tables e below (s₁.setTop (mkF m 16 #[.val (.long q0), .second, .val (.int p1), .val (.int p2), .unset, .unset, .unset, .unset, .unset, .unset, .unset, .unset, .unset, .unset] [])) _
          refine XS.lloadN X0.here hx rfl (hb hby at_16) rfl ?_
          show Steps p.tables e below (s₁.setTop (mkF m 17 #[.val (.long q0), .second, .val (.int p1), .val (.int p2), .unset, .unset, .unset, .unset, .unset, .unset, .unset, .unset, .unset, .unset] [(.long q0)])) _
          refine XS.lconst X0.here hx rfl (hb hby at_17) ?_
          show Steps p.tables e below (s₁.setTop (mkF m 18 #[.val (.long q0), .second, .val (.int p1), .val (.int p2), .unset, .unset, .unset, .unset, .unset, .unset, .unset, .unset, .unset, .unset] [(.long (1 : Int64)), (.long q0)])) _
          refine XS.lsub X0.here hx rfl (hb hby at_18) rfl ?_
          show Steps p.tables e below (s₁.setTop (mkF m 19 #[.val (.long q0), .second, .val (.int p1), .val (.int p2), .unset, .unset, .unset, .unset, .unset, .unset, .unset, .unset, .unset, .unset] [(.long (q0 - (1 : Int64)))])) _
          refine XS.bipush X0.here hx rfl (hb hby at_19) ?_
          show Steps p.tables e below (s₁.setTop (mkF m 21 #[.val (.long q0), .second, .val (.int p1), .val (.int p2), .unset, .unset, .unset, .unset, .unset, .unset, .unset, .unset, .unset, .unset] [(.int (32 : Int32)), (.long (q0 - (1 : Int64)))])) _
          refine XS.lushr X0.here hx rfl (hb hby at_21) rfl ?_
          show Steps p.tables e below (s₁.setTop (mkF m 22 #[.val (.long q0), .second, .val (.int p1), .val (.int p2), .unset, .unset, .unset, .unset, .unset, .unset, .unset, .unset, .unset, .unset] [(.long (((q0 - (1 : Int64)).toUInt64 >>> ((32 : Int32) &&& 0x3f).toInt64.toUInt64).toInt64))])) _
          refine XS.lconst X0.here hx rfl (hb hby at_22) ?_
          show Steps p.tables e below (s₁.setTop (mkF m 23 #[.val (.long q0), .second, .val (.int p1), .val (.int p2), .unset, .unset, .unset, .unset, .unset, .unset, .unset, .unset, .unset, .unset] [(.long (0 : Int64)), (.long (((q0 - (1 : Int64)).toUInt64 >>> ((32 : Int32) &&& 0x3f).toInt64.toUInt64).toInt64))])) _
          refine XS.lcmp X0.here hx rfl (hb hby at_23) rfl ?_
          show Steps p.tables e below (s₁.setTop (mkF m 24 #[.val (.long q0), .second, .val (.int p1), .val (.int p2), .unset, .unset, .unset, .unset, .unset, .unset, .unset, .unset, .unset, .unset] [(.int (lcmpW (((q0 - (1 : Int64)).toUInt64 >>> ((32 : Int32) &&& 0x3f).toInt64.toUInt64).toInt64) (0 : Int64)))])) _
          exact k
        by_cases hc24_12 : (((q0 - (1 : Int64)).toUInt64 >>> ((32 : Int32) &&& 0x3f).toInt64.toUInt64).toInt64) = (0 : Int64)
        · have pre13 : ∀ t, Steps p.tables e below (s₁.setTop (mkF m 32 #[.val (.long q0), .second, .val (.int p1), .val (.int p2), .unset, .unset, .unset, .unset, .unset, .unset, .unset, .unset, .unset, .unset] [(.int (1 : Int32))])) t → Steps p.tables e below (s₁.setTop (entryFrame m #[(.long q0), (.int p1), (.int p2)] maxLocals)) t := by
            intro t k
            refine pre11 t ?_
            show Steps p.tables e below (s₁.setTop (mkF m 24 #[.val (.long q0), .second, .val (.int p1), .val (.int p2), .unset, .unset, .unset, .unset, .unset, .unset, .unset, .unset, .unset, .unset] [(.int (lcmpW (((q0 - (1 : Int64)).toUInt64 >>> ((32 : Int32) &&& 0x3f).toInt64.toUInt64).toInt64) (0 : Int64)))])) _
            refine XS.ifNo X0.here hx rfl (hb hby at_24) rfl ((if0 _ _).trans (teq (own_eqL hc24_12)).2) ?_
            show Steps p.tables e below (s₁.setTop (mkF m 27 #[.val (.long q0), .second, .val (.int p1), .val (.int p2), .unset, .unset, .unset, .unset, .unset, .unset, .unset, .unset, .unset, .unset] [])) _
            refine XS.iconst X0.here hx rfl (hb hby at_27) ?_
            show Steps p.tables e below (s₁.setTop (mkF m 28 #[.val (.long q0), .second, .val (.int p1), .val (.int p2), .unset, .unset, .unset, .unset, .unset, .unset, .unset, .unset, .unset, .unset] [(.int (1 : Int32))])) _
            refine XS.goto X0.here hx rfl (pc0 := 28) (pc' := 32) rfl (hb hby at_28) (by decide) (by decide) ?_
            show Steps p.tables e below (s₁.setTop (mkF m 32 #[.val (.long q0), .second, .val (.int p1), .val (.int p2), .unset, .unset, .unset, .unset, .unset, .unset, .unset, .unset, .unset, .unset] [(.int (1 : Int32))])) _
            exact k
          exact ⟨(1 : Int32), pre13, by rw [if_pos hc3_8, if_pos hc13_10, if_pos hc24_12]⟩
        · have pre14 : ∀ t, Steps p.tables e below (s₁.setTop (mkF m 32 #[.val (.long q0), .second, .val (.int p1), .val (.int p2), .unset, .unset, .unset, .unset, .unset, .unset, .unset, .unset, .unset, .unset] [(.int (0 : Int32))])) t → Steps p.tables e below (s₁.setTop (entryFrame m #[(.long q0), (.int p1), (.int p2)] maxLocals)) t := by
            intro t k
            refine pre11 t ?_
            show Steps p.tables e below (s₁.setTop (mkF m 24 #[.val (.long q0), .second, .val (.int p1), .val (.int p2), .unset, .unset, .unset, .unset, .unset, .unset, .unset, .unset, .unset, .unset] [(.int (lcmpW (((q0 - (1 : Int64)).toUInt64 >>> ((32 : Int32) &&& 0x3f).toInt64.toUInt64).toInt64) (0 : Int64)))])) _
            refine XS.ifYes X0.here hx rfl (pc0 := 24) (pc' := 31) rfl (hb hby at_24) rfl ((if0 _ _).trans (feq (own_neL hc24_12)).2) (by decide) (by decide) ?_
            show Steps p.tables e below (s₁.setTop (mkF m 31 #[.val (.long q0), .second, .val (.int p1), .val (.int p2), .unset, .unset, .unset, .unset, .unset, .unset, .unset, .unset, .unset, .unset] [])) _
            refine XS.iconst X0.here hx rfl (hb hby at_31) ?_
            show Steps p.tables e below (s₁.setTop (mkF m 32 #[.val (.long q0), .second, .val (.int p1), .val (.int p2), .unset, .unset, .unset, .unset, .unset, .unset, .unset, .unset, .unset, .unset] [(.int (0 : Int32))])) _
            exact k
          exact ⟨(0 : Int32), pre14, by rw [if_pos hc3_8, if_pos hc13_10, if_neg hc24_12]⟩
      · have pre15 : ∀ t, Steps p.tables e below (s₁.setTop (mkF m 32 #[.val (.long q0), .second, .val (.int p1), .val (.int p2), .unset, .unset, .unset, .unset, .unset, .unset, .unset, .unset, .unset, .unset] [(.int (0 : Int32))])) t → Steps p.tables e below (s₁.setTop (entryFrame m #[(.long q0), (.int p1), (.int p2)] maxLocals)) t := by
          intro t k
          refine pre9 t ?_
          show Steps p.tables e below (s₁.setTop (mkF m 13 #[.val (.long q0), .second, .val (.int p1), .val (.int p2), .unset, .unset, .unset, .unset, .unset, .unset, .unset, .unset, .unset, .unset] [(.int (lcmpW (q0 &&& (63 : Int64)) (0 : Int64)))])) _
          refine XS.ifYes X0.here hx rfl (pc0 := 13) (pc' := 31) rfl (hb hby at_13) rfl ((if0 _ _).trans (feq (own_neL hc13_10)).2) (by decide) (by decide) ?_
          show Steps p.tables e below (s₁.setTop (mkF m 31 #[.val (.long q0), .second, .val (.int p1), .val (.int p2), .unset, .unset, .unset, .unset, .unset, .unset, .unset, .unset, .unset, .unset] [])) _
          refine XS.iconst X0.here hx rfl (hb hby at_31) ?_
          show Steps p.tables e below (s₁.setTop (mkF m 32 #[.val (.long q0), .second, .val (.int p1), .val (.int p2), .unset, .unset, .unset, .unset, .unset, .unset, .unset, .unset, .unset, .unset] [(.int (0 : Int32))])) _
          exact k
        exact ⟨(0 : Int32), pre15, by rw [if_pos hc3_8, if_neg hc13_10]⟩
    · have pre16 : ∀ t, Steps p.tables e below (s₁.setTop (mkF m 32 #[.val (.long q0), .second, .val (.int p1), .val (.int p2), .unset, .unset, .unset, .unset, .unset, .unset, .unset, .unset, .unset, .unset] [(.int (0 : Int32))])) t → Steps p.tables e below (s₁.setTop (entryFrame m #[(.long q0), (.int p1), (.int p2)] maxLocals)) t := by
        intro t k
        refine pre7 t ?_
        show Steps p.tables e below (s₁.setTop (mkF m 3 #[.val (.long q0), .second, .val (.int p1), .val (.int p2), .unset, .unset, .unset, .unset, .unset, .unset, .unset, .unset, .unset, .unset] [(.int (lcmpW q0 (0 : Int64)))])) _
        refine XS.ifYes X0.here hx rfl (pc0 := 3) (pc' := 31) rfl (hb hby at_3) rfl ((if0 _ _).trans (flt (own_ngtL hc3_8)).2.2.2) (by decide) (by decide) ?_
        show Steps p.tables e below (s₁.setTop (mkF m 31 #[.val (.long q0), .second, .val (.int p1), .val (.int p2), .unset, .unset, .unset, .unset, .unset, .unset, .unset, .unset, .unset, .unset] [])) _
        refine XS.iconst X0.here hx rfl (hb hby at_31) ?_
        show Steps p.tables e below (s₁.setTop (mkF m 32 #[.val (.long q0), .second, .val (.int p1), .val (.int p2), .unset, .unset, .unset, .unset, .unset, .unset, .unset, .unset, .unset, .unset] [(.int (0 : Int32))])) _
        exact k
      exact ⟨(0 : Int32), pre16, by rw [if_neg hc3_8]⟩
  have pre19 : ∀ t, Steps p.tables e below (s₁.setTop (mkF m 35 #[.val (.long q0), .second, .val (.int p1), .val (.int p2), .val (.int v17), .unset, .unset, .unset, .unset, .unset, .unset, .unset, .unset, .unset] [(.long q0)])) t → Steps p.tables e below (s₁.setTop (entryFrame m #[(.long q0), (.int p1), (.int p2)] maxLocals)) t := by
    intro t k
    refine pre18 t ?_
    show Steps p.tables e below (s₁.setTop (mkF m 32 #[.val (.long q0), .second, .val (.int p1), .val (.int p2), .unset, .unset, .unset, .unset, .unset, .unset, .unset, .unset, .unset, .unset] [(.int v17)])) _
    refine XS.istore X0.here hx rfl (hb hby at_32) rfl (l' := #[.val (.long q0), .second, .val (.int p1), .val (.int p2), .val (.int v17), .unset, .unset, .unset, .unset, .unset, .unset, .unset, .unset, .unset]) rfl ?_
    show Steps p.tables e below (s₁.setTop (mkF m 34 #[.val (.long q0), .second, .val (.int p1), .val (.int p2), .val (.int v17), .unset, .unset, .unset, .unset, .unset, .unset, .unset, .unset, .unset] [])) _
    refine XS.lloadN X0.here hx rfl (hb hby at_34) rfl ?_
    show Steps p.tables e below (s₁.setTop (mkF m 35 #[.val (.long q0), .second, .val (.int p1), .val (.int p2), .val (.int v17), .unset, .unset, .unset, .unset, .unset, .unset, .unset, .unset, .unset] [(.long q0)])) _
    exact k
  obtain ⟨_, _, ⟨T20, L20, k20, n20⟩, -, X20, ⟨Lc20, hQ20, l20, y20, z20⟩, st20⟩ := Jvm.LawKit.callS X0 hx (y := (⟨"com/example/loomfilter/loomfilter/core/Sharding", "isShardSize", "(J)Z"⟩ : MethodName)) hown (mvT hZ (hw _ (List.mem_of_getElem? (i := 1) rfl))) (mvT hZ (hw _ (List.mem_of_getElem? (i := 2) rfl))) (mvT hZ (hw _ (List.mem_of_getElem? (i := 3) rfl))) (mvT hZ (hw _ (List.mem_of_getElem? (i := 4) rfl))) (by decide) (backOf (W := 0) (rm1 l Z a0 hw [] q0 h0 n0 Z0) hZ (hw _ (List.mem_of_getElem? (i := 4) rfl)) (hw _ (List.mem_of_getElem? (i := 3) rfl)) (by decide) (by decide)) (g := (mkF m 35 #[.val (.long q0), .second, .val (.int p1), .val (.int p2), .val (.int v17), .unset, .unset, .unset, .unset, .unset, .unset, .unset, .unset, .unset] [(.long q0)])) rfl (by rw [hml]; rfl) (argsL := [(.long q0)]) (rest := []) (lenOf pd_0 rfl) rfl (by show 2 * 0 + _ ≤ _; exact Nat.le_of_eq rfl) (hb hby at_35) (fun _ _ => ⟨rfl, e0, (by decide : 0 + 0 ≤ _), (by decide : 0 + 0 ≤ _)⟩)
  dsimp only [Pt.U, Pt.locs, Pt.cells, Pt.slots] at X20 l20 y20 z20 st20 hQ20
  subst l20 y20 z20
  obtain ⟨rfl, N20q, e20⟩ := hQ20
  have N20 := Fr.app N0 N20q
  have pre21 : ∀ t, Steps p.tables e below (T20.setTop (mkF m 38 #[.val (.long q0), .second, .val (.int p1), .val (.int p2), .val (.int v17), .unset, .unset, .unset, .unset, .unset, .unset, .unset, .unset, .unset] [(.int (f1 q0))])) t → Steps p.tables e below (s₁.setTop (entryFrame m #[(.long q0), (.int p1), (.int p2)] maxLocals)) t := fun t k => pre19 t (st20 t k)
  have pre22 : ∀ t, Steps p.tables e below (T20.setTop (mkF m 40 #[.val (.long q0), .second, .val (.int p1), .val (.int p2), .val (.int v17), .unset, .unset, .unset, .unset, .unset, .unset, .unset, .unset, .unset] [(.int v17), (.int (f1 q0))])) t → Steps p.tables e below (s₁.setTop (entryFrame m #[(.long q0), (.int p1), (.int p2)] maxLocals)) t := by
    intro t k
    refine pre21 t ?_
    show Steps p.tables e below (T20.setTop (mkF m 38 #[.val (.long q0), .second, .val (.int p1), .val (.int p2), .val (.int v17), .unset, .unset, .unset, .unset, .unset, .unset, .unset, .unset, .unset] [(.int (f1 q0))])) _
    refine XS.iload X20.here hx rfl (hb hby at_38) rfl ?_
    show Steps p.tables e below (T20.setTop (mkF m 40 #[.val (.long q0), .second, .val (.int p1), .val (.int p2), .val (.int v17), .unset, .unset, .unset, .unset, .unset, .unset, .unset, .unset, .unset] [(.int v17), (.int (f1 q0))])) _
    exact k
  obtain ⟨v26, pre27, hv26⟩ : ∃ (v26 : Int32), (∀ t, Steps p.tables e below (T20.setTop (mkF m 48 #[.val (.long q0), .second, .val (.int p1), .val (.int p2), .val (.int v17), .unset, .unset, .unset, .unset, .unset, .unset, .unset, .unset, .unset] [(.int v26)])) t → Steps p.tables e below (s₁.setTop (entryFrame m #[(.long q0), (.int p1), (.int p2)] maxLocals)) t) ∧ v26 = (if (f1 q0) = v17 then (1 : Int32) else (0 : Int32)) := by
    by_cases hc40_23 : (f1 q0) = v17
    · have pre24 : ∀ t, Steps p.tables e below (T20.setTop (mkF m 48 #[.val (.long q0), .second, .val (.int p1), .val (.int p2), .val (.int v17), .unset, .unset, .unset, .unset, .unset, .unset, .unset, .unset, .unset] [(.int (1 : Int32))])) t → Steps p.tables e below (s₁.setTop (entryFrame m #[(.long q0), (.int p1), (.int p2)] maxLocals)) t := by
        intro t k
        refine pre22 t ?_
        show Steps p.tables e below (T20.setTop (mkF m 40 #[.val (.long q0), .second, .val (.int p1), .val (.int p2), .val (.int v17), .unset, .unset, .unset, .unset, .unset, .unset, .unset, .unset, .unset] [(.int v17), (.int (f1 q0))])) _
        refine XS.icmpNo X20.here hx rfl (hb hby at_40) rfl (teq hc40_23).2 ?_
        show Steps p.tables e below (T20.setTop (mkF m 43 #[.val (.long q0), .second, .val (.int p1), .val (.int p2), .val (.int v17), .unset, .unset, .unset, .unset, .unset, .unset, .unset, .unset, .unset] [])) _
        refine XS.iconst X20.here hx rfl (hb hby at_43) ?_
        show Steps p.tables e below (T20.setTop (mkF m 44 #[.val (.long q0), .second, .val (.int p1), .val (.int p2), .val (.int v17), .unset, .unset, .unset, .unset, .unset, .unset, .unset, .unset, .unset] [(.int (1 : Int32))])) _
        refine XS.goto X20.here hx rfl (pc0 := 44) (pc' := 48) rfl (hb hby at_44) (by decide) (by decide) ?_
        show Steps p.tables e below (T20.setTop (mkF m 48 #[.val (.long q0), .second, .val (.int p1), .val (.int p2), .val (.int v17), .unset, .unset, .unset, .unset, .unset, .unset, .unset, .unset, .unset] [(.int (1 : Int32))])) _
        exact k
      exact ⟨(1 : Int32), pre24, by rw [if_pos hc40_23]⟩
    · have pre25 : ∀ t, Steps p.tables e below (T20.setTop (mkF m 48 #[.val (.long q0), .second, .val (.int p1), .val (.int p2), .val (.int v17), .unset, .unset, .unset, .unset, .unset, .unset, .unset, .unset, .unset] [(.int (0 : Int32))])) t → Steps p.tables e below (s₁.setTop (entryFrame m #[(.long q0), (.int p1), (.int p2)] maxLocals)) t := by
        intro t k
        refine pre22 t ?_
        show Steps p.tables e below (T20.setTop (mkF m 40 #[.val (.long q0), .second, .val (.int p1), .val (.int p2), .val (.int v17), .unset, .unset, .unset, .unset, .unset, .unset, .unset, .unset, .unset] [(.int v17), (.int (f1 q0))])) _
        refine XS.icmpYes X20.here hx rfl (pc0 := 40) (pc' := 47) rfl (hb hby at_40) rfl (feq hc40_23).2 (by decide) (by decide) ?_
        show Steps p.tables e below (T20.setTop (mkF m 47 #[.val (.long q0), .second, .val (.int p1), .val (.int p2), .val (.int v17), .unset, .unset, .unset, .unset, .unset, .unset, .unset, .unset, .unset] [])) _
        refine XS.iconst X20.here hx rfl (hb hby at_47) ?_
        show Steps p.tables e below (T20.setTop (mkF m 48 #[.val (.long q0), .second, .val (.int p1), .val (.int p2), .val (.int v17), .unset, .unset, .unset, .unset, .unset, .unset, .unset, .unset, .unset] [(.int (0 : Int32))])) _
        exact k
      exact ⟨(0 : Int32), pre25, by rw [if_neg hc40_23]⟩
  have pre28 : ∀ t, Steps p.tables e below (T20.setTop (mkF m 55 #[.val (.long q0), .second, .val (.int p1), .val (.int p2), .val (.int v17), .val (.int v26), .unset, .unset, .unset, .unset, .unset, .unset, .unset, .unset] [(.long ((p1 &&& (134217727 : Int32)).toInt64))])) t → Steps p.tables e below (s₁.setTop (entryFrame m #[(.long q0), (.int p1), (.int p2)] maxLocals)) t := by
    intro t k
    refine pre27 t ?_
    show Steps p.tables e below (T20.setTop (mkF m 48 #[.val (.long q0), .second, .val (.int p1), .val (.int p2), .val (.int v17), .unset, .unset, .unset, .unset, .unset, .unset, .unset, .unset, .unset] [(.int v26)])) _
    refine XS.istore X20.here hx rfl (hb hby at_48) rfl (l' := #[.val (.long q0), .second, .val (.int p1), .val (.int p2), .val (.int v17), .val (.int v26), .unset, .unset, .unset, .unset, .unset, .unset, .unset, .unset]) rfl ?_
    show Steps p.tables e below (T20.setTop (mkF m 50 #[.val (.long q0), .second, .val (.int p1), .val (.int p2), .val (.int v17), .val (.int v26), .unset, .unset, .unset, .unset, .unset, .unset, .unset, .unset] [])) _
    refine XS.iloadN X20.here hx rfl (hb hby at_50) rfl ?_
    show Steps p.tables e below (T20.setTop (mkF m 51 #[.val (.long q0), .second, .val (.int p1), .val (.int p2), .val (.int v17), .val (.int v26), .unset, .unset, .unset, .unset, .unset, .unset, .unset, .unset] [(.int p1)])) _
    refine X20.ldcInt hx hown (mvT hZ (hw _ (List.mem_of_getElem? (i := 6) rfl))) (g := (mkF m 51 #[.val (.long q0), .second, .val (.int p1), .val (.int p2), .val (.int v17), .val (.int v26), .unset, .unset, .unset, .unset, .unset, .unset, .unset, .unset] [(.int p1)])) rfl (hb hby at_51) _ ?_
    show Steps p.tables e below (T20.setTop (mkF m 53 #[.val (.long q0), .second, .val (.int p1), .val (.int p2), .val (.int v17), .val (.int v26), .unset, .unset, .unset, .unset, .unset, .unset, .unset, .unset] [(.int (134217727 : Int32)), (.int p1)])) _
    refine XS.iand X20.here hx rfl (hb hby at_53) rfl ?_
    show Steps p.tables e below (T20.setTop (mkF m 54 #[.val (.long q0), .second, .val (.int p1), .val (.int p2), .val (.int v17), .val (.int v26), .unset, .unset, .unset, .unset, .unset, .unset, .unset, .unset] [(.int (p1 &&& (134217727 : Int32)))])) _
    refine XS.i2l X20.here hx rfl (hb hby at_54) rfl ?_
    show Steps p.tables e below (T20.setTop (mkF m 55 #[.val (.long q0), .second, .val (.int p1), .val (.int p2), .val (.int v17), .val (.int v26), .unset, .unset, .unset, .unset, .unset, .unset, .unset, .unset] [(.long ((p1 &&& (134217727 : Int32)).toInt64))])) _
    exact k
  obtain ⟨u29, hu29⟩ : ∃ z : Int64, z = ((p1 &&& (134217727 : Int32)).toInt64) := ⟨_, rfl⟩
  have pre30 : ∀ t, Steps p.tables e below (T20.setTop (mkF m 55 #[.val (.long q0), .second, .val (.int p1), .val (.int p2), .val (.int v17), .val (.int v26), .unset, .unset, .unset, .unset, .unset, .unset, .unset, .unset] [(.long u29)])) t → Steps p.tables e below (s₁.setTop (entryFrame m #[(.long q0), (.int p1), (.int p2)] maxLocals)) t := by rw [hu29]; exact pre28
  have pre31 : ∀ t, Steps p.tables e below (T20.setTop (mkF m 61 #[.val (.long q0), .second, .val (.int p1), .val (.int p2), .val (.int v17), .val (.int v26), .val (.long u29), .second, .unset, .unset, .unset, .unset, .unset, .unset] [(.int (p2 &&& (63 : Int32)))])) t → Steps p.tables e below (s₁.setTop (entryFrame m #[(.long q0), (.int p1), (.int p2)] maxLocals)) t := by
    intro t k
    refine pre30 t ?_
    show Steps p.tables e below (T20.setTop (mkF m 55 #[.val (.long q0), .second, .val (.int p1), .val (.int p2), .val (.int v17), .val (.int v26), .unset, .unset, .unset, .unset, .unset, .unset, .unset, .unset] [(.long u29)])) _
    refine XS.lstore X20.here hx rfl (hb hby at_55) rfl (l' := #[.val (.long q0), .second, .val (.int p1), .val (.int p2), .val (.int v17), .val (.int v26), .val (.long u29), .second, .unset, .unset, .unset, .unset, .unset, .unset]) rfl ?_
    show Steps p.tables e below (T20.setTop (mkF m 57 #[.val (.long q0), .second, .val (.int p1), .val (.int p2), .val (.int v17), .val (.int v26), .val (.long u29), .second, .unset, .unset, .unset, .unset, .unset, .unset] [])) _
    refine XS.iloadN X20.here hx rfl (hb hby at_57) rfl ?_
    show Steps p.tables e below (T20.setTop (mkF m 58 #[.val (.long q0), .second, .val (.int p1), .val (.int p2), .val (.int v17), .val (.int v26), .val (.long u29), .second, .unset, .unset, .unset, .unset, .unset, .unset] [(.int p2)])) _
    refine XS.bipush X20.here hx rfl (hb hby at_58) ?_
    show Steps p.tables e below (T20.setTop (mkF m 60 #[.val (.long q0), .second, .val (.int p1), .val (.int p2), .val (.int v17), .val (.int v26), .val (.long u29), .second, .unset, .unset, .unset, .unset, .unset, .unset] [(.int (63 : Int32)), (.int p2)])) _
    refine XS.iand X20.here hx rfl (hb hby at_60) rfl ?_
    show Steps p.tables e below (T20.setTop (mkF m 61 #[.val (.long q0), .second, .val (.int p1), .val (.int p2), .val (.int v17), .val (.int v26), .val (.long u29), .second, .unset, .unset, .unset, .unset, .unset, .unset] [(.int (p2 &&& (63 : Int32)))])) _
    exact k
  obtain ⟨v32, hv32⟩ : ∃ z : Int32, z = (p2 &&& (63 : Int32)) := ⟨_, rfl⟩
  have pre33 : ∀ t, Steps p.tables e below (T20.setTop (mkF m 61 #[.val (.long q0), .second, .val (.int p1), .val (.int p2), .val (.int v17), .val (.int v26), .val (.long u29), .second, .unset, .unset, .unset, .unset, .unset, .unset] [(.int v32)])) t → Steps p.tables e below (s₁.setTop (entryFrame m #[(.long q0), (.int p1), (.int p2)] maxLocals)) t := by rw [hv32]; exact pre31
  have pre34 : ∀ t, Steps p.tables e below (T20.setTop (mkF m 73 #[.val (.long q0), .second, .val (.int p1), .val (.int p2), .val (.int v17), .val (.int v26), .val (.long u29), .second, .val (.int v32), .unset, .unset, .unset, .unset, .unset] [(.long ((u29 * (64 : Int64)) + (v32.toInt64)))])) t → Steps p.tables e below (s₁.setTop (entryFrame m #[(.long q0), (.int p1), (.int p2)] maxLocals)) t := by
    intro t k
    refine pre33 t ?_
    show Steps p.tables e below (T20.setTop (mkF m 61 #[.val (.long q0), .second, .val (.int p1), .val (.int p2), .val (.int v17), .val (.int v26), .val (.long u29), .second, .unset, .unset, .unset, .unset, .unset, .unset] [(.int v32)])) _
    refine XS.istore X20.here hx rfl (hb hby at_61) rfl (l' := #[.val (.long q0), .second, .val (.int p1), .val (.int p2), .val (.int v17), .val (.int v26), .val (.long u29), .second, .val (.int v32), .unset, .unset, .unset, .unset, .unset]) rfl ?_
    show Steps p.tables e below (T20.setTop (mkF m 63 #[.val (.long q0), .second, .val (.int p1), .val (.int p2), .val (.int v17), .val (.int v26), .val (.long u29), .second, .val (.int v32), .unset, .unset, .unset, .unset, .unset] [])) _
    refine XS.lload X20.here hx rfl (hb hby at_63) rfl ?_
    show Steps p.tables e below (T20.setTop (mkF m 65 #[.val (.long q0), .second, .val (.int p1), .val (.int p2), .val (.int v17), .val (.int v26), .val (.long u29), .second, .val (.int v32), .unset, .unset, .unset, .unset, .unset] [(.long u29)])) _
    refine X20.ldc2Long hx hown (mvT hZ (hw _ (List.mem_of_getElem? (i := 7) rfl))) (g := (mkF m 65 #[.val (.long q0), .second, .val (.int p1), .val (.int p2), .val (.int v17), .val (.int v26), .val (.long u29), .second, .val (.int v32), .unset, .unset, .unset, .unset, .unset] [(.long u29)])) rfl (hb hby at_65) _ ?_
    show Steps p.tables e below (T20.setTop (mkF m 68 #[.val (.long q0), .second, .val (.int p1), .val (.int p2), .val (.int v17), .val (.int v26), .val (.long u29), .second, .val (.int v32), .unset, .unset, .unset, .unset, .unset] [(.long (64 : Int64)), (.long u29)])) _
    refine XS.lmul X20.here hx rfl (hb hby at_68) rfl ?_
    show Steps p.tables e below (T20.setTop (mkF m 69 #[.val (.long q0), .second, .val (.int p1), .val (.int p2), .val (.int v17), .val (.int v26), .val (.long u29), .second, .val (.int v32), .unset, .unset, .unset, .unset, .unset] [(.long (u29 * (64 : Int64)))])) _
    refine XS.iload X20.here hx rfl (hb hby at_69) rfl ?_
    show Steps p.tables e below (T20.setTop (mkF m 71 #[.val (.long q0), .second, .val (.int p1), .val (.int p2), .val (.int v17), .val (.int v26), .val (.long u29), .second, .val (.int v32), .unset, .unset, .unset, .unset, .unset] [(.int v32), (.long (u29 * (64 : Int64)))])) _
    refine XS.i2l X20.here hx rfl (hb hby at_71) rfl ?_
    show Steps p.tables e below (T20.setTop (mkF m 72 #[.val (.long q0), .second, .val (.int p1), .val (.int p2), .val (.int v17), .val (.int v26), .val (.long u29), .second, .val (.int v32), .unset, .unset, .unset, .unset, .unset] [(.long (v32.toInt64)), (.long (u29 * (64 : Int64)))])) _
    refine XS.ladd X20.here hx rfl (hb hby at_72) rfl ?_
    show Steps p.tables e below (T20.setTop (mkF m 73 #[.val (.long q0), .second, .val (.int p1), .val (.int p2), .val (.int v17), .val (.int v26), .val (.long u29), .second, .val (.int v32), .unset, .unset, .unset, .unset, .unset] [(.long ((u29 * (64 : Int64)) + (v32.toInt64)))])) _
    exact k
  obtain ⟨u35, hu35⟩ : ∃ z : Int64, z = ((u29 * (64 : Int64)) + (v32.toInt64)) := ⟨_, rfl⟩
  have pre36 : ∀ t, Steps p.tables e below (T20.setTop (mkF m 73 #[.val (.long q0), .second, .val (.int p1), .val (.int p2), .val (.int v17), .val (.int v26), .val (.long u29), .second, .val (.int v32), .unset, .unset, .unset, .unset, .unset] [(.long u35)])) t → Steps p.tables e below (s₁.setTop (entryFrame m #[(.long q0), (.int p1), (.int p2)] maxLocals)) t := by rw [hu35]; exact pre34
  have pre37 : ∀ t, Steps p.tables e below (T20.setTop (mkF m 77 #[.val (.long q0), .second, .val (.int p1), .val (.int p2), .val (.int v17), .val (.int v26), .val (.long u29), .second, .val (.int v32), .val (.long u35), .second, .unset, .unset, .unset] [(.int v32)])) t → Steps p.tables e below (s₁.setTop (entryFrame m #[(.long q0), (.int p1), (.int p2)] maxLocals)) t := by
    intro t k
    refine pre36 t ?_
    show Steps p.tables e below (T20.setTop (mkF m 73 #[.val (.long q0), .second, .val (.int p1), .val (.int p2), .val (.int v17), .val (.int v26), .val (.long u29), .second, .val (.int v32), .unset, .unset, .unset, .unset, .unset] [(.long u35)])) _
    refine XS.lstore X20.here hx rfl (hb hby at_73) rfl (l' := #[.val (.long q0), .second, .val (.int p1), .val (.int p2), .val (.int v17), .val (.int v26), .val (.long u29), .second, .val (.int v32), .val (.long u35), .second, .unset, .unset, .unset]) rfl ?_
    show Steps p.tables e below (T20.setTop (mkF m 75 #[.val (.long q0), .second, .val (.int p1), .val (.int p2), .val (.int v17), .val (.int v26), .val (.long u29), .second, .val (.int v32), .val (.long u35), .second, .unset, .unset, .unset] [])) _
    refine XS.iload X20.here hx rfl (hb hby at_75) rfl ?_
    show Steps p.tables e below (T20.setTop (mkF m 77 #[.val (.long q0), .second, .val (.int p1), .val (.int p2), .val (.int v17), .val (.int v26), .val (.long u29), .second, .val (.int v32), .val (.long u35), .second, .unset, .unset, .unset] [(.int v32)])) _
    exact k
  obtain ⟨v47, pre48, hv47⟩ : ∃ (v47 : Int32), (∀ t, Steps p.tables e below (T20.setTop (mkF m 101 #[.val (.long q0), .second, .val (.int p1), .val (.int p2), .val (.int v17), .val (.int v26), .val (.long u29), .second, .val (.int v32), .val (.long u35), .second, .unset, .unset, .unset] [(.int v47)])) t → Steps p.tables e below (s₁.setTop (entryFrame m #[(.long q0), (.int p1), (.int p2)] maxLocals)) t) ∧ v47 = (if v32 = (0 : Int32) then (if u29 < (1 : Int64) then (0 : Int32) else (if (67108864 : Int64) < u29 then (0 : Int32) else (1 : Int32))) else (0 : Int32)) := by
    by_cases hc77_38 : v32 = (0 : Int32)
    · have pre39 : ∀ t, Steps p.tables e below (T20.setTop (mkF m 84 #[.val (.long q0), .second, .val (.int p1), .val (.int p2), .val (.int v17), .val (.int v26), .val (.long u29), .second, .val (.int v32), .val (.long u35), .second, .unset, .unset, .unset] [(.int (lcmpW u29 (1 : Int64)))])) t → Steps p.tables e below (s₁.setTop (entryFrame m #[(.long q0), (.int p1), (.int p2)] maxLocals)) t := by
        intro t k
        refine pre37 t ?_
        show Steps p.tables e below (T20.setTop (mkF m 77 #[.val (.long q0), .second, .val (.int p1), .val (.int p2), .val (.int v17), .val (.int v26), .val (.long u29), .second, .val (.int v32), .val (.long u35), .second, .unset, .unset, .unset] [(.int v32)])) _
        refine XS.ifNo X20.here hx rfl (hb hby at_77) rfl ((if0 _ _).trans (teq hc77_38).2) ?_
        show Steps p.tables e below (T20.setTop (mkF m 80 #[.val (.long q0), .second, .val (.int p1), .val (.int p2), .val (.int v17), .val (.int v26), .val (.long u29), .second, .val (.int v32), .val (.long u35), .second, .unset, .unset, .unset] [])) _
        refine XS.lload X20.here hx rfl (hb hby at_80) rfl ?_
        show Steps p.tables e below (T20.setTop (mkF m 82 #[.val (.long q0), .second, .val (.int p1), .val (.int p2), .val (.int v17), .val (.int v26), .val (.long u29), .second, .val (.int v32), .val (.long u35), .second, .unset, .unset, .unset] [(.long u29)])) _
        refine XS.lconst X20.here hx rfl (hb hby at_82) ?_
        show Steps p.tables e below (T20.setTop (mkF m 83 #[.val (.long q0), .second, .val (.int p1), .val (.int p2), .val (.int v17), .val (.int v26), .val (.long u29), .second, .val (.int v32), .val (.long u35), .second, .unset, .unset, .unset] [(.long (1 : Int64)), (.long u29)])) _
        refine XS.lcmp X20.here hx rfl (hb hby at_83) rfl ?_
        show Steps p.tables e below (T20.setTop (mkF m 84 #[.val (.long q0), .second, .val (.int p1), .val (.int p2), .val (.int v17), .val (.int v26), .val (.long u29), .second, .val (.int v32), .val (.long u35), .second, .unset, .unset, .unset] [(.int (lcmpW u29 (1 : Int64)))])) _
        exact k
      by_cases hc84_40 : u29 < (1 : Int64)
      · have pre41 : ∀ t, Steps p.tables e below (T20.setTop (mkF m 101 #[.val (.long q0), .second, .val (.int p1), .val (.int p2), .val (.int v17), .val (.int v26), .val (.long u29), .second, .val (.int v32), .val (.long u35), .second, .unset, .unset, .unset] [(.int (0 : Int32))])) t → Steps p.tables e below (s₁.setTop (entryFrame m #[(.long q0), (.int p1), (.int p2)] maxLocals)) t := by
          intro t k
          refine pre39 t ?_
          show Steps p.tables e below (T20.setTop (mkF m 84 #[.val (.long q0), .second, .val (.int p1), .val (.int p2), .val (.int v17), .val (.int v26), .val (.long u29), .second, .val (.int v32), .val (.long u35), .second, .unset, .unset, .unset] [(.int (lcmpW u29 (1 : Int64)))])) _
          refine XS.ifYes X20.here hx rfl (pc0 := 84) (pc' := 100) rfl (hb hby at_84) rfl ((if0 _ _).trans (tlt (own_ltL hc84_40)).1) (by decide) (by decide) ?_
          show Steps p.tables e below (T20.setTop (mkF m 100 #[.val (.long q0), .second, .val (.int p1), .val (.int p2), .val (.int v17), .val (.int v26), .val (.long u29), .second, .val (.int v32), .val (.long u35), .second, .unset, .unset, .unset] [])) _
          refine XS.iconst X20.here hx rfl (hb hby at_100) ?_
          show Steps p.tables e below (T20.setTop (mkF m 101 #[.val (.long q0), .second, .val (.int p1), .val (.int p2), .val (.int v17), .val (.int v26), .val (.long u29), .second, .val (.int v32), .val (.long u35), .second, .unset, .unset, .unset] [(.int (0 : Int32))])) _
          exact k
        exact ⟨(0 : Int32), pre41, by rw [if_pos hc77_38, if_pos hc84_40]⟩
      · have pre42 : ∀ t, Steps p.tables e below (T20.setTop (mkF m 93 #[.val (.long q0), .second, .val (.int p1), .val (.int p2), .val (.int v17), .val (.int v26), .val (.long u29), .second, .val (.int v32), .val (.long u35), .second, .unset, .unset, .unset] [(.int (lcmpW u29 (67108864 : Int64)))])) t → Steps p.tables e below (s₁.setTop (entryFrame m #[(.long q0), (.int p1), (.int p2)] maxLocals)) t := by
          intro t k
          refine pre39 t ?_
          show Steps p.tables e below (T20.setTop (mkF m 84 #[.val (.long q0), .second, .val (.int p1), .val (.int p2), .val (.int v17), .val (.int v26), .val (.long u29), .second, .val (.int v32), .val (.long u35), .second, .unset, .unset, .unset] [(.int (lcmpW u29 (1 : Int64)))])) _
          refine XS.ifNo X20.here hx rfl (hb hby at_84) rfl ((if0 _ _).trans (flt (own_nltL hc84_40)).1) ?_
          show Steps p.tables e below (T20.setTop (mkF m 87 #[.val (.long q0), .second, .val (.int p1), .val (.int p2), .val (.int v17), .val (.int v26), .val (.long u29), .second, .val (.int v32), .val (.long u35), .second, .unset, .unset, .unset] [])) _
          refine XS.lload X20.here hx rfl (hb hby at_87) rfl ?_
          show Steps p.tables e below (T20.setTop (mkF m 89 #[.val (.long q0), .second, .val (.int p1), .val (.int p2), .val (.int v17), .val (.int v26), .val (.long u29), .second, .val (.int v32), .val (.long u35), .second, .unset, .unset, .unset] [(.long u29)])) _
          refine X20.ldc2Long hx hown (mvT hZ (hw _ (List.mem_of_getElem? (i := 9) rfl))) (g := (mkF m 89 #[.val (.long q0), .second, .val (.int p1), .val (.int p2), .val (.int v17), .val (.int v26), .val (.long u29), .second, .val (.int v32), .val (.long u35), .second, .unset, .unset, .unset] [(.long u29)])) rfl (hb hby at_89) _ ?_
          show Steps p.tables e below (T20.setTop (mkF m 92 #[.val (.long q0), .second, .val (.int p1), .val (.int p2), .val (.int v17), .val (.int v26), .val (.long u29), .second, .val (.int v32), .val (.long u35), .second, .unset, .unset, .unset] [(.long (67108864 : Int64)), (.long u29)])) _
          refine XS.lcmp X20.here hx rfl (hb hby at_92) rfl ?_
          show Steps p.tables e below (T20.setTop (mkF m 93 #[.val (.long q0), .second, .val (.int p1), .val (.int p2), .val (.int v17), .val (.int v26), .val (.long u29), .second, .val (.int v32), .val (.long u35), .second, .unset, .unset, .unset] [(.int (lcmpW u29 (67108864 : Int64)))])) _
          exact k
        by_cases hc93_43 : (67108864 : Int64) < u29
        · have pre44 : ∀ t, Steps p.tables e below (T20.setTop (mkF m 101 #[.val (.long q0), .second, .val (.int p1), .val (.int p2), .val (.int v17), .val (.int v26), .val (.long u29), .second, .val (.int v32), .val (.long u35), .second, .unset, .unset, .unset] [(.int (0 : Int32))])) t → Steps p.tables e below (s₁.setTop (entryFrame m #[(.long q0), (.int p1), (.int p2)] maxLocals)) t := by
            intro t k
            refine pre42 t ?_
            show Steps p.tables e below (T20.setTop (mkF m 93 #[.val (.long q0), .second, .val (.int p1), .val (.int p2), .val (.int v17), .val (.int v26), .val (.long u29), .second, .val (.int v32), .val (.long u35), .second, .unset, .unset, .unset] [(.int (lcmpW u29 (67108864 : Int64)))])) _
            refine XS.ifYes X20.here hx rfl (pc0 := 93) (pc' := 100) rfl (hb hby at_93) rfl ((if0 _ _).trans (tlt (own_gtL hc93_43)).2.2.1) (by decide) (by decide) ?_
            show Steps p.tables e below (T20.setTop (mkF m 100 #[.val (.long q0), .second, .val (.int p1), .val (.int p2), .val (.int v17), .val (.int v26), .val (.long u29), .second, .val (.int v32), .val (.long u35), .second, .unset, .unset, .unset] [])) _
            refine XS.iconst X20.here hx rfl (hb hby at_100) ?_
            show Steps p.tables e below (T20.setTop (mkF m 101 #[.val (.long q0), .second, .val (.int p1), .val (.int p2), .val (.int v17), .val (.int v26), .val (.long u29), .second, .val (.int v32), .val (.long u35), .second, .unset, .unset, .unset] [(.int (0 : Int32))])) _
            exact k
          exact ⟨(0 : Int32), pre44, by rw [if_pos hc77_38, if_neg hc84_40, if_pos hc93_43]⟩
        · have pre45 : ∀ t, Steps p.tables e below (T20.setTop (mkF m 101 #[.val (.long q0), .second, .val (.int p1), .val (.int p2), .val (.int v17), .val (.int v26), .val (.long u29), .second, .val (.int v32), .val (.long u35), .second, .unset, .unset, .unset] [(.int (1 : Int32))])) t → Steps p.tables e below (s₁.setTop (entryFrame m #[(.long q0), (.int p1), (.int p2)] maxLocals)) t := by
            intro t k
            refine pre42 t ?_
            show Steps p.tables e below (T20.setTop (mkF m 93 #[.val (.long q0), .second, .val (.int p1), .val (.int p2), .val (.int v17), .val (.int v26), .val (.long u29), .second, .val (.int v32), .val (.long u35), .second, .unset, .unset, .unset] [(.int (lcmpW u29 (67108864 : Int64)))])) _
            refine XS.ifNo X20.here hx rfl (hb hby at_93) rfl ((if0 _ _).trans (flt (own_ngtL hc93_43)).2.2.1) ?_
            show Steps p.tables e below (T20.setTop (mkF m 96 #[.val (.long q0), .second, .val (.int p1), .val (.int p2), .val (.int v17), .val (.int v26), .val (.long u29), .second, .val (.int v32), .val (.long u35), .second, .unset, .unset, .unset] [])) _
            refine XS.iconst X20.here hx rfl (hb hby at_96) ?_
            show Steps p.tables e below (T20.setTop (mkF m 97 #[.val (.long q0), .second, .val (.int p1), .val (.int p2), .val (.int v17), .val (.int v26), .val (.long u29), .second, .val (.int v32), .val (.long u35), .second, .unset, .unset, .unset] [(.int (1 : Int32))])) _
            refine XS.goto X20.here hx rfl (pc0 := 97) (pc' := 101) rfl (hb hby at_97) (by decide) (by decide) ?_
            show Steps p.tables e below (T20.setTop (mkF m 101 #[.val (.long q0), .second, .val (.int p1), .val (.int p2), .val (.int v17), .val (.int v26), .val (.long u29), .second, .val (.int v32), .val (.long u35), .second, .unset, .unset, .unset] [(.int (1 : Int32))])) _
            exact k
          exact ⟨(1 : Int32), pre45, by rw [if_pos hc77_38, if_neg hc84_40, if_neg hc93_43]⟩
    · have pre46 : ∀ t, Steps p.tables e below (T20.setTop (mkF m 101 #[.val (.long q0), .second, .val (.int p1), .val (.int p2), .val (.int v17), .val (.int v26), .val (.long u29), .second, .val (.int v32), .val (.long u35), .second, .unset, .unset, .unset] [(.int (0 : Int32))])) t → Steps p.tables e below (s₁.setTop (entryFrame m #[(.long q0), (.int p1), (.int p2)] maxLocals)) t := by
        intro t k
        refine pre37 t ?_
        show Steps p.tables e below (T20.setTop (mkF m 77 #[.val (.long q0), .second, .val (.int p1), .val (.int p2), .val (.int v17), .val (.int v26), .val (.long u29), .second, .val (.int v32), .val (.long u35), .second, .unset, .unset, .unset] [(.int v32)])) _
        refine XS.ifYes X20.here hx rfl (pc0 := 77) (pc' := 100) rfl (hb hby at_77) rfl ((if0 _ _).trans (feq hc77_38).2) (by decide) (by decide) ?_
        show Steps p.tables e below (T20.setTop (mkF m 100 #[.val (.long q0), .second, .val (.int p1), .val (.int p2), .val (.int v17), .val (.int v26), .val (.long u29), .second, .val (.int v32), .val (.long u35), .second, .unset, .unset, .unset] [])) _
        refine XS.iconst X20.here hx rfl (hb hby at_100) ?_
        show Steps p.tables e below (T20.setTop (mkF m 101 #[.val (.long q0), .second, .val (.int p1), .val (.int p2), .val (.int v17), .val (.int v26), .val (.long u29), .second, .val (.int v32), .val (.long u35), .second, .unset, .unset, .unset] [(.int (0 : Int32))])) _
        exact k
      exact ⟨(0 : Int32), pre46, by rw [if_neg hc77_38]⟩
  have pre49 : ∀ t, Steps p.tables e below (T20.setTop (mkF m 105 #[.val (.long q0), .second, .val (.int p1), .val (.int p2), .val (.int v17), .val (.int v26), .val (.long u29), .second, .val (.int v32), .val (.long u35), .second, .val (.int v47), .unset, .unset] [(.long u35)])) t → Steps p.tables e below (s₁.setTop (entryFrame m #[(.long q0), (.int p1), (.int p2)] maxLocals)) t := by
    intro t k
    refine pre48 t ?_
    show Steps p.tables e below (T20.setTop (mkF m 101 #[.val (.long q0), .second, .val (.int p1), .val (.int p2), .val (.int v17), .val (.int v26), .val (.long u29), .second, .val (.int v32), .val (.long u35), .second, .unset, .unset, .unset] [(.int v47)])) _
    refine XS.istore X20.here hx rfl (hb hby at_101) rfl (l' := #[.val (.long q0), .second, .val (.int p1), .val (.int p2), .val (.int v17), .val (.int v26), .val (.long u29), .second, .val (.int v32), .val (.long u35), .second, .val (.int v47), .unset, .unset]) rfl ?_
    show Steps p.tables e below (T20.setTop (mkF m 103 #[.val (.long q0), .second, .val (.int p1), .val (.int p2), .val (.int v17), .val (.int v26), .val (.long u29), .second, .val (.int v32), .val (.long u35), .second, .val (.int v47), .unset, .unset] [])) _
    refine XS.lload X20.here hx rfl (hb hby at_103) rfl ?_
    show Steps p.tables e below (T20.setTop (mkF m 105 #[.val (.long q0), .second, .val (.int p1), .val (.int p2), .val (.int v17), .val (.int v26), .val (.long u29), .second, .val (.int v32), .val (.long u35), .second, .val (.int v47), .unset, .unset] [(.long u35)])) _
    exact k
  obtain ⟨_, _, ⟨T50, L50, k50, n50⟩, -, X50, ⟨Lc50, hQ50, l50, y50, z50⟩, st50⟩ := Jvm.LawKit.callS X20 hx (y := (⟨"com/example/loomfilter/loomfilter/core/Sharding", "isShardSize", "(J)Z"⟩ : MethodName)) hown (mvT hZ (hw _ (List.mem_of_getElem? (i := 1) rfl))) (mvT hZ (hw _ (List.mem_of_getElem? (i := 2) rfl))) (mvT hZ (hw _ (List.mem_of_getElem? (i := 3) rfl))) (mvT hZ (hw _ (List.mem_of_getElem? (i := 4) rfl))) (by decide) (backOf (W := 0) (rm1 l Z a0 hw [] u35 h0 n0 Z0) hZ (hw _ (List.mem_of_getElem? (i := 4) rfl)) (hw _ (List.mem_of_getElem? (i := 3) rfl)) (by decide) (by decide)) (g := (mkF m 105 #[.val (.long q0), .second, .val (.int p1), .val (.int p2), .val (.int v17), .val (.int v26), .val (.long u29), .second, .val (.int v32), .val (.long u35), .second, .val (.int v47), .unset, .unset] [(.long u35)])) rfl (by rw [hml]; rfl) (argsL := [(.long u35)]) (rest := []) (lenOf pd_0 rfl) rfl (by show 2 * 0 + _ ≤ _; exact Nat.le_of_eq rfl) (hb hby at_105) (fun _ _ => ⟨rfl, e20, (by decide : 0 + 0 ≤ _), (by decide : 0 + 0 ≤ _)⟩)
  dsimp only [Pt.U, Pt.locs, Pt.cells, Pt.slots] at X50 l50 y50 z50 st50 hQ50
  subst l50 y50 z50
  obtain ⟨rfl, N50q, e50⟩ := hQ50
  have N50 := Fr.app N20 N50q
  have pre51 : ∀ t, Steps p.tables e below (T50.setTop (mkF m 108 #[.val (.long q0), .second, .val (.int p1), .val (.int p2), .val (.int v17), .val (.int v26), .val (.long u29), .second, .val (.int v32), .val (.long u35), .second, .val (.int v47), .unset, .unset] [(.int (f1 u35))])) t → Steps p.tables e below (s₁.setTop (entryFrame m #[(.long q0), (.int p1), (.int p2)] maxLocals)) t := fun t k => pre49 t (st50 t k)
  have pre52 : ∀ t, Steps p.tables e below (T50.setTop (mkF m 110 #[.val (.long q0), .second, .val (.int p1), .val (.int p2), .val (.int v17), .val (.int v26), .val (.long u29), .second, .val (.int v32), .val (.long u35), .second, .val (.int v47), .unset, .unset] [(.int v47), (.int (f1 u35))])) t → Steps p.tables e below (s₁.setTop (entryFrame m #[(.long q0), (.int p1), (.int p2)] maxLocals)) t := by
    intro t k
    refine pre51 t ?_
    show Steps p.tables e below (T50.setTop (mkF m 108 #[.val (.long q0), .second, .val (.int p1), .val (.int p2), .val (.int v17), .val (.int v26), .val (.long u29), .second, .val (.int v32), .val (.long u35), .second, .val (.int v47), .unset, .unset] [(.int (f1 u35))])) _
    refine XS.iload X50.here hx rfl (hb hby at_108) rfl ?_
    show Steps p.tables e below (T50.setTop (mkF m 110 #[.val (.long q0), .second, .val (.int p1), .val (.int p2), .val (.int v17), .val (.int v26), .val (.long u29), .second, .val (.int v32), .val (.long u35), .second, .val (.int v47), .unset, .unset] [(.int v47), (.int (f1 u35))])) _
    exact k
  obtain ⟨v56, pre57, hv56⟩ : ∃ (v56 : Int32), (∀ t, Steps p.tables e below (T50.setTop (mkF m 118 #[.val (.long q0), .second, .val (.int p1), .val (.int p2), .val (.int v17), .val (.int v26), .val (.long u29), .second, .val (.int v32), .val (.long u35), .second, .val (.int v47), .unset, .unset] [(.int v56)])) t → Steps p.tables e below (s₁.setTop (entryFrame m #[(.long q0), (.int p1), (.int p2)] maxLocals)) t) ∧ v56 = (if (f1 u35) = v47 then (1 : Int32) else (0 : Int32)) := by
    by_cases hc110_53 : (f1 u35) = v47
    · have pre54 : ∀ t, Steps p.tables e below (T50.setTop (mkF m 118 #[.val (.long q0), .second, .val (.int p1), .val (.int p2), .val (.int v17), .val (.int v26), .val (.long u29), .second, .val (.int v32), .val (.long u35), .second, .val (.int v47), .unset, .unset] [(.int (1 : Int32))])) t → Steps p.tables e below (s₁.setTop (entryFrame m #[(.long q0), (.int p1), (.int p2)] maxLocals)) t := by
        intro t k
        refine pre52 t ?_
        show Steps p.tables e below (T50.setTop (mkF m 110 #[.val (.long q0), .second, .val (.int p1), .val (.int p2), .val (.int v17), .val (.int v26), .val (.long u29), .second, .val (.int v32), .val (.long u35), .second, .val (.int v47), .unset, .unset] [(.int v47), (.int (f1 u35))])) _
        refine XS.icmpNo X50.here hx rfl (hb hby at_110) rfl (teq hc110_53).2 ?_
        show Steps p.tables e below (T50.setTop (mkF m 113 #[.val (.long q0), .second, .val (.int p1), .val (.int p2), .val (.int v17), .val (.int v26), .val (.long u29), .second, .val (.int v32), .val (.long u35), .second, .val (.int v47), .unset, .unset] [])) _
        refine XS.iconst X50.here hx rfl (hb hby at_113) ?_
        show Steps p.tables e below (T50.setTop (mkF m 114 #[.val (.long q0), .second, .val (.int p1), .val (.int p2), .val (.int v17), .val (.int v26), .val (.long u29), .second, .val (.int v32), .val (.long u35), .second, .val (.int v47), .unset, .unset] [(.int (1 : Int32))])) _
        refine XS.goto X50.here hx rfl (pc0 := 114) (pc' := 118) rfl (hb hby at_114) (by decide) (by decide) ?_
        show Steps p.tables e below (T50.setTop (mkF m 118 #[.val (.long q0), .second, .val (.int p1), .val (.int p2), .val (.int v17), .val (.int v26), .val (.long u29), .second, .val (.int v32), .val (.long u35), .second, .val (.int v47), .unset, .unset] [(.int (1 : Int32))])) _
        exact k
      exact ⟨(1 : Int32), pre54, by rw [if_pos hc110_53]⟩
    · have pre55 : ∀ t, Steps p.tables e below (T50.setTop (mkF m 118 #[.val (.long q0), .second, .val (.int p1), .val (.int p2), .val (.int v17), .val (.int v26), .val (.long u29), .second, .val (.int v32), .val (.long u35), .second, .val (.int v47), .unset, .unset] [(.int (0 : Int32))])) t → Steps p.tables e below (s₁.setTop (entryFrame m #[(.long q0), (.int p1), (.int p2)] maxLocals)) t := by
        intro t k
        refine pre52 t ?_
        show Steps p.tables e below (T50.setTop (mkF m 110 #[.val (.long q0), .second, .val (.int p1), .val (.int p2), .val (.int v17), .val (.int v26), .val (.long u29), .second, .val (.int v32), .val (.long u35), .second, .val (.int v47), .unset, .unset] [(.int v47), (.int (f1 u35))])) _
        refine XS.icmpYes X50.here hx rfl (pc0 := 110) (pc' := 117) rfl (hb hby at_110) rfl (feq hc110_53).2 (by decide) (by decide) ?_
        show Steps p.tables e below (T50.setTop (mkF m 117 #[.val (.long q0), .second, .val (.int p1), .val (.int p2), .val (.int v17), .val (.int v26), .val (.long u29), .second, .val (.int v32), .val (.long u35), .second, .val (.int v47), .unset, .unset] [])) _
        refine XS.iconst X50.here hx rfl (hb hby at_117) ?_
        show Steps p.tables e below (T50.setTop (mkF m 118 #[.val (.long q0), .second, .val (.int p1), .val (.int p2), .val (.int v17), .val (.int v26), .val (.long u29), .second, .val (.int v32), .val (.long u35), .second, .val (.int v47), .unset, .unset] [(.int (0 : Int32))])) _
        exact k
      exact ⟨(0 : Int32), pre55, by rw [if_neg hc110_53]⟩
  have pre58 : ∀ t, Steps p.tables e below (T50.setTop (mkF m 123 #[.val (.long q0), .second, .val (.int p1), .val (.int p2), .val (.int v17), .val (.int v26), .val (.long u29), .second, .val (.int v32), .val (.long u35), .second, .val (.int v47), .val (.int v56), .unset] [(.long (-u35))])) t → Steps p.tables e below (s₁.setTop (entryFrame m #[(.long q0), (.int p1), (.int p2)] maxLocals)) t := by
    intro t k
    refine pre57 t ?_
    show Steps p.tables e below (T50.setTop (mkF m 118 #[.val (.long q0), .second, .val (.int p1), .val (.int p2), .val (.int v17), .val (.int v26), .val (.long u29), .second, .val (.int v32), .val (.long u35), .second, .val (.int v47), .unset, .unset] [(.int v56)])) _
    refine XS.istore X50.here hx rfl (hb hby at_118) rfl (l' := #[.val (.long q0), .second, .val (.int p1), .val (.int p2), .val (.int v17), .val (.int v26), .val (.long u29), .second, .val (.int v32), .val (.long u35), .second, .val (.int v47), .val (.int v56), .unset]) rfl ?_
    show Steps p.tables e below (T50.setTop (mkF m 120 #[.val (.long q0), .second, .val (.int p1), .val (.int p2), .val (.int v17), .val (.int v26), .val (.long u29), .second, .val (.int v32), .val (.long u35), .second, .val (.int v47), .val (.int v56), .unset] [])) _
    refine XS.lload X50.here hx rfl (hb hby at_120) rfl ?_
    show Steps p.tables e below (T50.setTop (mkF m 122 #[.val (.long q0), .second, .val (.int p1), .val (.int p2), .val (.int v17), .val (.int v26), .val (.long u29), .second, .val (.int v32), .val (.long u35), .second, .val (.int v47), .val (.int v56), .unset] [(.long u35)])) _
    refine XS.lneg X50.here hx rfl (hb hby at_122) rfl ?_
    show Steps p.tables e below (T50.setTop (mkF m 123 #[.val (.long q0), .second, .val (.int p1), .val (.int p2), .val (.int v17), .val (.int v26), .val (.long u29), .second, .val (.int v32), .val (.long u35), .second, .val (.int v47), .val (.int v56), .unset] [(.long (-u35))])) _
    exact k
  obtain ⟨_, _, ⟨T59, L59, k59, n59⟩, -, X59, ⟨Lc59, hQ59, l59, y59, z59⟩, st59⟩ := Jvm.LawKit.callS X50 hx (y := (⟨"com/example/loomfilter/loomfilter/core/Sharding", "isShardSize", "(J)Z"⟩ : MethodName)) hown (mvT hZ (hw _ (List.mem_of_getElem? (i := 1) rfl))) (mvT hZ (hw _ (List.mem_of_getElem? (i := 2) rfl))) (mvT hZ (hw _ (List.mem_of_getElem? (i := 3) rfl))) (mvT hZ (hw _ (List.mem_of_getElem? (i := 4) rfl))) (by decide) (backOf (W := 0) (rm1 l Z a0 hw [] (-u35) h0 n0 Z0) hZ (hw _ (List.mem_of_getElem? (i := 4) rfl)) (hw _ (List.mem_of_getElem? (i := 3) rfl)) (by decide) (by decide)) (g := (mkF m 123 #[.val (.long q0), .second, .val (.int p1), .val (.int p2), .val (.int v17), .val (.int v26), .val (.long u29), .second, .val (.int v32), .val (.long u35), .second, .val (.int v47), .val (.int v56), .unset] [(.long (-u35))])) rfl (by rw [hml]; rfl) (argsL := [(.long (-u35))]) (rest := []) (lenOf pd_0 rfl) rfl (by show 2 * 0 + _ ≤ _; exact Nat.le_of_eq rfl) (hb hby at_123) (fun _ _ => ⟨rfl, e50, (by decide : 0 + 0 ≤ _), (by decide : 0 + 0 ≤ _)⟩)
  dsimp only [Pt.U, Pt.locs, Pt.cells, Pt.slots] at X59 l59 y59 z59 st59 hQ59
  subst l59 y59 z59
  obtain ⟨rfl, N59q, e59⟩ := hQ59
  have N59 := Fr.app N50 N59q
  have pre60 : ∀ t, Steps p.tables e below (T59.setTop (mkF m 126 #[.val (.long q0), .second, .val (.int p1), .val (.int p2), .val (.int v17), .val (.int v26), .val (.long u29), .second, .val (.int v32), .val (.long u35), .second, .val (.int v47), .val (.int v56), .unset] [(.int (f1 (-u35)))])) t → Steps p.tables e below (s₁.setTop (entryFrame m #[(.long q0), (.int p1), (.int p2)] maxLocals)) t := fun t k => pre58 t (st59 t k)
  obtain ⟨v64, pre65, hv64⟩ : ∃ (v64 : Int32), (∀ t, Steps p.tables e below (T59.setTop (mkF m 134 #[.val (.long q0), .second, .val (.int p1), .val (.int p2), .val (.int v17), .val (.int v26), .val (.long u29), .second, .val (.int v32), .val (.long u35), .second, .val (.int v47), .val (.int v56), .unset] [(.int v64)])) t → Steps p.tables e below (s₁.setTop (entryFrame m #[(.long q0), (.int p1), (.int p2)] maxLocals)) t) ∧ v64 = (if (f1 (-u35)) = (0 : Int32) then (1 : Int32) else (0 : Int32)) := by
    by_cases hc126_61 : (f1 (-u35)) = (0 : Int32)
    · have pre62 : ∀ t, Steps p.tables e below (T59.setTop (mkF m 134 #[.val (.long q0), .second, .val (.int p1), .val (.int p2), .val (.int v17), .val (.int v26), .val (.long u29), .second, .val (.int v32), .val (.long u35), .second, .val (.int v47), .val (.int v56), .unset] [(.int (1 : Int32))])) t → Steps p.tables e below (s₁.setTop (entryFrame m #[(.long q0), (.int p1), (.int p2)] maxLocals)) t := by
        intro t k
        refine pre60 t ?_
        show Steps p.tables e below (T59.setTop (mkF m 126 #[.val (.long q0), .second, .val (.int p1), .val (.int p2), .val (.int v17), .val (.int v26), .val (.long u29), .second, .val (.int v32), .val (.long u35), .second, .val (.int v47), .val (.int v56), .unset] [(.int (f1 (-u35)))])) _
        refine XS.ifNo X59.here hx rfl (hb hby at_126) rfl ((if0 _ _).trans (teq hc126_61).2) ?_
        show Steps p.tables e below (T59.setTop (mkF m 129 #[.val (.long q0), .second, .val (.int p1), .val (.int p2), .val (.int v17), .val (.int v26), .val (.long u29), .second, .val (.int v32), .val (.long u35), .second, .val (.int v47), .val (.int v56), .unset] [])) _
        refine XS.iconst X59.here hx rfl (hb hby at_129) ?_
        show Steps p.tables e below (T59.setTop (mkF m 130 #[.val (.long q0), .second, .val (.int p1), .val (.int p2), .val (.int v17), .val (.int v26), .val (.long u29), .second, .val (.int v32), .val (.long u35), .second, .val (.int v47), .val (.int v56), .unset] [(.int (1 : Int32))])) _
        refine XS.goto X59.here hx rfl (pc0 := 130) (pc' := 134) rfl (hb hby at_130) (by decide) (by decide) ?_
        show Steps p.tables e below (T59.setTop (mkF m 134 #[.val (.long q0), .second, .val (.int p1), .val (.int p2), .val (.int v17), .val (.int v26), .val (.long u29), .second, .val (.int v32), .val (.long u35), .second, .val (.int v47), .val (.int v56), .unset] [(.int (1 : Int32))])) _
        exact k
      exact ⟨(1 : Int32), pre62, by rw [if_pos hc126_61]⟩
    · have pre63 : ∀ t, Steps p.tables e below (T59.setTop (mkF m 134 #[.val (.long q0), .second, .val (.int p1), .val (.int p2), .val (.int v17), .val (.int v26), .val (.long u29), .second, .val (.int v32), .val (.long u35), .second, .val (.int v47), .val (.int v56), .unset] [(.int (0 : Int32))])) t → Steps p.tables e below (s₁.setTop (entryFrame m #[(.long q0), (.int p1), (.int p2)] maxLocals)) t := by
        intro t k
        refine pre60 t ?_
        show Steps p.tables e below (T59.setTop (mkF m 126 #[.val (.long q0), .second, .val (.int p1), .val (.int p2), .val (.int v17), .val (.int v26), .val (.long u29), .second, .val (.int v32), .val (.long u35), .second, .val (.int v47), .val (.int v56), .unset] [(.int (f1 (-u35)))])) _
        refine XS.ifYes X59.here hx rfl (pc0 := 126) (pc' := 133) rfl (hb hby at_126) rfl ((if0 _ _).trans (feq hc126_61).2) (by decide) (by decide) ?_
        show Steps p.tables e below (T59.setTop (mkF m 133 #[.val (.long q0), .second, .val (.int p1), .val (.int p2), .val (.int v17), .val (.int v26), .val (.long u29), .second, .val (.int v32), .val (.long u35), .second, .val (.int v47), .val (.int v56), .unset] [])) _
        refine XS.iconst X59.here hx rfl (hb hby at_133) ?_
        show Steps p.tables e below (T59.setTop (mkF m 134 #[.val (.long q0), .second, .val (.int p1), .val (.int p2), .val (.int v17), .val (.int v26), .val (.long u29), .second, .val (.int v32), .val (.long u35), .second, .val (.int v47), .val (.int v56), .unset] [(.int (0 : Int32))])) _
        exact k
      exact ⟨(0 : Int32), pre63, by rw [if_neg hc126_61]⟩
  have pre66 : ∀ t, Steps p.tables e below (T59.setTop (mkF m 138 #[.val (.long q0), .second, .val (.int p1), .val (.int p2), .val (.int v17), .val (.int v26), .val (.long u29), .second, .val (.int v32), .val (.long u35), .second, .val (.int v47), .val (.int v56), .val (.int v64)] [(.int v26)])) t → Steps p.tables e below (s₁.setTop (entryFrame m #[(.long q0), (.int p1), (.int p2)] maxLocals)) t := by
    intro t k
    refine pre65 t ?_
    show Steps p.tables e below (T59.setTop (mkF m 134 #[.val (.long q0), .second, .val (.int p1), .val (.int p2), .val (.int v17), .val (.int v26), .val (.long u29), .second, .val (.int v32), .val (.long u35), .second, .val (.int v47), .val (.int v56), .unset] [(.int v64)])) _
    refine XS.istore X59.here hx rfl (hb hby at_134) rfl (l' := #[.val (.long q0), .second, .val (.int p1), .val (.int p2), .val (.int v17), .val (.int v26), .val (.long u29), .second, .val (.int v32), .val (.long u35), .second, .val (.int v47), .val (.int v56), .val (.int v64)]) rfl ?_
    show Steps p.tables e below (T59.setTop (mkF m 136 #[.val (.long q0), .second, .val (.int p1), .val (.int p2), .val (.int v17), .val (.int v26), .val (.long u29), .second, .val (.int v32), .val (.long u35), .second, .val (.int v47), .val (.int v56), .val (.int v64)] [])) _
    refine XS.iload X59.here hx rfl (hb hby at_136) rfl ?_
    show Steps p.tables e below (T59.setTop (mkF m 138 #[.val (.long q0), .second, .val (.int p1), .val (.int p2), .val (.int v17), .val (.int v26), .val (.long u29), .second, .val (.int v32), .val (.long u35), .second, .val (.int v47), .val (.int v56), .val (.int v64)] [(.int v26)])) _
    exact k
  by_cases hc138_67 : v26 = (0 : Int32)
  · have pre68 : ∀ t, Steps p.tables e below (T59.setTop (mkF m 156 #[.val (.long q0), .second, .val (.int p1), .val (.int p2), .val (.int v17), .val (.int v26), .val (.long u29), .second, .val (.int v32), .val (.long u35), .second, .val (.int v47), .val (.int v56), .val (.int v64)] [(.int (0 : Int32))])) t → Steps p.tables e below (s₁.setTop (entryFrame m #[(.long q0), (.int p1), (.int p2)] maxLocals)) t := by
      intro t k
      refine pre66 t ?_
      show Steps p.tables e below (T59.setTop (mkF m 138 #[.val (.long q0), .second, .val (.int p1), .val (.int p2), .val (.int v17), .val (.int v26), .val (.long u29), .second, .val (.int v32), .val (.long u35), .second, .val (.int v47), .val (.int v56), .val (.int v64)] [(.int v26)])) _
      refine XS.ifYes X59.here hx rfl (pc0 := 138) (pc' := 155) rfl (hb hby at_138) rfl ((if0 _ _).trans (teq hc138_67).1) (by decide) (by decide) ?_
      show Steps p.tables e below (T59.setTop (mkF m 155 #[.val (.long q0), .second, .val (.int p1), .val (.int p2), .val (.int v17), .val (.int v26), .val (.long u29), .second, .val (.int v32), .val (.long u35), .second, .val (.int v47), .val (.int v56), .val (.int v64)] [])) _
      refine XS.iconst X59.here hx rfl (hb hby at_155) ?_
      show Steps p.tables e below (T59.setTop (mkF m 156 #[.val (.long q0), .second, .val (.int p1), .val (.int p2), .val (.int v17), .val (.int v26), .val (.long u29), .second, .val (.int v32), .val (.long u35), .second, .val (.int v47), .val (.int v56), .val (.int v64)] [(.int (0 : Int32))])) _
      exact k
    exact (own_leaf1 hv17 hv26 hu29 hv32 hu35 hv47 hv56 hv64 hc138_67).elim
  · have pre69 : ∀ t, Steps p.tables e below (T59.setTop (mkF m 143 #[.val (.long q0), .second, .val (.int p1), .val (.int p2), .val (.int v17), .val (.int v26), .val (.long u29), .second, .val (.int v32), .val (.long u35), .second, .val (.int v47), .val (.int v56), .val (.int v64)] [(.int v56)])) t → Steps p.tables e below (s₁.setTop (entryFrame m #[(.long q0), (.int p1), (.int p2)] maxLocals)) t := by
      intro t k
      refine pre66 t ?_
      show Steps p.tables e below (T59.setTop (mkF m 138 #[.val (.long q0), .second, .val (.int p1), .val (.int p2), .val (.int v17), .val (.int v26), .val (.long u29), .second, .val (.int v32), .val (.long u35), .second, .val (.int v47), .val (.int v56), .val (.int v64)] [(.int v26)])) _
      refine XS.ifNo X59.here hx rfl (hb hby at_138) rfl ((if0 _ _).trans (feq hc138_67).1) ?_
      show Steps p.tables e below (T59.setTop (mkF m 141 #[.val (.long q0), .second, .val (.int p1), .val (.int p2), .val (.int v17), .val (.int v26), .val (.long u29), .second, .val (.int v32), .val (.long u35), .second, .val (.int v47), .val (.int v56), .val (.int v64)] [])) _
      refine XS.iload X59.here hx rfl (hb hby at_141) rfl ?_
      show Steps p.tables e below (T59.setTop (mkF m 143 #[.val (.long q0), .second, .val (.int p1), .val (.int p2), .val (.int v17), .val (.int v26), .val (.long u29), .second, .val (.int v32), .val (.long u35), .second, .val (.int v47), .val (.int v56), .val (.int v64)] [(.int v56)])) _
      exact k
    by_cases hc143_70 : v56 = (0 : Int32)
    · have pre71 : ∀ t, Steps p.tables e below (T59.setTop (mkF m 156 #[.val (.long q0), .second, .val (.int p1), .val (.int p2), .val (.int v17), .val (.int v26), .val (.long u29), .second, .val (.int v32), .val (.long u35), .second, .val (.int v47), .val (.int v56), .val (.int v64)] [(.int (0 : Int32))])) t → Steps p.tables e below (s₁.setTop (entryFrame m #[(.long q0), (.int p1), (.int p2)] maxLocals)) t := by
        intro t k
        refine pre69 t ?_
        show Steps p.tables e below (T59.setTop (mkF m 143 #[.val (.long q0), .second, .val (.int p1), .val (.int p2), .val (.int v17), .val (.int v26), .val (.long u29), .second, .val (.int v32), .val (.long u35), .second, .val (.int v47), .val (.int v56), .val (.int v64)] [(.int v56)])) _
        refine XS.ifYes X59.here hx rfl (pc0 := 143) (pc' := 155) rfl (hb hby at_143) rfl ((if0 _ _).trans (teq hc143_70).1) (by decide) (by decide) ?_
        show Steps p.tables e below (T59.setTop (mkF m 155 #[.val (.long q0), .second, .val (.int p1), .val (.int p2), .val (.int v17), .val (.int v26), .val (.long u29), .second, .val (.int v32), .val (.long u35), .second, .val (.int v47), .val (.int v56), .val (.int v64)] [])) _
        refine XS.iconst X59.here hx rfl (hb hby at_155) ?_
        show Steps p.tables e below (T59.setTop (mkF m 156 #[.val (.long q0), .second, .val (.int p1), .val (.int p2), .val (.int v17), .val (.int v26), .val (.long u29), .second, .val (.int v32), .val (.long u35), .second, .val (.int v47), .val (.int v56), .val (.int v64)] [(.int (0 : Int32))])) _
        exact k
      exact (own_leaf2 hv17 hv26 hu29 hv32 hu35 hv47 hv56 hv64 hc138_67 hc143_70).elim
    · have pre72 : ∀ t, Steps p.tables e below (T59.setTop (mkF m 148 #[.val (.long q0), .second, .val (.int p1), .val (.int p2), .val (.int v17), .val (.int v26), .val (.long u29), .second, .val (.int v32), .val (.long u35), .second, .val (.int v47), .val (.int v56), .val (.int v64)] [(.int v64)])) t → Steps p.tables e below (s₁.setTop (entryFrame m #[(.long q0), (.int p1), (.int p2)] maxLocals)) t := by
        intro t k
        refine pre69 t ?_
        show Steps p.tables e below (T59.setTop (mkF m 143 #[.val (.long q0), .second, .val (.int p1), .val (.int p2), .val (.int v17), .val (.int v26), .val (.long u29), .second, .val (.int v32), .val (.long u35), .second, .val (.int v47), .val (.int v56), .val (.int v64)] [(.int v56)])) _
        refine XS.ifNo X59.here hx rfl (hb hby at_143) rfl ((if0 _ _).trans (feq hc143_70).1) ?_
        show Steps p.tables e below (T59.setTop (mkF m 146 #[.val (.long q0), .second, .val (.int p1), .val (.int p2), .val (.int v17), .val (.int v26), .val (.long u29), .second, .val (.int v32), .val (.long u35), .second, .val (.int v47), .val (.int v56), .val (.int v64)] [])) _
        refine XS.iload X59.here hx rfl (hb hby at_146) rfl ?_
        show Steps p.tables e below (T59.setTop (mkF m 148 #[.val (.long q0), .second, .val (.int p1), .val (.int p2), .val (.int v17), .val (.int v26), .val (.long u29), .second, .val (.int v32), .val (.long u35), .second, .val (.int v47), .val (.int v56), .val (.int v64)] [(.int v64)])) _
        exact k
      by_cases hc148_73 : v64 = (0 : Int32)
      · have pre74 : ∀ t, Steps p.tables e below (T59.setTop (mkF m 156 #[.val (.long q0), .second, .val (.int p1), .val (.int p2), .val (.int v17), .val (.int v26), .val (.long u29), .second, .val (.int v32), .val (.long u35), .second, .val (.int v47), .val (.int v56), .val (.int v64)] [(.int (0 : Int32))])) t → Steps p.tables e below (s₁.setTop (entryFrame m #[(.long q0), (.int p1), (.int p2)] maxLocals)) t := by
          intro t k
          refine pre72 t ?_
          show Steps p.tables e below (T59.setTop (mkF m 148 #[.val (.long q0), .second, .val (.int p1), .val (.int p2), .val (.int v17), .val (.int v26), .val (.long u29), .second, .val (.int v32), .val (.long u35), .second, .val (.int v47), .val (.int v56), .val (.int v64)] [(.int v64)])) _
          refine XS.ifYes X59.here hx rfl (pc0 := 148) (pc' := 155) rfl (hb hby at_148) rfl ((if0 _ _).trans (teq hc148_73).1) (by decide) (by decide) ?_
          show Steps p.tables e below (T59.setTop (mkF m 155 #[.val (.long q0), .second, .val (.int p1), .val (.int p2), .val (.int v17), .val (.int v26), .val (.long u29), .second, .val (.int v32), .val (.long u35), .second, .val (.int v47), .val (.int v56), .val (.int v64)] [])) _
          refine XS.iconst X59.here hx rfl (hb hby at_155) ?_
          show Steps p.tables e below (T59.setTop (mkF m 156 #[.val (.long q0), .second, .val (.int p1), .val (.int p2), .val (.int v17), .val (.int v26), .val (.long u29), .second, .val (.int v32), .val (.long u35), .second, .val (.int v47), .val (.int v56), .val (.int v64)] [(.int (0 : Int32))])) _
          exact k
        exact (own_leaf3 hv17 hv26 hu29 hv32 hu35 hv47 hv56 hv64 hc138_67 hc143_70 hc148_73).elim
      · obtain ⟨fs, hr, hrun, hended, hW, hsame⟩ := X59.leave (v := some (.int (1 : Int32))) (fun h => by rw [Bd.returns] at h; cases h)
        refine ⟨_, _, pre72 _ ?_, hrun, hended, _, _, rfl, ?_, ⟨_, rfl⟩, hW, hsame.mono (by decide) (by decide)⟩
        · show Steps p.tables e below (T59.setTop (mkF m 148 #[.val (.long q0), .second, .val (.int p1), .val (.int p2), .val (.int v17), .val (.int v26), .val (.long u29), .second, .val (.int v32), .val (.long u35), .second, .val (.int v47), .val (.int v56), .val (.int v64)] [(.int v64)])) _
          refine XS.ifNo X59.here hx rfl (hb hby at_148) rfl ((if0 _ _).trans (feq hc148_73).1) ?_
          show Steps p.tables e below (T59.setTop (mkF m 151 #[.val (.long q0), .second, .val (.int p1), .val (.int p2), .val (.int v17), .val (.int v26), .val (.long u29), .second, .val (.int v32), .val (.long u35), .second, .val (.int v47), .val (.int v56), .val (.int v64)] [])) _
          refine XS.iconst X59.here hx rfl (hb hby at_151) ?_
          show Steps p.tables e below (T59.setTop (mkF m 152 #[.val (.long q0), .second, .val (.int p1), .val (.int p2), .val (.int v17), .val (.int v26), .val (.long u29), .second, .val (.int v32), .val (.long u35), .second, .val (.int v47), .val (.int v56), .val (.int v64)] [(.int (1 : Int32))])) _
          refine XS.goto X59.here hx rfl (pc0 := 152) (pc' := 156) rfl (hb hby at_152) (by decide) (by decide) ?_
          show Steps p.tables e below (T59.setTop (mkF m 156 #[.val (.long q0), .second, .val (.int p1), .val (.int p2), .val (.int v17), .val (.int v26), .val (.long u29), .second, .val (.int v32), .val (.long u35), .second, .val (.int v47), .val (.int v56), .val (.int v64)] [(.int (1 : Int32))])) _
          exact retN X59 hx (t := .boolean) Bd.returns (by simp) (hb hby at_156) hr
        · show Q0 Z q0 p1 p2 h0 n0 _ T59.heap _
          rw [e59]
          exact ⟨rfl, N59⟩
set_option maxRecDepth 65536 in
set_option maxHeartbeats 40000000 in
theorem comes_1 {Post : Tables → Env → Array Value → State → Outcome → State → Prop} (hpost : ∀ tb e args s v u, (limb_1_1.after args s (.returned v) u = true ∧ limb_1_2.after args s (.returned v) u = true ∧ True) → FrameEnd s (.returned v) u (Jvm.fieldLocs frame_1_writes args s ++ Jvm.arrayLocs frame_1_arrays args s ++ Jvm.staticLocs frame_1_statics s) 0 0 → Post tb e args s (.returned v) u) :
    ArmFor flags0 classFile x code maxLocals ret World_1 tables_1 room_1 Calls_1 rest_1 Pre_1 Post := by
  intro l hfl _ _ p e ha hc hk s m args below hf hA hF happ hP
  obtain ⟨hcalls, hrest, hpre⟩ := hP
  obtain ⟨-, -, -, hnamed, -, -, -, hat⟩ := (Spec.applies_iff hf).mp happ
  obtain ⟨hg, hn⟩ := and_e (Cond.before_iff.mp (show (Jvm.Cond.and given_1 narrow_1).before args s = true from hpre))
  obtain ⟨hcount, hg0⟩ := and_e hg
  obtain ⟨ha0, hg1⟩ := and_e hg0
  obtain ⟨ha1, hg2⟩ := and_e hg1
  have ha2 := hg2
  obtain ⟨w0, w1, w2, rfl⟩ : ∃ w0 w1 w2 : Value, args = #[w0, w1, w2] := by
    have hs : args.size = 3 := by simpa [Cond.value, given_1] using hcount
    obtain ⟨L⟩ := args
    match L, hs with
    | [w0, w1, w2], _ => exact ⟨w0, w1, w2, rfl⟩
  have hw := fun d (hd : d ∈ tables_1) => atoms_spec (ws := Jvm.Cond.code x code maxLocals ret :: tables_1) hat d (List.mem_cons_of_mem _ hd)
  have hfit : Fit s := fun {y c} hc i hi => by
    obtain ⟨ha, rfl⟩ := Array.getElem?_eq_some_iff.mp hc
    have q := List.all_eq_true.mp ((Array.all_eq_true_iff_forall_mem.mp hF) _ (Array.getElem_mem ha)) i (List.mem_range.mpr hi)
    simpa [Array.getElem?_eq_getElem hi] using q
  obtain ⟨i0, ei0⟩ := isL_v ha0
  obtain rfl : w0 = (.long i0) := Option.some.inj ei0
  obtain ⟨i1, ei1⟩ := is_v ha1
  obtain rfl : w1 = (.int i1) := Option.some.inj ei1
  obtain ⟨i2, ei2⟩ := is_v ha2
  obtain rfl : w2 = (.int i2) := Option.some.inj ei2
  obtain ⟨n, o, h1, h2, h3, _, L, rfl, ⟨rfl, N⟩, hq⟩ := rm0 l s _ hw tables_1 i0 i1 i2 s.heap s.heap.size (Nat.le_refl _) p e ha hc hk s m _ below hf ((Spec.applies_iff_loose hf).mp happ).1 ⟨rfl, State.Warmed39.refl s, rfl⟩ trivial
  refine ⟨n, _, h1, h2, h3, hpost _ _ _ _ _ _ ⟨Cond.after_iff.mpr rfl, Cond.after_iff.mpr (eq_i res_at (Term.int_eval (1)) rfl), trivial⟩ ⟨hq.1, hq.2.1, (hq.2.2.sift fun y hy => Or.inr (N y hy)).mono (by decide) (by decide)⟩⟩
theorem main_1_1 : Claimed_1_1 := comes_1 fun _ _ _ _ _ _ h hF => ⟨h.1, hF⟩
theorem main_1_2 : Claimed_1_2 := comes_1 fun _ _ _ _ _ _ h hF => ⟨h.2.1, hF⟩
end Jvm.Pilot.@@N@@
namespace Jvm.Pilot.@@N@@
open Jvm Jvm.ClassFile Sem Op Lib Jvm.Free Jvm.Stand Jvm.Pilot.@@N@@.Jvm.D
/-! MADE BY PROGRAM (witnessworld.py) out of the Statement's table words and the real class files: 7 classes; the members and pool entries that the words name. The judged class is class 1, her method 1. -/
namespace start1
open Jvm.ClassFile
def u (s : String) : CpInfo := .utf8 (stringToUtf16 s)
/-- a pool by its gaps: so many unusable entries, then the entry; so many at the end -/
def gap : Nat → List CpInfo → List CpInfo
  | 0, r => r
  | n + 1, r => .unusable :: gap n r
def poolList (es : List (Nat × CpInfo)) (last : Nat) : List CpInfo := es.foldr (fun e r => gap e.1 (e.2 :: r)) (gap last [])
def pool (es : List (Nat × CpInfo)) (last : Nat) : Array CpInfo := ⟨poolList es last⟩
def fileOf (pool : Array CpInfo) (this : Nat) (attrs : Array Attribute := #[]) (ms : Array MethodInfo := #[]) (fl : Nat := 33) (sup : Nat := 0) (ifs : Array Nat := #[]) (fds : Array FieldInfo := #[]) : ClassFile where
  minorVersion := 0
  majorVersion := 65
  constantPool := pool
  accessFlags := fl
  thisClass := this
  superClass := sup
  interfaces := ifs
  fields := fds
  methods := ms
  attributes := attrs
def plain (name : String) (sup : Option ClassId) : Class where
  name := name
  kind := .ordinary
  loader := none
  accessFlags := 33
  super := sup
  interfaces := #[]
  cf := none
  fields := #[]
  methods := #[]
  instanceTypes := #[]
  staticTypes := #[]
  resolved := #[]
  callSites := []
  init := .initialized
  statics := none
  mirror := none

def pool0 : Array CpInfo := pool [(5, u "<init>"), (0, u "()V"), (1, .class_ 10), (1, u "java/lang/Object")] 113

def k0m0 : Method := { name := "<init>", desc := "()V", sig := { parameters := [], returnType := none }, accessFlags := 1, code := none }
/-- java/lang/Object -/
def k0 : Class := { plain "java/lang/Object" none with
  accessFlags := 33
  interfaces := #[]
  cf := some (fileOf pool0 8 #[] #[{ accessFlags := 1, nameIndex := 5, descriptorIndex := 6, attributes := #[] }] 33 0 #[] #[])
  fields := #[]
  methods := #[k0m0]
  instanceTypes := #[]
  staticTypes := #[]
  resolved := Array.replicate 124 none
  statics := none }

def pool1 : Array CpInfo := pool [(2, .class_ 4), (1, u "java/lang/Object"), (0, u "<init>"), (0, u "()V"), (0, .long 63), (1, .methodref 10 11), (0, .class_ 12), (0, .nameAndType 13 14), (0, u "com/example/loomfilter/loomfilter/core/Sharding"), (0, u "isShardSize"), (0, u "(J)Z"), (0, .integer 134217727), (0, .long 64), (1, .long 67108864), (1, .class_ 21), (0, u "com/example/loomfilter/loomfilter/core/ShardingIsShardSizePinLaw"), (2, u "law"), (0, u "(JII)Z")] 3

def k1m0 : Method := { name := "<init>", desc := "()V", sig := { parameters := [], returnType := none }, accessFlags := 2, code := none }
def k1c1 : Code := { maxStack := 4, maxLocals := 14, code := code, exceptionTable := #[], attributes := #[] }
def k1m1 : Method := { name := "law", desc := "(JII)Z", sig := { parameters := [.long, .int, .int], returnType := some .boolean }, accessFlags := 9, code := some k1c1 }
/-- com/example/loomfilter/loomfilter/core/ShardingIsShardSizePinLaw -/
def k1 : Class := { plain "com/example/loomfilter/loomfilter/core/ShardingIsShardSizePinLaw" (some 0) with
  accessFlags := 49
  interfaces := #[]
  cf := some (fileOf pool1 20 #[] #[{ accessFlags := 2, nameIndex := 5, descriptorIndex := 6, attributes := #[] }, { accessFlags := 9, nameIndex := 24, descriptorIndex := 25, attributes := #[] }] 49 2 #[] #[])
  fields := #[]
  methods := #[k1m0, k1m1]
  instanceTypes := #[]
  staticTypes := #[]
  resolved := Array.replicate 29 none
  statics := none }

def pool2 : Array CpInfo := pool [(2, .class_ 4), (1, u "java/lang/Object"), (3, .class_ 10), (1, u "com/example/loomfilter/loomfilter/core/Sharding"), (0, u "shards"), (0, u "I"), (2, u "shardBits"), (0, u "J"), (2, u "isShardSize"), (0, u "(J)Z"), (4, .long 64), (9, .long 4294967296), (35, u "WORD"), (1, u "MAX_SHARDS")] 11

def k2c0 : Code := { maxStack := 4, maxLocals := 2, code := prog_7_method_3_code, exceptionTable := #[], attributes := #[] }
def k2m0 : Method := { name := "isShardSize", desc := "(J)Z", sig := { parameters := [.long], returnType := some .boolean }, accessFlags := 8, code := some k2c0 }
/-- com/example/loomfilter/loomfilter/core/Sharding -/
def k2 : Class := { plain "com/example/loomfilter/loomfilter/core/Sharding" (some 0) with
  accessFlags := 49
  interfaces := #[]
  cf := some (fileOf pool2 8 #[] #[{ accessFlags := 8, nameIndex := 19, descriptorIndex := 20, attributes := #[] }] 49 2 #[] #[{ accessFlags := 26, nameIndex := 71, descriptorIndex := 16, attributes := #[] }, { accessFlags := 25, nameIndex := 73, descriptorIndex := 12, attributes := #[] }, { accessFlags := 18, nameIndex := 11, descriptorIndex := 12, attributes := #[] }, { accessFlags := 18, nameIndex := 15, descriptorIndex := 16, attributes := #[] }])
  fields := #[{ name := "WORD", type := .long, accessFlags := 26, slot := 0, constantValue := 0 }, { name := "MAX_SHARDS", type := .int, accessFlags := 25, slot := 1, constantValue := 0 }, { name := "shards", type := .int, accessFlags := 18, slot := 0, constantValue := 0 }, { name := "shardBits", type := .long, accessFlags := 18, slot := 1, constantValue := 0 }]
  methods := #[k2m0]
  instanceTypes := #[.int, .long]
  staticTypes := #[.long, .int]
  resolved := Array.replicate 85 none
  statics := none }

def pool3 : Array CpInfo := pool [(1, u "java/lang/Cloneable"), (0, .class_ 1), (0, u "java/lang/Object"), (0, .class_ 3)] 3

/-- java/lang/Cloneable -/
def k3 : Class := { plain "java/lang/Cloneable" (some 0) with
  accessFlags := 1537
  interfaces := #[]
  cf := some (fileOf pool3 2 #[] #[] 1537 4 #[] #[])
  fields := #[]
  methods := #[]
  instanceTypes := #[]
  staticTypes := #[]
  resolved := Array.replicate 8 none
  statics := none }

def pool4 : Array CpInfo := pool [(1, u "java/io/Serializable"), (0, .class_ 1), (0, u "java/lang/Object"), (0, .class_ 3)] 3

/-- java/io/Serializable -/
def k4 : Class := { plain "java/io/Serializable" (some 0) with
  accessFlags := 1537
  interfaces := #[]
  cf := some (fileOf pool4 2 #[] #[] 1537 4 #[] #[])
  fields := #[]
  methods := #[]
  instanceTypes := #[]
  staticTypes := #[]
  resolved := Array.replicate 8 none
  statics := none }

/-- the primitive byte -/
def k5 : Class := { plain "byte" none with kind := .primitive 'B', accessFlags := 0x411 }
/-- [B -/
def k6 : Class := { plain "[B" (some 0) with kind := .array 5 .byte, interfaces := #[3, 4], accessFlags := 1041 }

def heap : Heap := #[]
def classes : Array Class := #[k0, k1, k2, k3, k4, k5, k6]
def interned : List (Array UInt16 × Addr) := []
def slotsUsed : Nat := 0
def theMethod : MethodId := ⟨1, 1⟩
def args0 : Array Value := #[.long 64, .int 5, .int 7]
def aboutOver (below : List Frame) : State where
  vm := { classes := classes, interned := interned.toArray }
  heap := heap
  slotsUsed := slotsUsed
  threads := #[{ frames := .invoking theMethod args0 :: below }]
def below0 : List Frame := [.native { method := ⟨0, 0⟩, args := #[] }]
def about1 : State := aboutOver below0
def p0 : Program := .bare "" "" ""
def e0 : Env := launch0.env 0 0 0
theorem w_frames : about1.frames = Frame.invoking theMethod args0 :: below0 := rfl
set_option maxRecDepth 65536 in
theorem w_args : argsFit about1.vm theMethod args0 = true := by decide +kernel
set_option maxRecDepth 65536 in
theorem w_heap : heapFits about1 = true := by decide +kernel
set_option maxRecDepth 65536 in
theorem w_runnable : about1.curStatus? = some .runnable := by decide +kernel
set_option maxRecDepth 65536 in
theorem w_alone : about1.alone = true := by decide +kernel
set_option maxRecDepth 65536 in
theorem w_named : about1.methodNamed? x = some theMethod := by decide +kernel
set_option maxRecDepth 65536 in
theorem w_hears : about1.hears theMethod below0 = true := by decide +kernel
set_option maxRecDepth 65536 in
theorem w_ripe : about1.ripe theMethod args0 below0 = true := by decide +kernel
theorem w_running : about1.status = .running := rfl
set_option maxRecDepth 65536 in
theorem w_room : about1.hasRoom e0.platform room_1 = true :=
  launch0.hasRoom_least _ room_1 (by decide +kernel) (by decide +kernel) (by decide +kernel) (by decide +kernel) (by decide +kernel) (by decide +kernel)
theorem allAtoms_all (ts : List Jvm.Cond) (a : Array Jvm.Value) (st : Jvm.State) : (allAtoms ts).before a st = ts.all (fun c => c.before a st) := by
  induction ts with
  | nil => rfl
  | cons c t ih =>
    show (Jvm.Cond.and c (allAtoms t)).before a st = _
    rw [Jvm.Cond.before_and, ih, List.all_cons]
def words1 : List Jvm.Cond := Jvm.Cond.code x code maxLocals ret :: tables_1
/-- a 'code' word, met by the world's own term for the bytes: nothing is compared byte by byte -/
theorem code_word {y : MethodName} {bytes : ByteArray} {mx : Nat} {rt : Option FieldType} {a : Array Value} {s : State} {m : MethodId} {meth : Method} {c : Code} (h1 : s.methodNamed? y = some m) (h2 : s.vm.method? m = some meth) (h3 : meth.code = some c) (h4 : c.code = bytes)
    (h5 : (c.maxLocals == mx && c.exceptionTable.isEmpty && decide (c.maxStack ≤ mostOperands) && decide (meth.sig.returnType = rt) && !meth.locks && decide (parseMethodDescriptor y.desc = some meth.sig)) = true) : (Jvm.Cond.code y bytes mx rt).before a s = true := by
  simp only [Bool.and_eq_true, beq_iff_eq, Bool.not_eq_true', decide_eq_true_eq] at h5
  obtain ⟨⟨⟨⟨⟨g1, g2⟩, g3⟩, g4⟩, g5⟩, g6⟩ := h5
  simp [Cond.before, Cond.holds, Cond.value, h1, h2, h3, h4, g1, g2, g3, g4, g5, g6]
def isCode : Jvm.Cond → Bool
  | .code _ _ _ _ => true
  | _ => false
theorem all_split {L : List Jvm.Cond} {P : Jvm.Cond → Bool} (h1 : L.all (fun c => isCode c || P c) = true) (h2 : ∀ c ∈ L.filter isCode, P c = true) : L.all P = true := by
  refine List.all_eq_true.mpr fun c hc => ?_
  have h := List.all_eq_true.mp h1 c hc
  rcases Bool.eq_false_or_eq_true (isCode c) with hi | hi
  · exact h2 c (List.mem_filter.mpr ⟨hc, hi⟩)
  · simpa [hi] using h
set_option maxRecDepth 65536 in
theorem w_c0 : (Jvm.Cond.code x code maxLocals ret).before args0 about1 = true := code_word (m := ⟨1, 1⟩) (meth := k1m1) (c := k1c1) (by decide +kernel) rfl rfl rfl (by decide +kernel)
set_option maxRecDepth 65536 in
theorem w_c1 : (Jvm.Cond.code ({ cls := "com/example/loomfilter/loomfilter/core/Sharding", name := "isShardSize", desc := "(J)Z" } : Jvm.MethodName) prog_7_method_3_code (2 : Nat) (Option.some Jvm.ClassFile.FieldType.boolean)).before args0 about1 = true := code_word (m := ⟨2, 0⟩) (meth := k2m0) (c := k2c0) (by decide +kernel) rfl rfl rfl (by decide +kernel)
def codes1 : List Jvm.Cond := [Jvm.Cond.code x code maxLocals ret, Jvm.Cond.code ({ cls := "com/example/loomfilter/loomfilter/core/Sharding", name := "isShardSize", desc := "(J)Z" } : Jvm.MethodName) prog_7_method_3_code (2 : Nat) (Option.some Jvm.ClassFile.FieldType.boolean)]
set_option maxRecDepth 65536 in
theorem codes_eq : words1.filter isCode = codes1 := rfl
theorem w_codes : ∀ c ∈ words1.filter isCode, c.before args0 about1 = true := by
  rw [codes_eq]
  intro c hc
  simp only [codes1, List.mem_cons, List.not_mem_nil, or_false] at hc
  rcases hc with rfl | rfl
  · exact w_c0
  · exact w_c1
set_option maxRecDepth 65536 in
theorem w_t1 : words1.all (fun c => isCode c || c.before args0 about1) = true := by decide +kernel
theorem w_tables : (allAtoms (Jvm.Cond.code x code maxLocals ret :: tables_1)).before args0 about1 = true := by
  rw [allAtoms_all]
  show words1.all (fun c => c.before args0 about1) = true
  refine all_split ?_ w_codes
  rw [w_t1]
set_option maxRecDepth 65536 in
theorem w_case : (Jvm.Cond.and given_1 narrow_1).before args0 about1 = true := by decide +kernel
theorem w_applies : (headSpec (Jvm.Cond.code x code maxLocals ret :: tables_1) room_1).applies x e0.platform about1 = true :=
  (Spec.applies_iff w_frames).mpr ⟨w_running, w_runnable, w_alone, w_named, w_hears, w_ripe, w_room, w_tables⟩
theorem atStart : AtStart classFile x code maxLocals ret World_1 tables_1 room_1 Calls_1 rest_1 Pre_1 launch0 p0 e0 about1 theMethod args0 below0 :=
  ⟨lists_1, trivial, launch0.admits_env _ _ _, launch0.least_env, fairChoices_fair.cas, fairChoices_fair.clock, w_frames, w_args, w_heap, w_applies, trivial, trivial, w_case⟩
end start1
theorem witness_1 : WitnessClaimed_1 := ⟨start1.p0, start1.e0, start1.about1, start1.theMethod, start1.args0, start1.below0, start1.atStart⟩
end Jvm.Pilot.@@N@@
