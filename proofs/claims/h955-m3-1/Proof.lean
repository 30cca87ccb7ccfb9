import JvmDerived
import JvmDerived.Pilot.@@N@@Statement
import JvmDerived.Pilot.@@N@@Code
set_option linter.unusedVariables false
set_option linter.unusedSimpArgs false
@@BLOCK:NumsL.lean.txt@@
namespace Jvm.Pilot.@@N@@
open Jvm Jvm.ClassFile Sem Op Lib Jvm.Free Jvm.Stand Jvm.LawKit Jvm.RoadKit Bundle Jvm.Pilot.@@N@@.Jvm.D
theorem own_eqL {x y : Int64} (h : x = y) : lcmpW x y = 0 := by rw [lcW]; exact (lc_eq x y).2 h
theorem own_neL {x y : Int64} (h : ¬ x = y) : ¬ lcmpW x y = 0 := by rw [lcW]; exact fun q => h ((lc_eq x y).1 q)
theorem own_ltL {x y : Int64} (h : x < y) : lcmpW x y < 0 := by rw [lcW]; exact (lc_lt x y).2 h
theorem own_nltL {x y : Int64} (h : ¬ x < y) : ¬ lcmpW x y < 0 := by rw [lcW]; exact fun q => h ((lc_lt x y).1 q)
theorem own_gtL {x y : Int64} (h : y < x) : 0 < lcmpW x y := by rw [lcW]; exact (lc_gt x y).2 h
theorem own_sta_keep0 {Z : State} {h h' : Heap} {C n d : String} {v : Value} (F : Sta Z h C n d v) (K : Keep h h' []) : Sta Z h' C n d v := by
  obtain ⟨cf, i, k, f, st, cell, h1, h2, h3, h4, h5, r⟩ := F
  exact ⟨cf, i, k, f, st, cell, h1, h2, h3, h4, K.2.1 _ _ h5 List.not_mem_nil, r⟩
theorem own_ngtL {x y : Int64} (h : ¬ y < x) : ¬ 0 < lcmpW x y := by rw [lcW]; exact fun q => h ((lc_gt x y).1 q)
theorem pn_0 : plainName "com/example/careful_quorum/carefulquorum/simulation/SimulatedService" = true := by first | (simp [plainName, overriddenIn]; done) | decide +kernel
theorem d1_0 : decode prog_85_method_1_code 0 = .ok (.aload_n 0, 1) := by decide +kernel
theorem d1_1 : decode prog_85_method_1_code 1 = .ok (.invokespecial 3, 3) := by decide +kernel
theorem d1_4 : decode prog_85_method_1_code 4 = .ok (.aload_n 0, 1) := by decide +kernel
theorem d1_5 : decode prog_85_method_1_code 5 = .ok (.ldc2_w 9, 3) := by decide +kernel
theorem d1_8 : decode prog_85_method_1_code 8 = .ok (.putfield 11, 3) := by decide +kernel
theorem d1_11 : decode prog_85_method_1_code 11 = .ok (.return_, 1) := by decide +kernel
theorem ef_1 (m : MethodId) (x0 : Addr) : entryFrame m #[(.ref x0)] 1 = mkF m 0 #[.val (.ref x0)] [] := by first | (simp [entryFrame, mkF, argsToLocals, Value.category]; done) | rfl
def Q1 (Z : State) (a0 : Addr) (w_count_a0 : Int64) (w_digest_a0 : Int64) (w_fired_a0 : Int64) (w_misfired_a0 : Int64) (h0 : Heap) (n0 : Nat) (v : Option Value) (h : Heap) (L : List Loc) : Prop := v = none ∧ Fr n0 L ∧ Keep h0 h [a0] ∧ Fld Z h a0 "com/example/careful_quorum/carefulquorum/simulation/SimulatedService" "count" "J" (.long w_count_a0) ∧ Fld Z h a0 "com/example/careful_quorum/carefulquorum/simulation/SimulatedService" "fired" "J" (.long w_fired_a0) ∧ Fld Z h a0 "com/example/careful_quorum/carefulquorum/simulation/SimulatedService" "misfired" "J" (.long w_misfired_a0) ∧ Exa Z h a0 "com/example/careful_quorum/carefulquorum/simulation/SimulatedService" ∧ Fld Z h a0 "com/example/careful_quorum/carefulquorum/simulation/SimulatedService" "digest" "J" (.long (-3750763034362895579 : Int64))
set_option maxRecDepth 65536 in
set_option maxHeartbeats 40000000 in
theorem rm1 (l : Launch) (Z : State) (a0 : Array Value) (hw : ∀ d ∈ tables_1, d.before a0 Z = true) (ws : List Jvm.Cond) (a0 : Addr) (w_count_a0 : Int64) (w_digest_a0 : Int64) (w_fired_a0 : Int64) (w_misfired_a0 : Int64) (h0 : Heap) (n0 : Nat) (Z0 : n0 ≤ h0.size) (F_count_a0 : Fld Z h0 a0 "com/example/careful_quorum/carefulquorum/simulation/SimulatedService" "count" "J" (.long w_count_a0)) (F_digest_a0 : Fld Z h0 a0 "com/example/careful_quorum/carefulquorum/simulation/SimulatedService" "digest" "J" (.long w_digest_a0)) (F_fired_a0 : Fld Z h0 a0 "com/example/careful_quorum/carefulquorum/simulation/SimulatedService" "fired" "J" (.long w_fired_a0)) (F_misfired_a0 : Fld Z h0 a0 "com/example/careful_quorum/carefulquorum/simulation/SimulatedService" "misfired" "J" (.long w_misfired_a0)) (E_a0 : Exa Z h0 a0 "com/example/careful_quorum/carefulquorum/simulation/SimulatedService") (g_a0 : n0 ≤ a0) :
    MetFree l (⟨"com/example/careful_quorum/carefulquorum/simulation/SimulatedService", "<init>", "()V"⟩ : MethodName) (head1 (Jvm.Cond.code (⟨"com/example/careful_quorum/carefulquorum/simulation/SimulatedService", "<init>", "()V"⟩ : MethodName) prog_85_method_1_code 1 none :: ws) ({ frames := 1, cells := 0, slots := 0, locals := 12 } : Room)) (fun a U => a = #[(.ref a0)] ∧ Z.Warmed39 U.vm ∧ U.heap = h0) (fun _ _ _ _ _ => True) (fun _ U o U' => ∃ v L, o = .returned v ∧ Q1 Z a0 w_count_a0 w_digest_a0 w_fired_a0 w_misfired_a0 h0 n0 v U'.heap L ∧ FrameEnd U o U' L ({ frames := 1, cells := 0, slots := 0, locals := 12 } : Room).cells ({ frames := 1, cells := 0, slots := 0, locals := 12 } : Room).slots) := by
  refine MetFree.of_bodySF (plainFor_of_name pn_0) hisR ?_
  intro p e s m args below meth c s₁ Bd hml0 hP hK
  obtain ⟨rfl, hZ, hh⟩ := hP
  have hx := Bd.exec
  have hby := Bd.bytes
  have hml : c.maxLocals = 1 := hml0
  have hown : s.vm.findClass "com/example/careful_quorum/carefulquorum/simulation/SimulatedService" = some m.cls := findClass_of_methodNamed Bd.named
  have hnm := (name_of_methodNamed Bd.named Bd.method).1
  have X0 : Stand p l e ({ frames := 1, cells := 0, slots := 0, locals := 12 } : Room) s m #[(.ref a0)] below meth c s₁ [] 0 0 := Stand.of_body Bd
  have e0 : s₁.heap = h0 := by rw [← hh, Bd.state]; rfl
  have N0 := Fr.nil n0
  have pre0 : ∀ t, Steps p.tables e below (s₁.setTop (mkF m 0 #[.val (.ref a0)] [])) t → Steps p.tables e below (s₁.setTop (entryFrame m #[(.ref a0)] 1)) t := fun t k => castTop (ef_1 m a0) k
  have pre1 : ∀ t, Steps p.tables e below (s₁.setTop (mkF m 1 #[.val (.ref a0)] [(.ref a0)])) t → Steps p.tables e below (s₁.setTop (entryFrame m #[(.ref a0)] 1)) t := by
    intro t k
    refine pre0 t ?_
    show Steps p.tables e below (s₁.setTop (mkF m 0 #[.val (.ref a0)] [])) _
    refine XS.aloadN X0.here hx rfl (hb hby d1_0) rfl rfl ?_
    show Steps p.tables e below (s₁.setTop (mkF m 1 #[.val (.ref a0)] [(.ref a0)])) _
    exact k
  obtain ⟨T2, X2, e2, st2⟩ := initO X0 hx hZ hown (hw _ (List.mem_of_getElem? (i := 6) rfl)) (hw _ (List.mem_of_getElem? (i := 7) rfl)) (hw _ (List.mem_of_getElem? (i := 8) rfl)) e0 (g := (mkF m 1 #[.val (.ref a0)] [(.ref a0)])) rfl (by rw [hml]; rfl) rfl (hb hby d1_1) (by decide) (W := 0) (by show 2 * 0 + _ ≤ _; exact Nat.le_of_eq rfl) (by decide)
  have pre3 : ∀ t, Steps p.tables e below (T2.setTop (mkF m 4 #[.val (.ref a0)] [])) t → Steps p.tables e below (s₁.setTop (entryFrame m #[(.ref a0)] 1)) t := fun t k => pre1 t (st2 t k)
  have pre4 : ∀ t, Steps p.tables e below (T2.setTop (mkF m 8 #[.val (.ref a0)] [(.long (-3750763034362895579 : Int64)), (.ref a0)])) t → Steps p.tables e below (s₁.setTop (entryFrame m #[(.ref a0)] 1)) t := by
    intro t k
    refine pre3 t ?_
    show Steps p.tables e below (T2.setTop (mkF m 4 #[.val (.ref a0)] [])) _
    refine XS.aloadN X2.here hx rfl (hb hby d1_4) rfl rfl ?_
    show Steps p.tables e below (T2.setTop (mkF m 5 #[.val (.ref a0)] [(.ref a0)])) _
    refine X2.ldc2Long hx hown (mvT hZ (hw _ (List.mem_of_getElem? (i := 9) rfl))) (g := (mkF m 5 #[.val (.ref a0)] [(.ref a0)])) rfl (hb hby d1_5) _ ?_
    show Steps p.tables e below (T2.setTop (mkF m 8 #[.val (.ref a0)] [(.long (-3750763034362895579 : Int64)), (.ref a0)])) _
    exact k
  obtain ⟨T5, h5, X5, e5, W5, st5⟩ := putF X2 hx hZ hown (host := "") (Or.inl (hw _ (List.mem_of_getElem? (i := 10) rfl))) Via.refl e2 F_digest_a0 E_a0 (Or.inl (hw _ (List.mem_of_getElem? (i := 11) rfl))) (hw _ (List.mem_of_getElem? (i := 1) rfl)) (ty := .long) (by decide) rfl rfl (g := (mkF m 8 #[.val (.ref a0)] [(.long (-3750763034362895579 : Int64)), (.ref a0)])) rfl rfl (hb hby d1_8)
  have Z5 : n0 ≤ h5.size := Nat.le_trans Z0 (Keep.of_wr W5).1
  have K5 : Keep h0 h5 [a0] := (Keep.refl h0 [a0]).wr W5 (Or.inl (List.mem_of_getElem? (i := 0) rfl))
  have N5 := Fr.snoc X5 N0 g_a0
  have Ff6 : Fld Z h5 a0 "com/example/careful_quorum/carefulquorum/simulation/SimulatedService" "count" "J" (.long w_count_a0) := (F_count_a0).other W5 (Or.inr (slot_ne (Or.inl (hw _ (List.mem_of_getElem? (i := 41) rfl))) (Or.inl (hw _ (List.mem_of_getElem? (i := 11) rfl))) (by decide) (t := .long) (t' := .long) (by decide) (by decide)))
  have Ff7 : Fld Z h5 a0 "com/example/careful_quorum/carefulquorum/simulation/SimulatedService" "fired" "J" (.long w_fired_a0) := (F_fired_a0).other W5 (Or.inr (slot_ne (Or.inl (hw _ (List.mem_of_getElem? (i := 22) rfl))) (Or.inl (hw _ (List.mem_of_getElem? (i := 11) rfl))) (by decide) (t := .long) (t' := .long) (by decide) (by decide)))
  have Ff8 : Fld Z h5 a0 "com/example/careful_quorum/carefulquorum/simulation/SimulatedService" "misfired" "J" (.long w_misfired_a0) := (F_misfired_a0).other W5 (Or.inr (slot_ne (Or.inl (hw _ (List.mem_of_getElem? (i := 24) rfl))) (Or.inl (hw _ (List.mem_of_getElem? (i := 11) rfl))) (by decide) (t := .long) (t' := .long) (by decide) (by decide)))
  have Ef9 : Exa Z h5 a0 "com/example/careful_quorum/carefulquorum/simulation/SimulatedService" := (E_a0).wr W5
  have Fw5 : Fld Z h5 a0 "com/example/careful_quorum/carefulquorum/simulation/SimulatedService" "digest" "J" (.long (-3750763034362895579 : Int64)) := (F_digest_a0).same W5
  have pre10 : ∀ t, Steps p.tables e below (T5.setTop (mkF m 11 #[.val (.ref a0)] [])) t → Steps p.tables e below (s₁.setTop (entryFrame m #[(.ref a0)] 1)) t := fun t k => pre4 t (st5 t k)
  obtain ⟨fs, hr, hrun, hended, hW, hsame⟩ := X5.leave (v := none) (fun _ => rfl)
  refine ⟨_, _, pre10 _ ?_, hrun, hended, _, _, rfl, ?_, ⟨_, rfl⟩, hW, hsame.mono (by decide) (by decide)⟩
  · show Steps p.tables e below (T5.setTop (mkF m 11 #[.val (.ref a0)] [])) _
    exact X5.returnOut hx Bd.returns (hb hby d1_11) hr
  · show Q1 Z a0 w_count_a0 w_digest_a0 w_fired_a0 w_misfired_a0 h0 n0 _ T5.heap _
    rw [e5]
    exact ⟨rfl, N5, K5, Ff6, Ff7, Ff8, Ef9, Fw5⟩
theorem pn_1 : plainName "com/example/careful_quorum/carefulquorum/simulation/SimulatedServiceTimerFiredPinLaw" = true := by first | (simp [plainName, overriddenIn]; done) | decide +kernel
theorem d3_0 : decode method_2_code 0 = .ok (.iload_n 0, 1) := by decide +kernel
theorem d3_1 : decode method_2_code 1 = .ok (.ifCond .ne 7, 3) := by decide +kernel
theorem d3_4 : decode method_2_code 4 = .ok (.lload_n 1, 1) := by decide +kernel
theorem d3_5 : decode method_2_code 5 = .ok (.lconst 1, 1) := by decide +kernel
theorem d3_6 : decode method_2_code 6 = .ok (.ladd, 1) := by decide +kernel
theorem d3_7 : decode method_2_code 7 = .ok (.lreturn, 1) := by decide +kernel
theorem d3_8 : decode method_2_code 8 = .ok (.iload_n 0, 1) := by decide +kernel
theorem d3_9 : decode method_2_code 9 = .ok (.iconst 1, 1) := by decide +kernel
theorem d3_10 : decode method_2_code 10 = .ok (.if_icmp .ne 5, 3) := by decide +kernel
theorem d3_13 : decode method_2_code 13 = .ok (.lload_n 1, 1) := by decide +kernel
theorem d3_14 : decode method_2_code 14 = .ok (.lreturn, 1) := by decide +kernel
theorem d3_15 : decode method_2_code 15 = .ok (.iload_n 0, 1) := by decide +kernel
theorem d3_16 : decode method_2_code 16 = .ok (.iconst 2, 1) := by decide +kernel
theorem d3_17 : decode method_2_code 17 = .ok (.if_icmp .ne 9, 3) := by decide +kernel
theorem d3_20 : decode method_2_code 20 = .ok (.lload_n 1, 1) := by decide +kernel
theorem d3_21 : decode method_2_code 21 = .ok (.ldc2_w 7, 3) := by decide +kernel
theorem d3_24 : decode method_2_code 24 = .ok (.ladd, 1) := by decide +kernel
theorem d3_25 : decode method_2_code 25 = .ok (.lreturn, 1) := by decide +kernel
theorem d3_26 : decode method_2_code 26 = .ok (.lload_n 3, 1) := by decide +kernel
theorem d3_27 : decode method_2_code 27 = .ok (.lreturn, 1) := by decide +kernel
theorem ef_3 (m : MethodId) (x0 : Int32) (x1 : Int64) (x2 : Int64) : entryFrame m #[(.int x0), (.long x1), (.long x2)] 5 = mkF m 0 #[.val (.int x0), .val (.long x1), .second, .val (.long x2), .second] [] := by first | (simp [entryFrame, mkF, argsToLocals, Value.category]; done) | rfl
def f3 (p0 : Int32) (q1 : Int64) (q2 : Int64) : Int64 := (if p0 = (0 : Int32) then (q1 + (1 : Int64)) else (if p0 = (1 : Int32) then q1 else (if p0 = (2 : Int32) then (q1 + (2 : Int64)) else q2)))
def Q3 (Z : State) (p0 : Int32) (q1 : Int64) (q2 : Int64) (h0 : Heap) (n0 : Nat) (v : Option Value) (h : Heap) (L : List Loc) : Prop := v = some (.long (f3 p0 q1 q2)) ∧ Fr n0 L ∧ h = h0
set_option maxRecDepth 65536 in
set_option maxHeartbeats 40000000 in
theorem rm3 (l : Launch) (Z : State) (a0 : Array Value) (hw : ∀ d ∈ tables_1, d.before a0 Z = true) (ws : List Jvm.Cond) (p0 : Int32) (q1 : Int64) (q2 : Int64) (h0 : Heap) (n0 : Nat) (Z0 : n0 ≤ h0.size) :
    MetFree l (⟨"com/example/careful_quorum/carefulquorum/simulation/SimulatedServiceTimerFiredPinLaw", "pick", "(IJJ)J"⟩ : MethodName) (head1 (Jvm.Cond.code (⟨"com/example/careful_quorum/carefulquorum/simulation/SimulatedServiceTimerFiredPinLaw", "pick", "(IJJ)J"⟩ : MethodName) method_2_code 5 (some .long) :: ws) ({ frames := 0, cells := 0, slots := 0, locals := 0 } : Room)) (fun a U => a = #[(.int p0), (.long q1), (.long q2)] ∧ Z.Warmed39 U.vm ∧ U.heap = h0) (fun _ _ _ _ _ => True) (fun _ U o U' => ∃ v L, o = .returned v ∧ Q3 Z p0 q1 q2 h0 n0 v U'.heap L ∧ FrameEnd U o U' L ({ frames := 0, cells := 0, slots := 0, locals := 0 } : Room).cells ({ frames := 0, cells := 0, slots := 0, locals := 0 } : Room).slots) := by
  refine MetFree.of_bodySF (plainFor_of_name pn_1) hisR ?_
  intro p e s m args below meth c s₁ Bd hml0 hP hK
  obtain ⟨rfl, hZ, hh⟩ := hP
  have hx := Bd.exec
  have hby := Bd.bytes
  have hml : c.maxLocals = 5 := hml0
  have hown : s.vm.findClass "com/example/careful_quorum/carefulquorum/simulation/SimulatedServiceTimerFiredPinLaw" = some m.cls := findClass_of_methodNamed Bd.named
  have hnm := (name_of_methodNamed Bd.named Bd.method).1
  have X0 : Stand p l e ({ frames := 0, cells := 0, slots := 0, locals := 0 } : Room) s m #[(.int p0), (.long q1), (.long q2)] below meth c s₁ [] 0 0 := Stand.of_body Bd
  have e0 : s₁.heap = h0 := by rw [← hh, Bd.state]; rfl
  have N0 := Fr.nil n0
  have pre0 : ∀ t, Steps p.tables e below (s₁.setTop (mkF m 0 #[.val (.int p0), .val (.long q1), .second, .val (.long q2), .second] [])) t → Steps p.tables e below (s₁.setTop (entryFrame m #[(.int p0), (.long q1), (.long q2)] 5)) t := fun t k => castTop (ef_3 m p0 q1 q2) k
  have pre11 : ∀ t, Steps p.tables e below (s₁.setTop (mkF m 1 #[.val (.int p0), .val (.long q1), .second, .val (.long q2), .second] [(.int p0)])) t → Steps p.tables e below (s₁.setTop (entryFrame m #[(.int p0), (.long q1), (.long q2)] 5)) t := by
    intro t k
    refine pre0 t ?_
    show Steps p.tables e below (s₁.setTop (mkF m 0 #[.val (.int p0), .val (.long q1), .second, .val (.long q2), .second] [])) _
    refine XS.iloadN X0.here hx rfl (hb hby d3_0) rfl ?_
    show Steps p.tables e below (s₁.setTop (mkF m 1 #[.val (.int p0), .val (.long q1), .second, .val (.long q2), .second] [(.int p0)])) _
    exact k
  by_cases hc1_12 : p0 = (0 : Int32)
  · obtain ⟨fs, hr, hrun, hended, hW, hsame⟩ := X0.leave (v := some (.long (q1 + (1 : Int64)))) (fun h => by rw [Bd.returns] at h; cases h)
    refine ⟨_, _, pre11 _ ?_, hrun, hended, _, _, rfl, ?_, ⟨_, rfl⟩, hW, hsame.mono (by decide) (by decide)⟩
    · show Steps p.tables e below (s₁.setTop (mkF m 1 #[.val (.int p0), .val (.long q1), .second, .val (.long q2), .second] [(.int p0)])) _
      refine XS.ifNo X0.here hx rfl (hb hby d3_1) rfl ((if0 _ _).trans (teq hc1_12).2) ?_
      show Steps p.tables e below (s₁.setTop (mkF m 4 #[.val (.int p0), .val (.long q1), .second, .val (.long q2), .second] [])) _
      refine XS.lloadN X0.here hx rfl (hb hby d3_4) rfl ?_
      show Steps p.tables e below (s₁.setTop (mkF m 5 #[.val (.int p0), .val (.long q1), .second, .val (.long q2), .second] [(.long q1)])) _
      refine XS.lconst X0.here hx rfl (hb hby d3_5) ?_
      show Steps p.tables e below (s₁.setTop (mkF m 6 #[.val (.int p0), .val (.long q1), .second, .val (.long q2), .second] [(.long (1 : Int64)), (.long q1)])) _
      refine XS.ladd X0.here hx rfl (hb hby d3_6) rfl ?_
      show Steps p.tables e below (s₁.setTop (mkF m 7 #[.val (.int p0), .val (.long q1), .second, .val (.long q2), .second] [(.long (q1 + (1 : Int64)))])) _
      exact retOut X0 hx Bd.returns rfl (Or.inr (Or.inl ⟨rfl, rfl, _, rfl⟩)) (hb hby d3_7) hr
    · show Q3 Z p0 q1 q2 h0 n0 _ s₁.heap _
      rw [e0]
      exact ⟨by unfold f3; rw [if_pos hc1_12], N0, rfl⟩
  · have pre13 : ∀ t, Steps p.tables e below (s₁.setTop (mkF m 10 #[.val (.int p0), .val (.long q1), .second, .val (.long q2), .second] [(.int (1 : Int32)), (.int p0)])) t → Steps p.tables e below (s₁.setTop (entryFrame m #[(.int p0), (.long q1), (.long q2)] 5)) t := by
      intro t k
      refine pre11 t ?_
      show Steps p.tables e below (s₁.setTop (mkF m 1 #[.val (.int p0), .val (.long q1), .second, .val (.long q2), .second] [(.int p0)])) _
      refine XS.ifYes X0.here hx rfl (pc0 := 1) (pc' := 8) rfl (hb hby d3_1) rfl ((if0 _ _).trans (feq hc1_12).2) (by decide) (by decide) ?_
      show Steps p.tables e below (s₁.setTop (mkF m 8 #[.val (.int p0), .val (.long q1), .second, .val (.long q2), .second] [])) _
      refine XS.iloadN X0.here hx rfl (hb hby d3_8) rfl ?_
      show Steps p.tables e below (s₁.setTop (mkF m 9 #[.val (.int p0), .val (.long q1), .second, .val (.long q2), .second] [(.int p0)])) _
      refine XS.iconst X0.here hx rfl (hb hby d3_9) ?_
      show Steps p.tables e below (s₁.setTop (mkF m 10 #[.val (.int p0), .val (.long q1), .second, .val (.long q2), .second] [(.int (1 : Int32)), (.int p0)])) _
      exact k
    by_cases hc10_14 : p0 = (1 : Int32)
    · obtain ⟨fs, hr, hrun, hended, hW, hsame⟩ := X0.leave (v := some (.long q1)) (fun h => by rw [Bd.returns] at h; cases h)
      refine ⟨_, _, pre13 _ ?_, hrun, hended, _, _, rfl, ?_, ⟨_, rfl⟩, hW, hsame.mono (by decide) (by decide)⟩
      · show Steps p.tables e below (s₁.setTop (mkF m 10 #[.val (.int p0), .val (.long q1), .second, .val (.long q2), .second] [(.int (1 : Int32)), (.int p0)])) _
        refine XS.icmpNo X0.here hx rfl (hb hby d3_10) rfl (teq hc10_14).2 ?_
        show Steps p.tables e below (s₁.setTop (mkF m 13 #[.val (.int p0), .val (.long q1), .second, .val (.long q2), .second] [])) _
        refine XS.lloadN X0.here hx rfl (hb hby d3_13) rfl ?_
        show Steps p.tables e below (s₁.setTop (mkF m 14 #[.val (.int p0), .val (.long q1), .second, .val (.long q2), .second] [(.long q1)])) _
        exact retOut X0 hx Bd.returns rfl (Or.inr (Or.inl ⟨rfl, rfl, _, rfl⟩)) (hb hby d3_14) hr
      · show Q3 Z p0 q1 q2 h0 n0 _ s₁.heap _
        rw [e0]
        exact ⟨by unfold f3; rw [if_neg hc1_12, if_pos hc10_14], N0, rfl⟩
    · have pre15 : ∀ t, Steps p.tables e below (s₁.setTop (mkF m 17 #[.val (.int p0), .val (.long q1), .second, .val (.long q2), .second] [(.int (2 : Int32)), (.int p0)])) t → Steps p.tables e below (s₁.setTop (entryFrame m #[(.int p0), (.long q1), (.long q2)] 5)) t := by
        intro t k
        refine pre13 t ?_
        show Steps p.tables e below (s₁.setTop (mkF m 10 #[.val (.int p0), .val (.long q1), .second, .val (.long q2), .second] [(.int (1 : Int32)), (.int p0)])) _
        refine XS.icmpYes X0.here hx rfl (pc0 := 10) (pc' := 15) rfl (hb hby d3_10) rfl (feq hc10_14).2 (by decide) (by decide) ?_
        show Steps p.tables e below (s₁.setTop (mkF m 15 #[.val (.int p0), .val (.long q1), .second, .val (.long q2), .second] [])) _
        refine XS.iloadN X0.here hx rfl (hb hby d3_15) rfl ?_
        show Steps p.tables e below (s₁.setTop (mkF m 16 #[.val (.int p0), .val (.long q1), .second, .val (.long q2), .second] [(.int p0)])) _
        refine XS.iconst X0.here hx rfl (hb hby d3_16) ?_
        show Steps p.tables e below (s₁.setTop (mkF m 17 #[.val (.int p0), .val (.long q1), .second, .val (.long q2), .second] [(.int (2 : Int32)), (.int p0)])) _
        exact k
      by_cases hc17_16 : p0 = (2 : Int32)
      · obtain ⟨fs, hr, hrun, hended, hW, hsame⟩ := X0.leave (v := some (.long (q1 + (2 : Int64)))) (fun h => by rw [Bd.returns] at h; cases h)
        refine ⟨_, _, pre15 _ ?_, hrun, hended, _, _, rfl, ?_, ⟨_, rfl⟩, hW, hsame.mono (by decide) (by decide)⟩
        · show Steps p.tables e below (s₁.setTop (mkF m 17 #[.val (.int p0), .val (.long q1), .second, .val (.long q2), .second] [(.int (2 : Int32)), (.int p0)])) _
          refine XS.icmpNo X0.here hx rfl (hb hby d3_17) rfl (teq hc17_16).2 ?_
          show Steps p.tables e below (s₁.setTop (mkF m 20 #[.val (.int p0), .val (.long q1), .second, .val (.long q2), .second] [])) _
          refine XS.lloadN X0.here hx rfl (hb hby d3_20) rfl ?_
          show Steps p.tables e below (s₁.setTop (mkF m 21 #[.val (.int p0), .val (.long q1), .second, .val (.long q2), .second] [(.long q1)])) _
          refine X0.ldc2Long hx hown (mvT hZ (hw _ (List.mem_of_getElem? (i := 48) rfl))) (g := (mkF m 21 #[.val (.int p0), .val (.long q1), .second, .val (.long q2), .second] [(.long q1)])) rfl (hb hby d3_21) _ ?_
          show Steps p.tables e below (s₁.setTop (mkF m 24 #[.val (.int p0), .val (.long q1), .second, .val (.long q2), .second] [(.long (2 : Int64)), (.long q1)])) _
          refine XS.ladd X0.here hx rfl (hb hby d3_24) rfl ?_
          show Steps p.tables e below (s₁.setTop (mkF m 25 #[.val (.int p0), .val (.long q1), .second, .val (.long q2), .second] [(.long (q1 + (2 : Int64)))])) _
          exact retOut X0 hx Bd.returns rfl (Or.inr (Or.inl ⟨rfl, rfl, _, rfl⟩)) (hb hby d3_25) hr
        · show Q3 Z p0 q1 q2 h0 n0 _ s₁.heap _
          rw [e0]
          exact ⟨by unfold f3; rw [if_neg hc1_12, if_neg hc10_14, if_pos hc17_16], N0, rfl⟩
      · obtain ⟨fs, hr, hrun, hended, hW, hsame⟩ := X0.leave (v := some (.long q2)) (fun h => by rw [Bd.returns] at h; cases h)
        refine ⟨_, _, pre15 _ ?_, hrun, hended, _, _, rfl, ?_, ⟨_, rfl⟩, hW, hsame.mono (by decide) (by decide)⟩
        · show Steps p.tables e below (s₁.setTop (mkF m 17 #[.val (.int p0), .val (.long q1), .second, .val (.long q2), .second] [(.int (2 : Int32)), (.int p0)])) _
          refine XS.icmpYes X0.here hx rfl (pc0 := 17) (pc' := 26) rfl (hb hby d3_17) rfl (feq hc17_16).2 (by decide) (by decide) ?_
          show Steps p.tables e below (s₁.setTop (mkF m 26 #[.val (.int p0), .val (.long q1), .second, .val (.long q2), .second] [])) _
          refine XS.lloadN X0.here hx rfl (hb hby d3_26) rfl ?_
          show Steps p.tables e below (s₁.setTop (mkF m 27 #[.val (.int p0), .val (.long q1), .second, .val (.long q2), .second] [(.long q2)])) _
          exact retOut X0 hx Bd.returns rfl (Or.inr (Or.inl ⟨rfl, rfl, _, rfl⟩)) (hb hby d3_27) hr
        · show Q3 Z p0 q1 q2 h0 n0 _ s₁.heap _
          rw [e0]
          exact ⟨by unfold f3; rw [if_neg hc1_12, if_neg hc10_14, if_neg hc17_16], N0, rfl⟩
theorem d4_0 : decode prog_85_method_9_code 0 = .ok (.lload_n 1, 1) := by decide +kernel
theorem d4_1 : decode prog_85_method_9_code 1 = .ok (.aload_n 0, 1) := by decide +kernel
theorem d4_2 : decode prog_85_method_9_code 2 = .ok (.getfield 36, 3) := by decide +kernel
theorem d4_5 : decode prog_85_method_9_code 5 = .ok (.lconst 1, 1) := by decide +kernel
theorem d4_6 : decode prog_85_method_9_code 6 = .ok (.ladd, 1) := by decide +kernel
theorem d4_7 : decode prog_85_method_9_code 7 = .ok (.lcmp, 1) := by decide +kernel
theorem d4_8 : decode prog_85_method_9_code 8 = .ok (.ifCond .ne 16, 3) := by decide +kernel
theorem d4_11 : decode prog_85_method_9_code 11 = .ok (.aload_n 0, 1) := by decide +kernel
theorem d4_12 : decode prog_85_method_9_code 12 = .ok (.dup, 1) := by decide +kernel
theorem d4_13 : decode prog_85_method_9_code 13 = .ok (.getfield 36, 3) := by decide +kernel
theorem d4_16 : decode prog_85_method_9_code 16 = .ok (.lconst 1, 1) := by decide +kernel
theorem d4_17 : decode prog_85_method_9_code 17 = .ok (.ladd, 1) := by decide +kernel
theorem d4_18 : decode prog_85_method_9_code 18 = .ok (.putfield 36, 3) := by decide +kernel
theorem d4_21 : decode prog_85_method_9_code 21 = .ok (.goto 13, 3) := by decide +kernel
theorem d4_24 : decode prog_85_method_9_code 24 = .ok (.aload_n 0, 1) := by decide +kernel
theorem d4_25 : decode prog_85_method_9_code 25 = .ok (.dup, 1) := by decide +kernel
theorem d4_26 : decode prog_85_method_9_code 26 = .ok (.getfield 39, 3) := by decide +kernel
theorem d4_29 : decode prog_85_method_9_code 29 = .ok (.lconst 1, 1) := by decide +kernel
theorem d4_30 : decode prog_85_method_9_code 30 = .ok (.ladd, 1) := by decide +kernel
theorem d4_31 : decode prog_85_method_9_code 31 = .ok (.putfield 39, 3) := by decide +kernel
theorem d4_34 : decode prog_85_method_9_code 34 = .ok (.return_, 1) := by decide +kernel
theorem ef_4 (m : MethodId) (x0 : Addr) (x1 : Int64) (x2 : Int64) : entryFrame m #[(.ref x0), (.long x1), (.long x2)] 5 = mkF m 0 #[.val (.ref x0), .val (.long x1), .second, .val (.long x2), .second] [] := by first | (simp [entryFrame, mkF, argsToLocals, Value.category]; done) | rfl
def g4_misfired (q1 : Int64) (w_fired_a0 : Int64) (w_misfired_a0 : Int64) : Int64 := (if q1 = (w_fired_a0 + (1 : Int64)) then w_misfired_a0 else (w_misfired_a0 + (1 : Int64)))
def g4_fired (q1 : Int64) (w_fired_a0 : Int64) : Int64 := (if q1 = (w_fired_a0 + (1 : Int64)) then (w_fired_a0 + (1 : Int64)) else w_fired_a0)
def Q4 (Z : State) (a0 : Addr) (q1 : Int64) (q2 : Int64) (w_count_a0 : Int64) (w_digest_a0 : Int64) (w_fired_a0 : Int64) (w_misfired_a0 : Int64) (h0 : Heap) (n0 : Nat) (v : Option Value) (h : Heap) (L : List Loc) : Prop := v = none ∧ Fr n0 L ∧ Keep h0 h [a0] ∧ Fld Z h a0 "com/example/careful_quorum/carefulquorum/simulation/SimulatedService" "count" "J" (.long w_count_a0) ∧ Fld Z h a0 "com/example/careful_quorum/carefulquorum/simulation/SimulatedService" "digest" "J" (.long w_digest_a0) ∧ Fld Z h a0 "com/example/careful_quorum/carefulquorum/simulation/SimulatedService" "misfired" "J" (.long (g4_misfired q1 w_fired_a0 w_misfired_a0)) ∧ Exa Z h a0 "com/example/careful_quorum/carefulquorum/simulation/SimulatedService" ∧ Fld Z h a0 "com/example/careful_quorum/carefulquorum/simulation/SimulatedService" "fired" "J" (.long (g4_fired q1 w_fired_a0))
set_option maxRecDepth 65536 in
set_option maxHeartbeats 40000000 in
theorem rm4 (l : Launch) (Z : State) (a0 : Array Value) (hw : ∀ d ∈ tables_1, d.before a0 Z = true) (ws : List Jvm.Cond) (a0 : Addr) (q1 : Int64) (q2 : Int64) (w_count_a0 : Int64) (w_digest_a0 : Int64) (w_fired_a0 : Int64) (w_misfired_a0 : Int64) (h0 : Heap) (n0 : Nat) (Z0 : n0 ≤ h0.size) (F_count_a0 : Fld Z h0 a0 "com/example/careful_quorum/carefulquorum/simulation/SimulatedService" "count" "J" (.long w_count_a0)) (F_digest_a0 : Fld Z h0 a0 "com/example/careful_quorum/carefulquorum/simulation/SimulatedService" "digest" "J" (.long w_digest_a0)) (F_fired_a0 : Fld Z h0 a0 "com/example/careful_quorum/carefulquorum/simulation/SimulatedService" "fired" "J" (.long w_fired_a0)) (F_misfired_a0 : Fld Z h0 a0 "com/example/careful_quorum/carefulquorum/simulation/SimulatedService" "misfired" "J" (.long w_misfired_a0)) (E_a0 : Exa Z h0 a0 "com/example/careful_quorum/carefulquorum/simulation/SimulatedService") (g_a0 : n0 ≤ a0) :
    MetFree l (⟨"com/example/careful_quorum/carefulquorum/simulation/SimulatedService", "timerFired", "(JJ)V"⟩ : MethodName) (head1 (Jvm.Cond.code (⟨"com/example/careful_quorum/carefulquorum/simulation/SimulatedService", "timerFired", "(JJ)V"⟩ : MethodName) prog_85_method_9_code 5 none :: ws) ({ frames := 0, cells := 0, slots := 0, locals := 0 } : Room)) (fun a U => a = #[(.ref a0), (.long q1), (.long q2)] ∧ Z.Warmed39 U.vm ∧ U.heap = h0) (fun _ _ _ _ _ => True) (fun _ U o U' => ∃ v L, o = .returned v ∧ Q4 Z a0 q1 q2 w_count_a0 w_digest_a0 w_fired_a0 w_misfired_a0 h0 n0 v U'.heap L ∧ FrameEnd U o U' L ({ frames := 0, cells := 0, slots := 0, locals := 0 } : Room).cells ({ frames := 0, cells := 0, slots := 0, locals := 0 } : Room).slots) := by
  refine MetFree.of_bodySF (plainFor_of_name pn_0) hisR ?_
  intro p e s m args below meth c s₁ Bd hml0 hP hK
  obtain ⟨rfl, hZ, hh⟩ := hP
  have hx := Bd.exec
  have hby := Bd.bytes
  have hml : c.maxLocals = 5 := hml0
  have hown : s.vm.findClass "com/example/careful_quorum/carefulquorum/simulation/SimulatedService" = some m.cls := findClass_of_methodNamed Bd.named
  have hnm := (name_of_methodNamed Bd.named Bd.method).1
  have X0 : Stand p l e ({ frames := 0, cells := 0, slots := 0, locals := 0 } : Room) s m #[(.ref a0), (.long q1), (.long q2)] below meth c s₁ [] 0 0 := Stand.of_body Bd
  have e0 : s₁.heap = h0 := by rw [← hh, Bd.state]; rfl
  have N0 := Fr.nil n0
  have pre0 : ∀ t, Steps p.tables e below (s₁.setTop (mkF m 0 #[.val (.ref a0), .val (.long q1), .second, .val (.long q2), .second] [])) t → Steps p.tables e below (s₁.setTop (entryFrame m #[(.ref a0), (.long q1), (.long q2)] 5)) t := fun t k => castTop (ef_4 m a0 q1 q2) k
  have pre17 : ∀ t, Steps p.tables e below (s₁.setTop (mkF m 2 #[.val (.ref a0), .val (.long q1), .second, .val (.long q2), .second] [(.ref a0), (.long q1)])) t → Steps p.tables e below (s₁.setTop (entryFrame m #[(.ref a0), (.long q1), (.long q2)] 5)) t := by
    intro t k
    refine pre0 t ?_
    show Steps p.tables e below (s₁.setTop (mkF m 0 #[.val (.ref a0), .val (.long q1), .second, .val (.long q2), .second] [])) _
    refine XS.lloadN X0.here hx rfl (hb hby d4_0) rfl ?_
    show Steps p.tables e below (s₁.setTop (mkF m 1 #[.val (.ref a0), .val (.long q1), .second, .val (.long q2), .second] [(.long q1)])) _
    refine XS.aloadN X0.here hx rfl (hb hby d4_1) rfl rfl ?_
    show Steps p.tables e below (s₁.setTop (mkF m 2 #[.val (.ref a0), .val (.long q1), .second, .val (.long q2), .second] [(.ref a0), (.long q1)])) _
    exact k
  obtain ⟨T18, X18, e18, st18⟩ := getF X0 hx hZ hown (host := "") (Or.inl (hw _ (List.mem_of_getElem? (i := 21) rfl))) Via.refl e0 F_fired_a0 (g := (mkF m 2 #[.val (.ref a0), .val (.long q1), .second, .val (.long q2), .second] [(.ref a0), (.long q1)])) rfl rfl (hb hby d4_2)
  have pre19 : ∀ t, Steps p.tables e below (T18.setTop (mkF m 5 #[.val (.ref a0), .val (.long q1), .second, .val (.long q2), .second] [(.long w_fired_a0), (.long q1)])) t → Steps p.tables e below (s₁.setTop (entryFrame m #[(.ref a0), (.long q1), (.long q2)] 5)) t := fun t k => pre17 t (st18 t k)
  have pre20 : ∀ t, Steps p.tables e below (T18.setTop (mkF m 8 #[.val (.ref a0), .val (.long q1), .second, .val (.long q2), .second] [(.int (lcmpW q1 (w_fired_a0 + (1 : Int64))))])) t → Steps p.tables e below (s₁.setTop (entryFrame m #[(.ref a0), (.long q1), (.long q2)] 5)) t := by
    intro t k
    refine pre19 t ?_
    show Steps p.tables e below (T18.setTop (mkF m 5 #[.val (.ref a0), .val (.long q1), .second, .val (.long q2), .second] [(.long w_fired_a0), (.long q1)])) _
    refine XS.lconst X18.here hx rfl (hb hby d4_5) ?_
    show Steps p.tables e below (T18.setTop (mkF m 6 #[.val (.ref a0), .val (.long q1), .second, .val (.long q2), .second] [(.long (1 : Int64)), (.long w_fired_a0), (.long q1)])) _
    refine XS.ladd X18.here hx rfl (hb hby d4_6) rfl ?_
    show Steps p.tables e below (T18.setTop (mkF m 7 #[.val (.ref a0), .val (.long q1), .second, .val (.long q2), .second] [(.long (w_fired_a0 + (1 : Int64))), (.long q1)])) _
    refine XS.lcmp X18.here hx rfl (hb hby d4_7) rfl ?_
    show Steps p.tables e below (T18.setTop (mkF m 8 #[.val (.ref a0), .val (.long q1), .second, .val (.long q2), .second] [(.int (lcmpW q1 (w_fired_a0 + (1 : Int64))))])) _
    exact k
  by_cases hc8_21 : q1 = (w_fired_a0 + (1 : Int64))
  · have pre22 : ∀ t, Steps p.tables e below (T18.setTop (mkF m 13 #[.val (.ref a0), .val (.long q1), .second, .val (.long q2), .second] [(.ref a0), (.ref a0)])) t → Steps p.tables e below (s₁.setTop (entryFrame m #[(.ref a0), (.long q1), (.long q2)] 5)) t := by
      intro t k
      refine pre20 t ?_
      show Steps p.tables e below (T18.setTop (mkF m 8 #[.val (.ref a0), .val (.long q1), .second, .val (.long q2), .second] [(.int (lcmpW q1 (w_fired_a0 + (1 : Int64))))])) _
      refine XS.ifNo X18.here hx rfl (hb hby d4_8) rfl ((if0 _ _).trans (teq (own_eqL hc8_21)).2) ?_
      show Steps p.tables e below (T18.setTop (mkF m 11 #[.val (.ref a0), .val (.long q1), .second, .val (.long q2), .second] [])) _
      refine XS.aloadN X18.here hx rfl (hb hby d4_11) rfl rfl ?_
      show Steps p.tables e below (T18.setTop (mkF m 12 #[.val (.ref a0), .val (.long q1), .second, .val (.long q2), .second] [(.ref a0)])) _
      refine XS.dup X18.here hx rfl (hb hby d4_12) rfl rfl ?_
      show Steps p.tables e below (T18.setTop (mkF m 13 #[.val (.ref a0), .val (.long q1), .second, .val (.long q2), .second] [(.ref a0), (.ref a0)])) _
      exact k
    obtain ⟨T23, X23, e23, st23⟩ := getF X18 hx hZ hown (host := "") (Or.inl (hw _ (List.mem_of_getElem? (i := 21) rfl))) Via.refl e18 F_fired_a0 (g := (mkF m 13 #[.val (.ref a0), .val (.long q1), .second, .val (.long q2), .second] [(.ref a0), (.ref a0)])) rfl rfl (hb hby d4_13)
    have pre24 : ∀ t, Steps p.tables e below (T23.setTop (mkF m 16 #[.val (.ref a0), .val (.long q1), .second, .val (.long q2), .second] [(.long w_fired_a0), (.ref a0)])) t → Steps p.tables e below (s₁.setTop (entryFrame m #[(.ref a0), (.long q1), (.long q2)] 5)) t := fun t k => pre22 t (st23 t k)
    have pre25 : ∀ t, Steps p.tables e below (T23.setTop (mkF m 18 #[.val (.ref a0), .val (.long q1), .second, .val (.long q2), .second] [(.long (w_fired_a0 + (1 : Int64))), (.ref a0)])) t → Steps p.tables e below (s₁.setTop (entryFrame m #[(.ref a0), (.long q1), (.long q2)] 5)) t := by
      intro t k
      refine pre24 t ?_
      show Steps p.tables e below (T23.setTop (mkF m 16 #[.val (.ref a0), .val (.long q1), .second, .val (.long q2), .second] [(.long w_fired_a0), (.ref a0)])) _
      refine XS.lconst X23.here hx rfl (hb hby d4_16) ?_
      show Steps p.tables e below (T23.setTop (mkF m 17 #[.val (.ref a0), .val (.long q1), .second, .val (.long q2), .second] [(.long (1 : Int64)), (.long w_fired_a0), (.ref a0)])) _
      refine XS.ladd X23.here hx rfl (hb hby d4_17) rfl ?_
      show Steps p.tables e below (T23.setTop (mkF m 18 #[.val (.ref a0), .val (.long q1), .second, .val (.long q2), .second] [(.long (w_fired_a0 + (1 : Int64))), (.ref a0)])) _
      exact k
    obtain ⟨T26, h26, X26, e26, W26, st26⟩ := putF X23 hx hZ hown (host := "") (Or.inl (hw _ (List.mem_of_getElem? (i := 21) rfl))) Via.refl e23 F_fired_a0 E_a0 (Or.inl (hw _ (List.mem_of_getElem? (i := 22) rfl))) (hw _ (List.mem_of_getElem? (i := 1) rfl)) (ty := .long) (by decide) rfl rfl (g := (mkF m 18 #[.val (.ref a0), .val (.long q1), .second, .val (.long q2), .second] [(.long (w_fired_a0 + (1 : Int64))), (.ref a0)])) rfl rfl (hb hby d4_18)
    have Z26 : n0 ≤ h26.size := Nat.le_trans Z0 (Keep.of_wr W26).1
    have K26 : Keep h0 h26 [a0] := (Keep.refl h0 [a0]).wr W26 (Or.inl (List.mem_of_getElem? (i := 0) rfl))
    have N26 := Fr.snoc X26 N0 g_a0
    have Ff27 : Fld Z h26 a0 "com/example/careful_quorum/carefulquorum/simulation/SimulatedService" "count" "J" (.long w_count_a0) := (F_count_a0).other W26 (Or.inr (slot_ne (Or.inl (hw _ (List.mem_of_getElem? (i := 41) rfl))) (Or.inl (hw _ (List.mem_of_getElem? (i := 22) rfl))) (by decide) (t := .long) (t' := .long) (by decide) (by decide)))
    have Ff28 : Fld Z h26 a0 "com/example/careful_quorum/carefulquorum/simulation/SimulatedService" "digest" "J" (.long w_digest_a0) := (F_digest_a0).other W26 (Or.inr (slot_ne (Or.inl (hw _ (List.mem_of_getElem? (i := 11) rfl))) (Or.inl (hw _ (List.mem_of_getElem? (i := 22) rfl))) (by decide) (t := .long) (t' := .long) (by decide) (by decide)))
    have Ff29 : Fld Z h26 a0 "com/example/careful_quorum/carefulquorum/simulation/SimulatedService" "misfired" "J" (.long w_misfired_a0) := (F_misfired_a0).other W26 (Or.inr (slot_ne (Or.inl (hw _ (List.mem_of_getElem? (i := 24) rfl))) (Or.inl (hw _ (List.mem_of_getElem? (i := 22) rfl))) (by decide) (t := .long) (t' := .long) (by decide) (by decide)))
    have Ef30 : Exa Z h26 a0 "com/example/careful_quorum/carefulquorum/simulation/SimulatedService" := (E_a0).wr W26
    have Fw26 : Fld Z h26 a0 "com/example/careful_quorum/carefulquorum/simulation/SimulatedService" "fired" "J" (.long (w_fired_a0 + (1 : Int64))) := (F_fired_a0).same W26
    have pre31 : ∀ t, Steps p.tables e below (T26.setTop (mkF m 21 #[.val (.ref a0), .val (.long q1), .second, .val (.long q2), .second] [])) t → Steps p.tables e below (s₁.setTop (entryFrame m #[(.ref a0), (.long q1), (.long q2)] 5)) t := fun t k => pre25 t (st26 t k)
    obtain ⟨fs, hr, hrun, hended, hW, hsame⟩ := X26.leave (v := none) (fun _ => rfl)
    refine ⟨_, _, pre31 _ ?_, hrun, hended, _, _, rfl, ?_, ⟨_, rfl⟩, hW, hsame.mono (by decide) (by decide)⟩
    · show Steps p.tables e below (T26.setTop (mkF m 21 #[.val (.ref a0), .val (.long q1), .second, .val (.long q2), .second] [])) _
      refine XS.goto X26.here hx rfl (pc0 := 21) (pc' := 34) rfl (hb hby d4_21) (by decide) (by decide) ?_
      show Steps p.tables e below (T26.setTop (mkF m 34 #[.val (.ref a0), .val (.long q1), .second, .val (.long q2), .second] [])) _
      exact X26.returnOut hx Bd.returns (hb hby d4_34) hr
    · show Q4 Z a0 q1 q2 w_count_a0 w_digest_a0 w_fired_a0 w_misfired_a0 h0 n0 _ T26.heap _
      rw [e26]
      exact ⟨rfl, N26, K26, Ff27, Ff28, (by unfold g4_misfired; rw [if_pos hc8_21]; exact Ff29), Ef30, (by unfold g4_fired; rw [if_pos hc8_21]; exact Fw26)⟩
  · have pre32 : ∀ t, Steps p.tables e below (T18.setTop (mkF m 26 #[.val (.ref a0), .val (.long q1), .second, .val (.long q2), .second] [(.ref a0), (.ref a0)])) t → Steps p.tables e below (s₁.setTop (entryFrame m #[(.ref a0), (.long q1), (.long q2)] 5)) t := by
      intro t k
      refine pre20 t ?_
      show Steps p.tables e below (T18.setTop (mkF m 8 #[.val (.ref a0), .val (.long q1), .second, .val (.long q2), .second] [(.int (lcmpW q1 (w_fired_a0 + (1 : Int64))))])) _
      refine XS.ifYes X18.here hx rfl (pc0 := 8) (pc' := 24) rfl (hb hby d4_8) rfl ((if0 _ _).trans (feq (own_neL hc8_21)).2) (by decide) (by decide) ?_
      show Steps p.tables e below (T18.setTop (mkF m 24 #[.val (.ref a0), .val (.long q1), .second, .val (.long q2), .second] [])) _
      refine XS.aloadN X18.here hx rfl (hb hby d4_24) rfl rfl ?_
      show Steps p.tables e below (T18.setTop (mkF m 25 #[.val (.ref a0), .val (.long q1), .second, .val (.long q2), .second] [(.ref a0)])) _
      refine XS.dup X18.here hx rfl (hb hby d4_25) rfl rfl ?_
      show Steps p.tables e below (T18.setTop (mkF m 26 #[.val (.ref a0), .val (.long q1), .second, .val (.long q2), .second] [(.ref a0), (.ref a0)])) _
      exact k
    obtain ⟨T33, X33, e33, st33⟩ := getF X18 hx hZ hown (host := "") (Or.inl (hw _ (List.mem_of_getElem? (i := 23) rfl))) Via.refl e18 F_misfired_a0 (g := (mkF m 26 #[.val (.ref a0), .val (.long q1), .second, .val (.long q2), .second] [(.ref a0), (.ref a0)])) rfl rfl (hb hby d4_26)
    have pre34 : ∀ t, Steps p.tables e below (T33.setTop (mkF m 29 #[.val (.ref a0), .val (.long q1), .second, .val (.long q2), .second] [(.long w_misfired_a0), (.ref a0)])) t → Steps p.tables e below (s₁.setTop (entryFrame m #[(.ref a0), (.long q1), (.long q2)] 5)) t := fun t k => pre32 t (st33 t k)
    have pre35 : ∀ t, Steps p.tables e below (T33.setTop (mkF m 31 #[.val (.ref a0), .val (.long q1), .second, .val (.long q2), .second] [(.long (w_misfired_a0 + (1 : Int64))), (.ref a0)])) t → Steps p.tables e below (s₁.setTop (entryFrame m #[(.ref a0), (.long q1), (.long q2)] 5)) t := by
      intro t k
      refine pre34 t ?_
      show Steps p.tables e below (T33.setTop (mkF m 29 #[.val (.ref a0), .val (.long q1), .second, .val (.long q2), .second] [(.long w_misfired_a0), (.ref a0)])) _
      refine XS.lconst X33.here hx rfl (hb hby d4_29) ?_
      show Steps p.tables e below (T33.setTop (mkF m 30 #[.val (.ref a0), .val (.long q1), .second, .val (.long q2), .second] [(.long (1 : Int64)), (.long w_misfired_a0), (.ref a0)])) _
      refine XS.ladd X33.here hx rfl (hb hby d4_30) rfl ?_
      show Steps p.tables e below (T33.setTop (mkF m 31 #[.val (.ref a0), .val (.long q1), .second, .val (.long q2), .second] [(.long (w_misfired_a0 + (1 : Int64))), (.ref a0)])) _
      exact k
    obtain ⟨T36, h36, X36, e36, W36, st36⟩ := putF X33 hx hZ hown (host := "") (Or.inl (hw _ (List.mem_of_getElem? (i := 23) rfl))) Via.refl e33 F_misfired_a0 E_a0 (Or.inl (hw _ (List.mem_of_getElem? (i := 24) rfl))) (hw _ (List.mem_of_getElem? (i := 1) rfl)) (ty := .long) (by decide) rfl rfl (g := (mkF m 31 #[.val (.ref a0), .val (.long q1), .second, .val (.long q2), .second] [(.long (w_misfired_a0 + (1 : Int64))), (.ref a0)])) rfl rfl (hb hby d4_31)
    have Z36 : n0 ≤ h36.size := Nat.le_trans Z0 (Keep.of_wr W36).1
    have K36 : Keep h0 h36 [a0] := (Keep.refl h0 [a0]).wr W36 (Or.inl (List.mem_of_getElem? (i := 0) rfl))
    have N36 := Fr.snoc X36 N0 g_a0
    have Ff37 : Fld Z h36 a0 "com/example/careful_quorum/carefulquorum/simulation/SimulatedService" "count" "J" (.long w_count_a0) := (F_count_a0).other W36 (Or.inr (slot_ne (Or.inl (hw _ (List.mem_of_getElem? (i := 41) rfl))) (Or.inl (hw _ (List.mem_of_getElem? (i := 24) rfl))) (by decide) (t := .long) (t' := .long) (by decide) (by decide)))
    have Ff38 : Fld Z h36 a0 "com/example/careful_quorum/carefulquorum/simulation/SimulatedService" "digest" "J" (.long w_digest_a0) := (F_digest_a0).other W36 (Or.inr (slot_ne (Or.inl (hw _ (List.mem_of_getElem? (i := 11) rfl))) (Or.inl (hw _ (List.mem_of_getElem? (i := 24) rfl))) (by decide) (t := .long) (t' := .long) (by decide) (by decide)))
    have Ff39 : Fld Z h36 a0 "com/example/careful_quorum/carefulquorum/simulation/SimulatedService" "fired" "J" (.long w_fired_a0) := (F_fired_a0).other W36 (Or.inr (slot_ne (Or.inl (hw _ (List.mem_of_getElem? (i := 22) rfl))) (Or.inl (hw _ (List.mem_of_getElem? (i := 24) rfl))) (by decide) (t := .long) (t' := .long) (by decide) (by decide)))
    have Ef40 : Exa Z h36 a0 "com/example/careful_quorum/carefulquorum/simulation/SimulatedService" := (E_a0).wr W36
    have Fw36 : Fld Z h36 a0 "com/example/careful_quorum/carefulquorum/simulation/SimulatedService" "misfired" "J" (.long (w_misfired_a0 + (1 : Int64))) := (F_misfired_a0).same W36
    have pre41 : ∀ t, Steps p.tables e below (T36.setTop (mkF m 34 #[.val (.ref a0), .val (.long q1), .second, .val (.long q2), .second] [])) t → Steps p.tables e below (s₁.setTop (entryFrame m #[(.ref a0), (.long q1), (.long q2)] 5)) t := fun t k => pre35 t (st36 t k)
    obtain ⟨fs, hr, hrun, hended, hW, hsame⟩ := X36.leave (v := none) (fun _ => rfl)
    refine ⟨_, _, pre41 _ ?_, hrun, hended, _, _, rfl, ?_, ⟨_, rfl⟩, hW, hsame.mono (by decide) (by decide)⟩
    · show Steps p.tables e below (T36.setTop (mkF m 34 #[.val (.ref a0), .val (.long q1), .second, .val (.long q2), .second] [])) _
      exact X36.returnOut hx Bd.returns (hb hby d4_34) hr
    · show Q4 Z a0 q1 q2 w_count_a0 w_digest_a0 w_fired_a0 w_misfired_a0 h0 n0 _ T36.heap _
      rw [e36]
      exact ⟨rfl, N36, K36, Ff37, Ff38, (by unfold g4_misfired; rw [if_neg hc8_21]; exact Fw36), Ef40, (by unfold g4_fired; rw [if_neg hc8_21]; exact Ff39)⟩
theorem d5_0 : decode prog_85_method_5_code 0 = .ok (.aload_n 0, 1) := by decide +kernel
theorem d5_1 : decode prog_85_method_5_code 1 = .ok (.getfield 36, 3) := by decide +kernel
theorem d5_4 : decode prog_85_method_5_code 4 = .ok (.lreturn, 1) := by decide +kernel
theorem ef_5 (m : MethodId) (x0 : Addr) : entryFrame m #[(.ref x0)] 1 = mkF m 0 #[.val (.ref x0)] [] := by first | (simp [entryFrame, mkF, argsToLocals, Value.category]; done) | rfl
def Q5 (Z : State) (a0 : Addr) (w_fired_a0 : Int64) (h0 : Heap) (n0 : Nat) (v : Option Value) (h : Heap) (L : List Loc) : Prop := v = some (.long w_fired_a0) ∧ Fr n0 L ∧ h = h0
set_option maxRecDepth 65536 in
set_option maxHeartbeats 40000000 in
theorem rm5 (l : Launch) (Z : State) (a0 : Array Value) (hw : ∀ d ∈ tables_1, d.before a0 Z = true) (ws : List Jvm.Cond) (a0 : Addr) (w_fired_a0 : Int64) (h0 : Heap) (n0 : Nat) (Z0 : n0 ≤ h0.size) (F_fired_a0 : Fld Z h0 a0 "com/example/careful_quorum/carefulquorum/simulation/SimulatedService" "fired" "J" (.long w_fired_a0)) :
    MetFree l (⟨"com/example/careful_quorum/carefulquorum/simulation/SimulatedService", "fired", "()J"⟩ : MethodName) (head1 (Jvm.Cond.code (⟨"com/example/careful_quorum/carefulquorum/simulation/SimulatedService", "fired", "()J"⟩ : MethodName) prog_85_method_5_code 1 (some .long) :: ws) ({ frames := 0, cells := 0, slots := 0, locals := 0 } : Room)) (fun a U => a = #[(.ref a0)] ∧ Z.Warmed39 U.vm ∧ U.heap = h0) (fun _ _ _ _ _ => True) (fun _ U o U' => ∃ v L, o = .returned v ∧ Q5 Z a0 w_fired_a0 h0 n0 v U'.heap L ∧ FrameEnd U o U' L ({ frames := 0, cells := 0, slots := 0, locals := 0 } : Room).cells ({ frames := 0, cells := 0, slots := 0, locals := 0 } : Room).slots) := by
  refine MetFree.of_bodySF (plainFor_of_name pn_0) hisR ?_
  intro p e s m args below meth c s₁ Bd hml0 hP hK
  obtain ⟨rfl, hZ, hh⟩ := hP
  have hx := Bd.exec
  have hby := Bd.bytes
  have hml : c.maxLocals = 1 := hml0
  have hown : s.vm.findClass "com/example/careful_quorum/carefulquorum/simulation/SimulatedService" = some m.cls := findClass_of_methodNamed Bd.named
  have hnm := (name_of_methodNamed Bd.named Bd.method).1
  have X0 : Stand p l e ({ frames := 0, cells := 0, slots := 0, locals := 0 } : Room) s m #[(.ref a0)] below meth c s₁ [] 0 0 := Stand.of_body Bd
  have e0 : s₁.heap = h0 := by rw [← hh, Bd.state]; rfl
  have N0 := Fr.nil n0
  have pre0 : ∀ t, Steps p.tables e below (s₁.setTop (mkF m 0 #[.val (.ref a0)] [])) t → Steps p.tables e below (s₁.setTop (entryFrame m #[(.ref a0)] 1)) t := fun t k => castTop (ef_5 m a0) k
  have pre42 : ∀ t, Steps p.tables e below (s₁.setTop (mkF m 1 #[.val (.ref a0)] [(.ref a0)])) t → Steps p.tables e below (s₁.setTop (entryFrame m #[(.ref a0)] 1)) t := by
    intro t k
    refine pre0 t ?_
    show Steps p.tables e below (s₁.setTop (mkF m 0 #[.val (.ref a0)] [])) _
    refine XS.aloadN X0.here hx rfl (hb hby d5_0) rfl rfl ?_
    show Steps p.tables e below (s₁.setTop (mkF m 1 #[.val (.ref a0)] [(.ref a0)])) _
    exact k
  obtain ⟨T43, X43, e43, st43⟩ := getF X0 hx hZ hown (host := "") (Or.inl (hw _ (List.mem_of_getElem? (i := 21) rfl))) Via.refl e0 F_fired_a0 (g := (mkF m 1 #[.val (.ref a0)] [(.ref a0)])) rfl rfl (hb hby d5_1)
  have pre44 : ∀ t, Steps p.tables e below (T43.setTop (mkF m 4 #[.val (.ref a0)] [(.long w_fired_a0)])) t → Steps p.tables e below (s₁.setTop (entryFrame m #[(.ref a0)] 1)) t := fun t k => pre42 t (st43 t k)
  obtain ⟨fs, hr, hrun, hended, hW, hsame⟩ := X43.leave (v := some (.long w_fired_a0)) (fun h => by rw [Bd.returns] at h; cases h)
  refine ⟨_, _, pre44 _ ?_, hrun, hended, _, _, rfl, ?_, ⟨_, rfl⟩, hW, hsame.mono (by decide) (by decide)⟩
  · show Steps p.tables e below (T43.setTop (mkF m 4 #[.val (.ref a0)] [(.long w_fired_a0)])) _
    exact retOut X43 hx Bd.returns rfl (Or.inr (Or.inl ⟨rfl, rfl, _, rfl⟩)) (hb hby d5_4) hr
  · show Q5 Z a0 w_fired_a0 h0 n0 _ T43.heap _
    rw [e43]
    exact ⟨rfl, N0, rfl⟩
theorem d6_0 : decode prog_85_method_6_code 0 = .ok (.aload_n 0, 1) := by decide +kernel
theorem d6_1 : decode prog_85_method_6_code 1 = .ok (.getfield 39, 3) := by decide +kernel
theorem d6_4 : decode prog_85_method_6_code 4 = .ok (.lreturn, 1) := by decide +kernel
theorem ef_6 (m : MethodId) (x0 : Addr) : entryFrame m #[(.ref x0)] 1 = mkF m 0 #[.val (.ref x0)] [] := by first | (simp [entryFrame, mkF, argsToLocals, Value.category]; done) | rfl
def Q6 (Z : State) (a0 : Addr) (w_misfired_a0 : Int64) (h0 : Heap) (n0 : Nat) (v : Option Value) (h : Heap) (L : List Loc) : Prop := v = some (.long w_misfired_a0) ∧ Fr n0 L ∧ h = h0
set_option maxRecDepth 65536 in
set_option maxHeartbeats 40000000 in
theorem rm6 (l : Launch) (Z : State) (a0 : Array Value) (hw : ∀ d ∈ tables_1, d.before a0 Z = true) (ws : List Jvm.Cond) (a0 : Addr) (w_misfired_a0 : Int64) (h0 : Heap) (n0 : Nat) (Z0 : n0 ≤ h0.size) (F_misfired_a0 : Fld Z h0 a0 "com/example/careful_quorum/carefulquorum/simulation/SimulatedService" "misfired" "J" (.long w_misfired_a0)) :
    MetFree l (⟨"com/example/careful_quorum/carefulquorum/simulation/SimulatedService", "misfired", "()J"⟩ : MethodName) (head1 (Jvm.Cond.code (⟨"com/example/careful_quorum/carefulquorum/simulation/SimulatedService", "misfired", "()J"⟩ : MethodName) prog_85_method_6_code 1 (some .long) :: ws) ({ frames := 0, cells := 0, slots := 0, locals := 0 } : Room)) (fun a U => a = #[(.ref a0)] ∧ Z.Warmed39 U.vm ∧ U.heap = h0) (fun _ _ _ _ _ => True) (fun _ U o U' => ∃ v L, o = .returned v ∧ Q6 Z a0 w_misfired_a0 h0 n0 v U'.heap L ∧ FrameEnd U o U' L ({ frames := 0, cells := 0, slots := 0, locals := 0 } : Room).cells ({ frames := 0, cells := 0, slots := 0, locals := 0 } : Room).slots) := by
  refine MetFree.of_bodySF (plainFor_of_name pn_0) hisR ?_
  intro p e s m args below meth c s₁ Bd hml0 hP hK
  obtain ⟨rfl, hZ, hh⟩ := hP
  have hx := Bd.exec
  have hby := Bd.bytes
  have hml : c.maxLocals = 1 := hml0
  have hown : s.vm.findClass "com/example/careful_quorum/carefulquorum/simulation/SimulatedService" = some m.cls := findClass_of_methodNamed Bd.named
  have hnm := (name_of_methodNamed Bd.named Bd.method).1
  have X0 : Stand p l e ({ frames := 0, cells := 0, slots := 0, locals := 0 } : Room) s m #[(.ref a0)] below meth c s₁ [] 0 0 := Stand.of_body Bd
  have e0 : s₁.heap = h0 := by rw [← hh, Bd.state]; rfl
  have N0 := Fr.nil n0
  have pre0 : ∀ t, Steps p.tables e below (s₁.setTop (mkF m 0 #[.val (.ref a0)] [])) t → Steps p.tables e below (s₁.setTop (entryFrame m #[(.ref a0)] 1)) t := fun t k => castTop (ef_6 m a0) k
  have pre45 : ∀ t, Steps p.tables e below (s₁.setTop (mkF m 1 #[.val (.ref a0)] [(.ref a0)])) t → Steps p.tables e below (s₁.setTop (entryFrame m #[(.ref a0)] 1)) t := by
    intro t k
    refine pre0 t ?_
    show Steps p.tables e below (s₁.setTop (mkF m 0 #[.val (.ref a0)] [])) _
    refine XS.aloadN X0.here hx rfl (hb hby d6_0) rfl rfl ?_
    show Steps p.tables e below (s₁.setTop (mkF m 1 #[.val (.ref a0)] [(.ref a0)])) _
    exact k
  obtain ⟨T46, X46, e46, st46⟩ := getF X0 hx hZ hown (host := "") (Or.inl (hw _ (List.mem_of_getElem? (i := 23) rfl))) Via.refl e0 F_misfired_a0 (g := (mkF m 1 #[.val (.ref a0)] [(.ref a0)])) rfl rfl (hb hby d6_1)
  have pre47 : ∀ t, Steps p.tables e below (T46.setTop (mkF m 4 #[.val (.ref a0)] [(.long w_misfired_a0)])) t → Steps p.tables e below (s₁.setTop (entryFrame m #[(.ref a0)] 1)) t := fun t k => pre45 t (st46 t k)
  obtain ⟨fs, hr, hrun, hended, hW, hsame⟩ := X46.leave (v := some (.long w_misfired_a0)) (fun h => by rw [Bd.returns] at h; cases h)
  refine ⟨_, _, pre47 _ ?_, hrun, hended, _, _, rfl, ?_, ⟨_, rfl⟩, hW, hsame.mono (by decide) (by decide)⟩
  · show Steps p.tables e below (T46.setTop (mkF m 4 #[.val (.ref a0)] [(.long w_misfired_a0)])) _
    exact retOut X46 hx Bd.returns rfl (Or.inr (Or.inl ⟨rfl, rfl, _, rfl⟩)) (hb hby d6_4) hr
  · show Q6 Z a0 w_misfired_a0 h0 n0 _ T46.heap _
    rw [e46]
    exact ⟨rfl, N0, rfl⟩
theorem d7_0 : decode prog_85_method_3_code 0 = .ok (.aload_n 0, 1) := by decide +kernel
theorem d7_1 : decode prog_85_method_3_code 1 = .ok (.getfield 33, 3) := by decide +kernel
theorem d7_4 : decode prog_85_method_3_code 4 = .ok (.lreturn, 1) := by decide +kernel
theorem ef_7 (m : MethodId) (x0 : Addr) : entryFrame m #[(.ref x0)] 1 = mkF m 0 #[.val (.ref x0)] [] := by first | (simp [entryFrame, mkF, argsToLocals, Value.category]; done) | rfl
def Q7 (Z : State) (a0 : Addr) (w_count_a0 : Int64) (h0 : Heap) (n0 : Nat) (v : Option Value) (h : Heap) (L : List Loc) : Prop := v = some (.long w_count_a0) ∧ Fr n0 L ∧ h = h0
set_option maxRecDepth 65536 in
set_option maxHeartbeats 40000000 in
theorem rm7 (l : Launch) (Z : State) (a0 : Array Value) (hw : ∀ d ∈ tables_1, d.before a0 Z = true) (ws : List Jvm.Cond) (a0 : Addr) (w_count_a0 : Int64) (h0 : Heap) (n0 : Nat) (Z0 : n0 ≤ h0.size) (F_count_a0 : Fld Z h0 a0 "com/example/careful_quorum/carefulquorum/simulation/SimulatedService" "count" "J" (.long w_count_a0)) :
    MetFree l (⟨"com/example/careful_quorum/carefulquorum/simulation/SimulatedService", "count", "()J"⟩ : MethodName) (head1 (Jvm.Cond.code (⟨"com/example/careful_quorum/carefulquorum/simulation/SimulatedService", "count", "()J"⟩ : MethodName) prog_85_method_3_code 1 (some .long) :: ws) ({ frames := 0, cells := 0, slots := 0, locals := 0 } : Room)) (fun a U => a = #[(.ref a0)] ∧ Z.Warmed39 U.vm ∧ U.heap = h0) (fun _ _ _ _ _ => True) (fun _ U o U' => ∃ v L, o = .returned v ∧ Q7 Z a0 w_count_a0 h0 n0 v U'.heap L ∧ FrameEnd U o U' L ({ frames := 0, cells := 0, slots := 0, locals := 0 } : Room).cells ({ frames := 0, cells := 0, slots := 0, locals := 0 } : Room).slots) := by
  refine MetFree.of_bodySF (plainFor_of_name pn_0) hisR ?_
  intro p e s m args below meth c s₁ Bd hml0 hP hK
  obtain ⟨rfl, hZ, hh⟩ := hP
  have hx := Bd.exec
  have hby := Bd.bytes
  have hml : c.maxLocals = 1 := hml0
  have hown : s.vm.findClass "com/example/careful_quorum/carefulquorum/simulation/SimulatedService" = some m.cls := findClass_of_methodNamed Bd.named
  have hnm := (name_of_methodNamed Bd.named Bd.method).1
  have X0 : Stand p l e ({ frames := 0, cells := 0, slots := 0, locals := 0 } : Room) s m #[(.ref a0)] below meth c s₁ [] 0 0 := Stand.of_body Bd
  have e0 : s₁.heap = h0 := by rw [← hh, Bd.state]; rfl
  have N0 := Fr.nil n0
  have pre0 : ∀ t, Steps p.tables e below (s₁.setTop (mkF m 0 #[.val (.ref a0)] [])) t → Steps p.tables e below (s₁.setTop (entryFrame m #[(.ref a0)] 1)) t := fun t k => castTop (ef_7 m a0) k
  have pre48 : ∀ t, Steps p.tables e below (s₁.setTop (mkF m 1 #[.val (.ref a0)] [(.ref a0)])) t → Steps p.tables e below (s₁.setTop (entryFrame m #[(.ref a0)] 1)) t := by
    intro t k
    refine pre0 t ?_
    show Steps p.tables e below (s₁.setTop (mkF m 0 #[.val (.ref a0)] [])) _
    refine XS.aloadN X0.here hx rfl (hb hby d7_0) rfl rfl ?_
    show Steps p.tables e below (s₁.setTop (mkF m 1 #[.val (.ref a0)] [(.ref a0)])) _
    exact k
  obtain ⟨T49, X49, e49, st49⟩ := getF X0 hx hZ hown (host := "") (Or.inl (hw _ (List.mem_of_getElem? (i := 40) rfl))) Via.refl e0 F_count_a0 (g := (mkF m 1 #[.val (.ref a0)] [(.ref a0)])) rfl rfl (hb hby d7_1)
  have pre50 : ∀ t, Steps p.tables e below (T49.setTop (mkF m 4 #[.val (.ref a0)] [(.long w_count_a0)])) t → Steps p.tables e below (s₁.setTop (entryFrame m #[(.ref a0)] 1)) t := fun t k => pre48 t (st49 t k)
  obtain ⟨fs, hr, hrun, hended, hW, hsame⟩ := X49.leave (v := some (.long w_count_a0)) (fun h => by rw [Bd.returns] at h; cases h)
  refine ⟨_, _, pre50 _ ?_, hrun, hended, _, _, rfl, ?_, ⟨_, rfl⟩, hW, hsame.mono (by decide) (by decide)⟩
  · show Steps p.tables e below (T49.setTop (mkF m 4 #[.val (.ref a0)] [(.long w_count_a0)])) _
    exact retOut X49 hx Bd.returns rfl (Or.inr (Or.inl ⟨rfl, rfl, _, rfl⟩)) (hb hby d7_4) hr
  · show Q7 Z a0 w_count_a0 h0 n0 _ T49.heap _
    rw [e49]
    exact ⟨rfl, N0, rfl⟩
theorem d8_0 : decode prog_85_method_4_code 0 = .ok (.aload_n 0, 1) := by decide +kernel
theorem d8_1 : decode prog_85_method_4_code 1 = .ok (.getfield 11, 3) := by decide +kernel
theorem d8_4 : decode prog_85_method_4_code 4 = .ok (.lreturn, 1) := by decide +kernel
theorem ef_8 (m : MethodId) (x0 : Addr) : entryFrame m #[(.ref x0)] 1 = mkF m 0 #[.val (.ref x0)] [] := by first | (simp [entryFrame, mkF, argsToLocals, Value.category]; done) | rfl
def Q8 (Z : State) (a0 : Addr) (w_digest_a0 : Int64) (h0 : Heap) (n0 : Nat) (v : Option Value) (h : Heap) (L : List Loc) : Prop := v = some (.long w_digest_a0) ∧ Fr n0 L ∧ h = h0
set_option maxRecDepth 65536 in
set_option maxHeartbeats 40000000 in
theorem rm8 (l : Launch) (Z : State) (a0 : Array Value) (hw : ∀ d ∈ tables_1, d.before a0 Z = true) (ws : List Jvm.Cond) (a0 : Addr) (w_digest_a0 : Int64) (h0 : Heap) (n0 : Nat) (Z0 : n0 ≤ h0.size) (F_digest_a0 : Fld Z h0 a0 "com/example/careful_quorum/carefulquorum/simulation/SimulatedService" "digest" "J" (.long w_digest_a0)) :
    MetFree l (⟨"com/example/careful_quorum/carefulquorum/simulation/SimulatedService", "digest", "()J"⟩ : MethodName) (head1 (Jvm.Cond.code (⟨"com/example/careful_quorum/carefulquorum/simulation/SimulatedService", "digest", "()J"⟩ : MethodName) prog_85_method_4_code 1 (some .long) :: ws) ({ frames := 0, cells := 0, slots := 0, locals := 0 } : Room)) (fun a U => a = #[(.ref a0)] ∧ Z.Warmed39 U.vm ∧ U.heap = h0) (fun _ _ _ _ _ => True) (fun _ U o U' => ∃ v L, o = .returned v ∧ Q8 Z a0 w_digest_a0 h0 n0 v U'.heap L ∧ FrameEnd U o U' L ({ frames := 0, cells := 0, slots := 0, locals := 0 } : Room).cells ({ frames := 0, cells := 0, slots := 0, locals := 0 } : Room).slots) := by
  refine MetFree.of_bodySF (plainFor_of_name pn_0) hisR ?_
  intro p e s m args below meth c s₁ Bd hml0 hP hK
  obtain ⟨rfl, hZ, hh⟩ := hP
  have hx := Bd.exec
  have hby := Bd.bytes
  have hml : c.maxLocals = 1 := hml0
  have hown : s.vm.findClass "com/example/careful_quorum/carefulquorum/simulation/SimulatedService" = some m.cls := findClass_of_methodNamed Bd.named
  have hnm := (name_of_methodNamed Bd.named Bd.method).1
  have X0 : Stand p l e ({ frames := 0, cells := 0, slots := 0, locals := 0 } : Room) s m #[(.ref a0)] below meth c s₁ [] 0 0 := Stand.of_body Bd
  have e0 : s₁.heap = h0 := by rw [← hh, Bd.state]; rfl
  have N0 := Fr.nil n0
  have pre0 : ∀ t, Steps p.tables e below (s₁.setTop (mkF m 0 #[.val (.ref a0)] [])) t → Steps p.tables e below (s₁.setTop (entryFrame m #[(.ref a0)] 1)) t := fun t k => castTop (ef_8 m a0) k
  have pre51 : ∀ t, Steps p.tables e below (s₁.setTop (mkF m 1 #[.val (.ref a0)] [(.ref a0)])) t → Steps p.tables e below (s₁.setTop (entryFrame m #[(.ref a0)] 1)) t := by
    intro t k
    refine pre0 t ?_
    show Steps p.tables e below (s₁.setTop (mkF m 0 #[.val (.ref a0)] [])) _
    refine XS.aloadN X0.here hx rfl (hb hby d8_0) rfl rfl ?_
    show Steps p.tables e below (s₁.setTop (mkF m 1 #[.val (.ref a0)] [(.ref a0)])) _
    exact k
  obtain ⟨T52, X52, e52, st52⟩ := getF X0 hx hZ hown (host := "") (Or.inl (hw _ (List.mem_of_getElem? (i := 10) rfl))) Via.refl e0 F_digest_a0 (g := (mkF m 1 #[.val (.ref a0)] [(.ref a0)])) rfl rfl (hb hby d8_1)
  have pre53 : ∀ t, Steps p.tables e below (T52.setTop (mkF m 4 #[.val (.ref a0)] [(.long w_digest_a0)])) t → Steps p.tables e below (s₁.setTop (entryFrame m #[(.ref a0)] 1)) t := fun t k => pre51 t (st52 t k)
  obtain ⟨fs, hr, hrun, hended, hW, hsame⟩ := X52.leave (v := some (.long w_digest_a0)) (fun h => by rw [Bd.returns] at h; cases h)
  refine ⟨_, _, pre53 _ ?_, hrun, hended, _, _, rfl, ?_, ⟨_, rfl⟩, hW, hsame.mono (by decide) (by decide)⟩
  · show Steps p.tables e below (T52.setTop (mkF m 4 #[.val (.ref a0)] [(.long w_digest_a0)])) _
    exact retOut X52 hx Bd.returns rfl (Or.inr (Or.inl ⟨rfl, rfl, _, rfl⟩)) (hb hby d8_4) hr
  · show Q8 Z a0 w_digest_a0 h0 n0 _ T52.heap _
    rw [e52]
    exact ⟨rfl, N0, rfl⟩
theorem pd_0 : parseMethodDescriptor "()V" = some ⟨[], none⟩ := by decide +kernel
theorem pd_1 : parseMethodDescriptor "(IJJ)J" = some ⟨[.int, .long, .long], some .long⟩ := by decide +kernel
theorem pd_2 : parseMethodDescriptor "(JJ)V" = some ⟨[.long, .long], none⟩ := by decide +kernel
theorem pd_3 : parseMethodDescriptor "()J" = some ⟨[], some .long⟩ := by decide +kernel
theorem ef_0 (m : MethodId) (x0 : Int64) (x1 : Int64) (x2 : Int64) (x3 : Int64) (x4 : Int32) : entryFrame m #[(.long x0), (.long x1), (.long x2), (.long x3), (.int x4)] maxLocals = mkF m 0 #[.val (.long x0), .second, .val (.long x1), .second, .val (.long x2), .second, .val (.long x3), .second, .val (.int x4), .unset, .unset, .unset, .unset, .unset, .unset, .unset, .unset, .unset, .unset, .unset] [] := by first | (simp [entryFrame, mkF, argsToLocals, Value.category, maxLocals]; done) | rfl
def Q0 (Z : State) (q0 : Int64) (q1 : Int64) (q2 : Int64) (q3 : Int64) (p4 : Int32) (h0 : Heap) (n0 : Nat) (v : Option Value) (h : Heap) (L : List Loc) : Prop := v = some (.int 1) ∧ Fr n0 L
theorem own_leaf1 {q0 : Int64} {q1 : Int64} {q2 : Int64} {p4 : Int32} {u63 : Int64} {u73 : Int64} {u74 : Int64} {u79 : Int64} {u89 : Int64} {u90 : Int64} {u95 : Int64} {u105 : Int64} {u106 : Int64} (hu63 : u63 = (f3 (p4 &&& (3 : Int32)) (0 : Int64) q0)) (hu73 : u73 = (if u63 = ((0 : Int64) + (1 : Int64)) then ((0 : Int64) + (1 : Int64)) else (0 : Int64))) (hu74 : u74 = (if u63 = ((0 : Int64) + (1 : Int64)) then (0 : Int64) else ((0 : Int64) + (1 : Int64)))) (hu79 : u79 = (f3 (((p4.toUInt32 >>> ((2 : Int32) &&& 31).toUInt32).toInt32) &&& (3 : Int32)) u73 q1)) (hu89 : u89 = (if u79 = (u73 + (1 : Int64)) then (u73 + (1 : Int64)) else u73)) (hu90 : u90 = (if u79 = (u73 + (1 : Int64)) then u74 else (u74 + (1 : Int64)))) (hu95 : u95 = (f3 (((p4.toUInt32 >>> ((4 : Int32) &&& 31).toUInt32).toInt32) &&& (3 : Int32)) u89 q2)) (hu105 : u105 = (if u95 = (u89 + (1 : Int64)) then (u89 + (1 : Int64)) else u89)) (hu106 : u106 = (if u95 = (u89 + (1 : Int64)) then u90 else (u90 + (1 : Int64)))) (hc170_112 : (g4_fired u95 (g4_fired u79 (g4_fired u63 (0 : Int64)))) = u105) (hc181_117 : ¬ ((g4_misfired u95 (g4_fired u79 (g4_fired u63 (0 : Int64))) (g4_misfired u79 (g4_fired u63 (0 : Int64)) (g4_misfired u63 (0 : Int64) (0 : Int64)))) = u106)) : False := by
  have A1 : u73 = g4_fired u63 0 := hu73
  have A2 : u89 = g4_fired u79 u73 := hu89
  have A3 : u105 = g4_fired u95 u89 := hu105
  have B1 : u74 = g4_misfired u63 0 0 := hu74
  have B2 : u90 = g4_misfired u79 u73 u74 := hu90
  have B3 : u106 = g4_misfired u95 u89 u90 := hu106
  apply hc181_117
  rw [B3, B2, B1, A2, A1]
theorem own_leaf2 {q0 : Int64} {q1 : Int64} {q2 : Int64} {p4 : Int32} {u63 : Int64} {u73 : Int64} {u74 : Int64} {u79 : Int64} {u89 : Int64} {u90 : Int64} {u95 : Int64} {u105 : Int64} {u106 : Int64} (hu63 : u63 = (f3 (p4 &&& (3 : Int32)) (0 : Int64) q0)) (hu73 : u73 = (if u63 = ((0 : Int64) + (1 : Int64)) then ((0 : Int64) + (1 : Int64)) else (0 : Int64))) (hu74 : u74 = (if u63 = ((0 : Int64) + (1 : Int64)) then (0 : Int64) else ((0 : Int64) + (1 : Int64)))) (hu79 : u79 = (f3 (((p4.toUInt32 >>> ((2 : Int32) &&& 31).toUInt32).toInt32) &&& (3 : Int32)) u73 q1)) (hu89 : u89 = (if u79 = (u73 + (1 : Int64)) then (u73 + (1 : Int64)) else u73)) (hu90 : u90 = (if u79 = (u73 + (1 : Int64)) then u74 else (u74 + (1 : Int64)))) (hu95 : u95 = (f3 (((p4.toUInt32 >>> ((4 : Int32) &&& 31).toUInt32).toInt32) &&& (3 : Int32)) u89 q2)) (hu105 : u105 = (if u95 = (u89 + (1 : Int64)) then (u89 + (1 : Int64)) else u89)) (hu106 : u106 = (if u95 = (u89 + (1 : Int64)) then u90 else (u90 + (1 : Int64)))) (hc170_112 : ¬ ((g4_fired u95 (g4_fired u79 (g4_fired u63 (0 : Int64)))) = u105)) : False := by
  have A1 : u73 = g4_fired u63 0 := hu73
  have A2 : u89 = g4_fired u79 u73 := hu89
  have A3 : u105 = g4_fired u95 u89 := hu105
  have B1 : u74 = g4_misfired u63 0 0 := hu74
  have B2 : u90 = g4_misfired u79 u73 u74 := hu90
  have B3 : u106 = g4_misfired u95 u89 u90 := hu106
  apply hc170_112
  rw [A3, A2, A1]
set_option maxRecDepth 65536 in
set_option maxHeartbeats 40000000 in
theorem rm0 (l : Launch) (Z : State) (a0 : Array Value) (hw : ∀ d ∈ tables_1, d.before a0 Z = true) (ws : List Jvm.Cond) (q0 : Int64) (q1 : Int64) (q2 : Int64) (q3 : Int64) (p4 : Int32) (h0 : Heap) (n0 : Nat) (Z0 : n0 ≤ h0.size) :
    MetFree l x (head1 (Jvm.Cond.code x code maxLocals ret :: ws) room_1) (fun a U => a = #[(.long q0), (.long q1), (.long q2), (.long q3), (.int p4)] ∧ Z.Warmed39 U.vm ∧ U.heap = h0) (fun _ _ _ _ _ => True) (fun _ U o U' => ∃ v L, o = .returned v ∧ Q0 Z q0 q1 q2 q3 p4 h0 n0 v U'.heap L ∧ FrameEnd U o U' L room_1.cells room_1.slots) := by
  refine MetFree.of_bodySF (plainFor_of_name pn_1) hisR ?_
  intro p e s m args below meth c s₁ Bd hml0 hP hK
  obtain ⟨rfl, hZ, hh⟩ := hP
  have hx := Bd.exec
  have hby := Bd.bytes
  have hml : c.maxLocals = 20 := hml0
  have hown : s.vm.findClass "com/example/careful_quorum/carefulquorum/simulation/SimulatedServiceTimerFiredPinLaw" = some m.cls := findClass_of_methodNamed Bd.named
  have hnm := (name_of_methodNamed Bd.named Bd.method).1
  have X0 : Stand p l e room_1 s m #[(.long q0), (.long q1), (.long q2), (.long q3), (.int p4)] below meth c s₁ [] 0 0 := Stand.of_body Bd
  have e0 : s₁.heap = h0 := by rw [← hh, Bd.state]; rfl
  have N0 := Fr.nil n0
  have pre0 : ∀ t, Steps p.tables e below (s₁.setTop (mkF m 0 #[.val (.long q0), .second, .val (.long q1), .second, .val (.long q2), .second, .val (.long q3), .second, .val (.int p4), .unset, .unset, .unset, .unset, .unset, .unset, .unset, .unset, .unset, .unset, .unset] [])) t → Steps p.tables e below (s₁.setTop (entryFrame m #[(.long q0), (.long q1), (.long q2), (.long q3), (.int p4)] maxLocals)) t := fun t k => castTop (ef_0 m q0 q1 q2 q3 p4) k
  obtain ⟨T54, h54, X54, e54, E54, A54, D54, -, st54⟩ := newO X0 hx hZ hown (hw _ (List.mem_of_getElem? (i := 0) rfl)) (hw _ (List.mem_of_getElem? (i := 1) rfl)) (hw _ (List.mem_of_getElem? (i := 2) rfl)) e0 (g := (mkF m 0 #[.val (.long q0), .second, .val (.long q1), .second, .val (.long q2), .second, .val (.long q3), .second, .val (.int p4), .unset, .unset, .unset, .unset, .unset, .unset, .unset, .unset, .unset, .unset, .unset] [])) rfl (hb hby at_0) (by decide) (by decide)
  obtain ⟨b54, g54⟩ : ∃ z, z = h0.size := ⟨_, rfl⟩
  rw [← g54] at A54 D54 st54
  have g_b54 : n0 ≤ b54 := Nat.le_trans Z0 (Nat.le_of_eq g54.symm)
  have sz_b54 : h0.size ≤ b54 := Nat.le_trans (Keep.refl h0 []).1 (Nat.le_of_eq g54.symm)
  have Z54 : n0 ≤ h54.size := Nat.le_trans Z0 E54.1
  have K54 : Keep h0 h54 [] := (Keep.refl h0 []).ext E54
  have Fdigest_b54 : Fld Z h54 b54 "com/example/careful_quorum/carefulquorum/simulation/SimulatedService" "digest" "J" (.long (0 : Int64)) := D54 (Or.inl (hw _ (List.mem_of_getElem? (i := 11) rfl))) (ty := .long) (by decide)
  have Ffired_b54 : Fld Z h54 b54 "com/example/careful_quorum/carefulquorum/simulation/SimulatedService" "fired" "J" (.long (0 : Int64)) := D54 (Or.inl (hw _ (List.mem_of_getElem? (i := 22) rfl))) (ty := .long) (by decide)
  have Fmisfired_b54 : Fld Z h54 b54 "com/example/careful_quorum/carefulquorum/simulation/SimulatedService" "misfired" "J" (.long (0 : Int64)) := D54 (Or.inl (hw _ (List.mem_of_getElem? (i := 24) rfl))) (ty := .long) (by decide)
  have Fcount_b54 : Fld Z h54 b54 "com/example/careful_quorum/carefulquorum/simulation/SimulatedService" "count" "J" (.long (0 : Int64)) := D54 (Or.inl (hw _ (List.mem_of_getElem? (i := 41) rfl))) (ty := .long) (by decide)
  have pre55 : ∀ t, Steps p.tables e below (T54.setTop (mkF m 3 #[.val (.long q0), .second, .val (.long q1), .second, .val (.long q2), .second, .val (.long q3), .second, .val (.int p4), .unset, .unset, .unset, .unset, .unset, .unset, .unset, .unset, .unset, .unset, .unset] [(.ref b54)])) t → Steps p.tables e below (s₁.setTop (entryFrame m #[(.long q0), (.long q1), (.long q2), (.long q3), (.int p4)] maxLocals)) t := fun t k => pre0 t (st54 t k)
  have pre56 : ∀ t, Steps p.tables e below (T54.setTop (mkF m 4 #[.val (.long q0), .second, .val (.long q1), .second, .val (.long q2), .second, .val (.long q3), .second, .val (.int p4), .unset, .unset, .unset, .unset, .unset, .unset, .unset, .unset, .unset, .unset, .unset] [(.ref b54), (.ref b54)])) t → Steps p.tables e below (s₁.setTop (entryFrame m #[(.long q0), (.long q1), (.long q2), (.long q3), (.int p4)] maxLocals)) t := by
    intro t k
    refine pre55 t ?_
    show Steps p.tables e below (T54.setTop (mkF m 3 #[.val (.long q0), .second, .val (.long q1), .second, .val (.long q2), .second, .val (.long q3), .second, .val (.int p4), .unset, .unset, .unset, .unset, .unset, .unset, .unset, .unset, .unset, .unset, .unset] [(.ref b54)])) _
    refine XS.dup X54.here hx rfl (hb hby at_3) rfl rfl ?_
    show Steps p.tables e below (T54.setTop (mkF m 4 #[.val (.long q0), .second, .val (.long q1), .second, .val (.long q2), .second, .val (.long q3), .second, .val (.int p4), .unset, .unset, .unset, .unset, .unset, .unset, .unset, .unset, .unset, .unset, .unset] [(.ref b54), (.ref b54)])) _
    exact k
  obtain ⟨_, _, ⟨T57, L57, k57, n57⟩, -, X57, ⟨Lc57, hQ57, l57, y57, z57⟩, st57⟩ := X54.specialBack hx (y := (⟨"com/example/careful_quorum/carefulquorum/simulation/SimulatedService", "<init>", "()V"⟩ : MethodName)) rfl hown (mvT hZ (hw _ (List.mem_of_getElem? (i := 3) rfl))) (mvT hZ (hw _ (List.mem_of_getElem? (i := 4) rfl))) (mvT hZ (hw _ (List.mem_of_getElem? (i := 5) rfl))) (by decide) (backOf (W := 1) (rm1 l Z a0 hw [] b54 (0 : Int64) (0 : Int64) (0 : Int64) (0 : Int64) h54 n0 Z54 Fcount_b54 Fdigest_b54 Ffired_b54 Fmisfired_b54 A54 g_b54) hZ (hw _ (List.mem_of_getElem? (i := 5) rfl)) (hw _ (List.mem_of_getElem? (i := 2) rfl)) (by decide) (by decide)) (g := (mkF m 4 #[.val (.long q0), .second, .val (.long q1), .second, .val (.long q2), .second, .val (.long q3), .second, .val (.int p4), .unset, .unset, .unset, .unset, .unset, .unset, .unset, .unset, .unset, .unset, .unset] [(.ref b54), (.ref b54)])) rfl (by rw [hml]; rfl) (Steps.refl _) (a := b54) (argsL := []) (rest := [(.ref b54)]) (lenOf pd_0 rfl) rfl (by show 2 * 0 + _ ≤ _; exact Nat.le_of_eq rfl) (hb hby at_4) (fun _ _ => ⟨rfl, e54, (by decide : 1 + 0 ≤ _), (by decide : 5 + 0 ≤ _)⟩)
  dsimp only [Pt.U, Pt.locs, Pt.cells, Pt.slots] at X57 l57 y57 z57 st57 hQ57
  subst l57 y57 z57
  obtain ⟨h57, e57⟩ : ∃ h, T57.heap = h := ⟨_, rfl⟩
  rw [e57] at hQ57
  obtain ⟨rfl, N57q, K57q, Q57_0, Q57_1, Q57_2, Q57_3, Q57_4⟩ := hQ57
  have N57 := Fr.app N0 N57q
  have Z57 : n0 ≤ h57.size := Nat.le_trans Z54 K57q.1
  have K57 : Keep h0 h57 [] := K54.trans K57q (fun x hx => by cases List.mem_singleton.mp hx; exact Or.inr sz_b54)
  have Ef58 : Exa Z h57 b54 "com/example/careful_quorum/carefulquorum/simulation/SimulatedService" := (A54).keep K57q
  have pre59 : ∀ t, Steps p.tables e below (T57.setTop (mkF m 7 #[.val (.long q0), .second, .val (.long q1), .second, .val (.long q2), .second, .val (.long q3), .second, .val (.int p4), .unset, .unset, .unset, .unset, .unset, .unset, .unset, .unset, .unset, .unset, .unset] [(.ref b54)])) t → Steps p.tables e below (s₁.setTop (entryFrame m #[(.long q0), (.long q1), (.long q2), (.long q3), (.int p4)] maxLocals)) t := fun t k => pre56 t (st57.trans k)
  have pre60 : ∀ t, Steps p.tables e below (T57.setTop (mkF m 22 #[.val (.long q0), .second, .val (.long q1), .second, .val (.long q2), .second, .val (.long q3), .second, .val (.int p4), .val (.ref b54), .val (.long (0 : Int64)), .second, .val (.long (0 : Int64)), .second, .unset, .unset, .unset, .unset, .unset, .unset] [(.long q0), (.long (0 : Int64)), (.int (p4 &&& (3 : Int32)))])) t → Steps p.tables e below (s₁.setTop (entryFrame m #[(.long q0), (.long q1), (.long q2), (.long q3), (.int p4)] maxLocals)) t := by
    intro t k
    refine pre59 t ?_
    show Steps p.tables e below (T57.setTop (mkF m 7 #[.val (.long q0), .second, .val (.long q1), .second, .val (.long q2), .second, .val (.long q3), .second, .val (.int p4), .unset, .unset, .unset, .unset, .unset, .unset, .unset, .unset, .unset, .unset, .unset] [(.ref b54)])) _
    refine XS.astore X57.here hx rfl (hb hby at_7) rfl rfl (l' := #[.val (.long q0), .second, .val (.long q1), .second, .val (.long q2), .second, .val (.long q3), .second, .val (.int p4), .val (.ref b54), .unset, .unset, .unset, .unset, .unset, .unset, .unset, .unset, .unset, .unset]) rfl ?_
    show Steps p.tables e below (T57.setTop (mkF m 9 #[.val (.long q0), .second, .val (.long q1), .second, .val (.long q2), .second, .val (.long q3), .second, .val (.int p4), .val (.ref b54), .unset, .unset, .unset, .unset, .unset, .unset, .unset, .unset, .unset, .unset] [])) _
    refine XS.lconst X57.here hx rfl (hb hby at_9) ?_
    show Steps p.tables e below (T57.setTop (mkF m 10 #[.val (.long q0), .second, .val (.long q1), .second, .val (.long q2), .second, .val (.long q3), .second, .val (.int p4), .val (.ref b54), .unset, .unset, .unset, .unset, .unset, .unset, .unset, .unset, .unset, .unset] [(.long (0 : Int64))])) _
    refine XS.lstore X57.here hx rfl (hb hby at_10) rfl (l' := #[.val (.long q0), .second, .val (.long q1), .second, .val (.long q2), .second, .val (.long q3), .second, .val (.int p4), .val (.ref b54), .val (.long (0 : Int64)), .second, .unset, .unset, .unset, .unset, .unset, .unset, .unset, .unset]) rfl ?_
    show Steps p.tables e below (T57.setTop (mkF m 12 #[.val (.long q0), .second, .val (.long q1), .second, .val (.long q2), .second, .val (.long q3), .second, .val (.int p4), .val (.ref b54), .val (.long (0 : Int64)), .second, .unset, .unset, .unset, .unset, .unset, .unset, .unset, .unset] [])) _
    refine XS.lconst X57.here hx rfl (hb hby at_12) ?_
    show Steps p.tables e below (T57.setTop (mkF m 13 #[.val (.long q0), .second, .val (.long q1), .second, .val (.long q2), .second, .val (.long q3), .second, .val (.int p4), .val (.ref b54), .val (.long (0 : Int64)), .second, .unset, .unset, .unset, .unset, .unset, .unset, .unset, .unset] [(.long (0 : Int64))])) _
    refine XS.lstore X57.here hx rfl (hb hby at_13) rfl (l' := #[.val (.long q0), .second, .val (.long q1), .second, .val (.long q2), .second, .val (.long q3), .second, .val (.int p4), .val (.ref b54), .val (.long (0 : Int64)), .second, .val (.long (0 : Int64)), .second, .unset, .unset, .unset, .unset, .unset, .unset]) rfl ?_
    show Steps p.tables e below (T57.setTop (mkF m 15 #[.val (.long q0), .second, .val (.long q1), .second, .val (.long q2), .second, .val (.long q3), .second, .val (.int p4), .val (.ref b54), .val (.long (0 : Int64)), .second, .val (.long (0 : Int64)), .second, .unset, .unset, .unset, .unset, .unset, .unset] [])) _
    refine XS.iload X57.here hx rfl (hb hby at_15) rfl ?_
    show Steps p.tables e below (T57.setTop (mkF m 17 #[.val (.long q0), .second, .val (.long q1), .second, .val (.long q2), .second, .val (.long q3), .second, .val (.int p4), .val (.ref b54), .val (.long (0 : Int64)), .second, .val (.long (0 : Int64)), .second, .unset, .unset, .unset, .unset, .unset, .unset] [(.int p4)])) _
    refine XS.iconst X57.here hx rfl (hb hby at_17) ?_
    show Steps p.tables e below (T57.setTop (mkF m 18 #[.val (.long q0), .second, .val (.long q1), .second, .val (.long q2), .second, .val (.long q3), .second, .val (.int p4), .val (.ref b54), .val (.long (0 : Int64)), .second, .val (.long (0 : Int64)), .second, .unset, .unset, .unset, .unset, .unset, .unset] [(.int (3 : Int32)), (.int p4)])) _
    refine XS.iand X57.here hx rfl (hb hby at_18) rfl ?_
    show Steps p.tables e below (T57.setTop (mkF m 19 #[.val (.long q0), .second, .val (.long q1), .second, .val (.long q2), .second, .val (.long q3), .second, .val (.int p4), .val (.ref b54), .val (.long (0 : Int64)), .second, .val (.long (0 : Int64)), .second, .unset, .unset, .unset, .unset, .unset, .unset] [(.int (p4 &&& (3 : Int32)))])) _
    refine XS.lload X57.here hx rfl (hb hby at_19) rfl ?_
    show Steps p.tables e below (T57.setTop (mkF m 21 #[.val (.long q0), .second, .val (.long q1), .second, .val (.long q2), .second, .val (.long q3), .second, .val (.int p4), .val (.ref b54), .val (.long (0 : Int64)), .second, .val (.long (0 : Int64)), .second, .unset, .unset, .unset, .unset, .unset, .unset] [(.long (0 : Int64)), (.int (p4 &&& (3 : Int32)))])) _
    refine XS.lloadN X57.here hx rfl (hb hby at_21) rfl ?_
    show Steps p.tables e below (T57.setTop (mkF m 22 #[.val (.long q0), .second, .val (.long q1), .second, .val (.long q2), .second, .val (.long q3), .second, .val (.int p4), .val (.ref b54), .val (.long (0 : Int64)), .second, .val (.long (0 : Int64)), .second, .unset, .unset, .unset, .unset, .unset, .unset] [(.long q0), (.long (0 : Int64)), (.int (p4 &&& (3 : Int32)))])) _
    exact k
  obtain ⟨_, _, ⟨T61, L61, k61, n61⟩, -, X61, ⟨Lc61, hQ61, l61, y61, z61⟩, st61⟩ := Jvm.LawKit.callS X57 hx (y := (⟨"com/example/careful_quorum/carefulquorum/simulation/SimulatedServiceTimerFiredPinLaw", "pick", "(IJJ)J"⟩ : MethodName)) hown (mvT hZ (hw _ (List.mem_of_getElem? (i := 12) rfl))) (mvT hZ (hw _ (List.mem_of_getElem? (i := 13) rfl))) (mvT hZ (hw _ (List.mem_of_getElem? (i := 14) rfl))) (mvT hZ (hw _ (List.mem_of_getElem? (i := 15) rfl))) (by decide) (backOf (W := 0) (rm3 l Z a0 hw [] (p4 &&& (3 : Int32)) (0 : Int64) q0 h57 n0 Z57) hZ (hw _ (List.mem_of_getElem? (i := 15) rfl)) (hw _ (List.mem_of_getElem? (i := 14) rfl)) (by decide) (by decide)) (g := (mkF m 22 #[.val (.long q0), .second, .val (.long q1), .second, .val (.long q2), .second, .val (.long q3), .second, .val (.int p4), .val (.ref b54), .val (.long (0 : Int64)), .second, .val (.long (0 : Int64)), .second, .unset, .unset, .unset, .unset, .unset, .unset] [(.long q0), (.long (0 : Int64)), (.int (p4 &&& (3 : Int32)))])) rfl (by rw [hml]; rfl) (argsL := [(.int (p4 &&& (3 : Int32))), (.long (0 : Int64)), (.long q0)]) (rest := []) (lenOf pd_1 rfl) rfl (by show 2 * 0 + _ ≤ _; exact Nat.le_of_eq rfl) (hb hby at_22) (fun _ _ => ⟨rfl, e57, (by decide : 1 + 0 ≤ _), (by decide : 5 + 0 ≤ _)⟩)
  dsimp only [Pt.U, Pt.locs, Pt.cells, Pt.slots] at X61 l61 y61 z61 st61 hQ61
  subst l61 y61 z61
  obtain ⟨rfl, N61q, e61⟩ := hQ61
  have N61 := Fr.app N57 N61q
  have pre62 : ∀ t, Steps p.tables e below (T61.setTop (mkF m 25 #[.val (.long q0), .second, .val (.long q1), .second, .val (.long q2), .second, .val (.long q3), .second, .val (.int p4), .val (.ref b54), .val (.long (0 : Int64)), .second, .val (.long (0 : Int64)), .second, .unset, .unset, .unset, .unset, .unset, .unset] [(.long (f3 (p4 &&& (3 : Int32)) (0 : Int64) q0))])) t → Steps p.tables e below (s₁.setTop (entryFrame m #[(.long q0), (.long q1), (.long q2), (.long q3), (.int p4)] maxLocals)) t := fun t k => pre60 t (st61 t k)
  obtain ⟨u63, hu63⟩ : ∃ z : Int64, z = (f3 (p4 &&& (3 : Int32)) (0 : Int64) q0) := ⟨_, rfl⟩
  have pre64 : ∀ t, Steps p.tables e below (T61.setTop (mkF m 25 #[.val (.long q0), .second, .val (.long q1), .second, .val (.long q2), .second, .val (.long q3), .second, .val (.int p4), .val (.ref b54), .val (.long (0 : Int64)), .second, .val (.long (0 : Int64)), .second, .unset, .unset, .unset, .unset, .unset, .unset] [(.long u63)])) t → Steps p.tables e below (s₁.setTop (entryFrame m #[(.long q0), (.long q1), (.long q2), (.long q3), (.int p4)] maxLocals)) t := by rw [hu63]; exact pre62
  have pre65 : ∀ t, Steps p.tables e below (T61.setTop (mkF m 33 #[.val (.long q0), .second, .val (.long q1), .second, .val (.long q2), .second, .val (.long q3), .second, .val (.int p4), .val (.ref b54), .val (.long (0 : Int64)), .second, .val (.long (0 : Int64)), .second, .val (.long u63), .second, .unset, .unset, .unset, .unset] [(.long q3), (.long u63), (.ref b54)])) t → Steps p.tables e below (s₁.setTop (entryFrame m #[(.long q0), (.long q1), (.long q2), (.long q3), (.int p4)] maxLocals)) t := by
    intro t k
    refine pre64 t ?_
    show Steps p.tables e below (T61.setTop (mkF m 25 #[.val (.long q0), .second, .val (.long q1), .second, .val (.long q2), .second, .val (.long q3), .second, .val (.int p4), .val (.ref b54), .val (.long (0 : Int64)), .second, .val (.long (0 : Int64)), .second, .unset, .unset, .unset, .unset, .unset, .unset] [(.long u63)])) _
    refine XS.lstore X61.here hx rfl (hb hby at_25) rfl (l' := #[.val (.long q0), .second, .val (.long q1), .second, .val (.long q2), .second, .val (.long q3), .second, .val (.int p4), .val (.ref b54), .val (.long (0 : Int64)), .second, .val (.long (0 : Int64)), .second, .val (.long u63), .second, .unset, .unset, .unset, .unset]) rfl ?_
    show Steps p.tables e below (T61.setTop (mkF m 27 #[.val (.long q0), .second, .val (.long q1), .second, .val (.long q2), .second, .val (.long q3), .second, .val (.int p4), .val (.ref b54), .val (.long (0 : Int64)), .second, .val (.long (0 : Int64)), .second, .val (.long u63), .second, .unset, .unset, .unset, .unset] [])) _
    refine XS.aload X61.here hx rfl (hb hby at_27) rfl rfl ?_
    show Steps p.tables e below (T61.setTop (mkF m 29 #[.val (.long q0), .second, .val (.long q1), .second, .val (.long q2), .second, .val (.long q3), .second, .val (.int p4), .val (.ref b54), .val (.long (0 : Int64)), .second, .val (.long (0 : Int64)), .second, .val (.long u63), .second, .unset, .unset, .unset, .unset] [(.ref b54)])) _
    refine XS.lload X61.here hx rfl (hb hby at_29) rfl ?_
    show Steps p.tables e below (T61.setTop (mkF m 31 #[.val (.long q0), .second, .val (.long q1), .second, .val (.long q2), .second, .val (.long q3), .second, .val (.int p4), .val (.ref b54), .val (.long (0 : Int64)), .second, .val (.long (0 : Int64)), .second, .val (.long u63), .second, .unset, .unset, .unset, .unset] [(.long u63), (.ref b54)])) _
    refine XS.lload X61.here hx rfl (hb hby at_31) rfl ?_
    show Steps p.tables e below (T61.setTop (mkF m 33 #[.val (.long q0), .second, .val (.long q1), .second, .val (.long q2), .second, .val (.long q3), .second, .val (.int p4), .val (.ref b54), .val (.long (0 : Int64)), .second, .val (.long (0 : Int64)), .second, .val (.long u63), .second, .unset, .unset, .unset, .unset] [(.long q3), (.long u63), (.ref b54)])) _
    exact k
  obtain ⟨cq66, kq66, q66a, q66b, q66c⟩ := isOf hZ e61 Q57_3
  obtain ⟨_, _, ⟨T66, L66, k66, n66⟩, -, X66, ⟨Lc66, hQ66, l66, y66, z66⟩, st66⟩ := X61.virtualBack hx (y := (⟨"com/example/careful_quorum/carefulquorum/simulation/SimulatedService", "timerFired", "(JJ)V"⟩ : MethodName)) (z := (⟨"com/example/careful_quorum/carefulquorum/simulation/SimulatedService", "timerFired", "(JJ)V"⟩ : MethodName)) hown (mvT hZ (hw _ (List.mem_of_getElem? (i := 16) rfl))) (mvT hZ (hw _ (List.mem_of_getElem? (i := 17) rfl))) (notFace_of_selects (args := #[]) (mvT hZ (hw _ (List.mem_of_getElem? (i := 19) rfl)))) (mvT hZ (hw _ (List.mem_of_getElem? (i := 19) rfl))) (mvT hZ (hw _ (List.mem_of_getElem? (i := 18) rfl))) (by decide) (backOf (W := 0) (rm4 l Z a0 hw [] b54 u63 q3 (0 : Int64) (-3750763034362895579 : Int64) (0 : Int64) (0 : Int64) h57 n0 Z57 Q57_0 Q57_4 Q57_1 Q57_2 Q57_3 g_b54) hZ (hw _ (List.mem_of_getElem? (i := 20) rfl)) (hw _ (List.mem_of_getElem? (i := 2) rfl)) (by decide) (by decide)) q66a q66c (g := (mkF m 33 #[.val (.long q0), .second, .val (.long q1), .second, .val (.long q2), .second, .val (.long q3), .second, .val (.int p4), .val (.ref b54), .val (.long (0 : Int64)), .second, .val (.long (0 : Int64)), .second, .val (.long u63), .second, .unset, .unset, .unset, .unset] [(.long q3), (.long u63), (.ref b54)])) rfl (by rw [hml]; rfl) (Steps.refl _) (argsL := [(.long u63), (.long q3)]) (rest := []) (lenOf pd_2 rfl) rfl (by show 2 * 0 + _ ≤ _; exact Nat.le_of_eq rfl) (hb hby at_33) (fun _ _ => ⟨rfl, e61, (by decide : 1 + 0 ≤ _), (by decide : 5 + 0 ≤ _)⟩)
  dsimp only [Pt.U, Pt.locs, Pt.cells, Pt.slots] at X66 l66 y66 z66 st66 hQ66
  subst l66 y66 z66
  obtain ⟨h66, e66⟩ : ∃ h, T66.heap = h := ⟨_, rfl⟩
  rw [e66] at hQ66
  obtain ⟨rfl, N66q, K66q, Q66_0, Q66_1, Q66_2, Q66_3, Q66_4⟩ := hQ66
  have N66 := Fr.app N61 N66q
  have Z66 : n0 ≤ h66.size := Nat.le_trans Z57 K66q.1
  have K66 : Keep h0 h66 [] := K57.trans K66q (fun x hx => by cases List.mem_singleton.mp hx; exact Or.inr sz_b54)
  have Ef67 : Exa Z h66 b54 "com/example/careful_quorum/carefulquorum/simulation/SimulatedService" := (Q57_3).keep K66q
  have pre68 : ∀ t, Steps p.tables e below (T66.setTop (mkF m 36 #[.val (.long q0), .second, .val (.long q1), .second, .val (.long q2), .second, .val (.long q3), .second, .val (.int p4), .val (.ref b54), .val (.long (0 : Int64)), .second, .val (.long (0 : Int64)), .second, .val (.long u63), .second, .unset, .unset, .unset, .unset] [])) t → Steps p.tables e below (s₁.setTop (entryFrame m #[(.long q0), (.long q1), (.long q2), (.long q3), (.int p4)] maxLocals)) t := fun t k => pre65 t (st66.trans k)
  have pre69 : ∀ t, Steps p.tables e below (T66.setTop (mkF m 43 #[.val (.long q0), .second, .val (.long q1), .second, .val (.long q2), .second, .val (.long q3), .second, .val (.int p4), .val (.ref b54), .val (.long (0 : Int64)), .second, .val (.long (0 : Int64)), .second, .val (.long u63), .second, .unset, .unset, .unset, .unset] [(.int (lcmpW u63 ((0 : Int64) + (1 : Int64))))])) t → Steps p.tables e below (s₁.setTop (entryFrame m #[(.long q0), (.long q1), (.long q2), (.long q3), (.int p4)] maxLocals)) t := by
    intro t k
    refine pre68 t ?_
    show Steps p.tables e below (T66.setTop (mkF m 36 #[.val (.long q0), .second, .val (.long q1), .second, .val (.long q2), .second, .val (.long q3), .second, .val (.int p4), .val (.ref b54), .val (.long (0 : Int64)), .second, .val (.long (0 : Int64)), .second, .val (.long u63), .second, .unset, .unset, .unset, .unset] [])) _
    refine XS.lload X66.here hx rfl (hb hby at_36) rfl ?_
    show Steps p.tables e below (T66.setTop (mkF m 38 #[.val (.long q0), .second, .val (.long q1), .second, .val (.long q2), .second, .val (.long q3), .second, .val (.int p4), .val (.ref b54), .val (.long (0 : Int64)), .second, .val (.long (0 : Int64)), .second, .val (.long u63), .second, .unset, .unset, .unset, .unset] [(.long u63)])) _
    refine XS.lload X66.here hx rfl (hb hby at_38) rfl ?_
    show Steps p.tables e below (T66.setTop (mkF m 40 #[.val (.long q0), .second, .val (.long q1), .second, .val (.long q2), .second, .val (.long q3), .second, .val (.int p4), .val (.ref b54), .val (.long (0 : Int64)), .second, .val (.long (0 : Int64)), .second, .val (.long u63), .second, .unset, .unset, .unset, .unset] [(.long (0 : Int64)), (.long u63)])) _
    refine XS.lconst X66.here hx rfl (hb hby at_40) ?_
    show Steps p.tables e below (T66.setTop (mkF m 41 #[.val (.long q0), .second, .val (.long q1), .second, .val (.long q2), .second, .val (.long q3), .second, .val (.int p4), .val (.ref b54), .val (.long (0 : Int64)), .second, .val (.long (0 : Int64)), .second, .val (.long u63), .second, .unset, .unset, .unset, .unset] [(.long (1 : Int64)), (.long (0 : Int64)), (.long u63)])) _
    refine XS.ladd X66.here hx rfl (hb hby at_41) rfl ?_
    show Steps p.tables e below (T66.setTop (mkF m 42 #[.val (.long q0), .second, .val (.long q1), .second, .val (.long q2), .second, .val (.long q3), .second, .val (.int p4), .val (.ref b54), .val (.long (0 : Int64)), .second, .val (.long (0 : Int64)), .second, .val (.long u63), .second, .unset, .unset, .unset, .unset] [(.long ((0 : Int64) + (1 : Int64))), (.long u63)])) _
    refine XS.lcmp X66.here hx rfl (hb hby at_42) rfl ?_
    show Steps p.tables e below (T66.setTop (mkF m 43 #[.val (.long q0), .second, .val (.long q1), .second, .val (.long q2), .second, .val (.long q3), .second, .val (.int p4), .val (.ref b54), .val (.long (0 : Int64)), .second, .val (.long (0 : Int64)), .second, .val (.long u63), .second, .unset, .unset, .unset, .unset] [(.int (lcmpW u63 ((0 : Int64) + (1 : Int64))))])) _
    exact k
  obtain ⟨u73, u74, pre75, hu73, hu74⟩ : ∃ (u73 : Int64) (u74 : Int64), (∀ t, Steps p.tables e below (T66.setTop (mkF m 61 #[.val (.long q0), .second, .val (.long q1), .second, .val (.long q2), .second, .val (.long q3), .second, .val (.int p4), .val (.ref b54), .val (.long u73), .second, .val (.long u74), .second, .val (.long u63), .second, .unset, .unset, .unset, .unset] [])) t → Steps p.tables e below (s₁.setTop (entryFrame m #[(.long q0), (.long q1), (.long q2), (.long q3), (.int p4)] maxLocals)) t) ∧ u73 = (if u63 = ((0 : Int64) + (1 : Int64)) then ((0 : Int64) + (1 : Int64)) else (0 : Int64)) ∧ u74 = (if u63 = ((0 : Int64) + (1 : Int64)) then (0 : Int64) else ((0 : Int64) + (1 : Int64))) := by
    by_cases hc43_70 : u63 = ((0 : Int64) + (1 : Int64))
    · have pre71 : ∀ t, Steps p.tables e below (T66.setTop (mkF m 61 #[.val (.long q0), .second, .val (.long q1), .second, .val (.long q2), .second, .val (.long q3), .second, .val (.int p4), .val (.ref b54), .val (.long ((0 : Int64) + (1 : Int64))), .second, .val (.long (0 : Int64)), .second, .val (.long u63), .second, .unset, .unset, .unset, .unset] [])) t → Steps p.tables e below (s₁.setTop (entryFrame m #[(.long q0), (.long q1), (.long q2), (.long q3), (.int p4)] maxLocals)) t := by
        intro t k
        refine pre69 t ?_
        show Steps p.tables e below (T66.setTop (mkF m 43 #[.val (.long q0), .second, .val (.long q1), .second, .val (.long q2), .second, .val (.long q3), .second, .val (.int p4), .val (.ref b54), .val (.long (0 : Int64)), .second, .val (.long (0 : Int64)), .second, .val (.long u63), .second, .unset, .unset, .unset, .unset] [(.int (lcmpW u63 ((0 : Int64) + (1 : Int64))))])) _
        refine XS.ifNo X66.here hx rfl (hb hby at_43) rfl ((if0 _ _).trans (teq (own_eqL hc43_70)).2) ?_
        show Steps p.tables e below (T66.setTop (mkF m 46 #[.val (.long q0), .second, .val (.long q1), .second, .val (.long q2), .second, .val (.long q3), .second, .val (.int p4), .val (.ref b54), .val (.long (0 : Int64)), .second, .val (.long (0 : Int64)), .second, .val (.long u63), .second, .unset, .unset, .unset, .unset] [])) _
        refine XS.lload X66.here hx rfl (hb hby at_46) rfl ?_
        show Steps p.tables e below (T66.setTop (mkF m 48 #[.val (.long q0), .second, .val (.long q1), .second, .val (.long q2), .second, .val (.long q3), .second, .val (.int p4), .val (.ref b54), .val (.long (0 : Int64)), .second, .val (.long (0 : Int64)), .second, .val (.long u63), .second, .unset, .unset, .unset, .unset] [(.long (0 : Int64))])) _
        refine XS.lconst X66.here hx rfl (hb hby at_48) ?_
        show Steps p.tables e below (T66.setTop (mkF m 49 #[.val (.long q0), .second, .val (.long q1), .second, .val (.long q2), .second, .val (.long q3), .second, .val (.int p4), .val (.ref b54), .val (.long (0 : Int64)), .second, .val (.long (0 : Int64)), .second, .val (.long u63), .second, .unset, .unset, .unset, .unset] [(.long (1 : Int64)), (.long (0 : Int64))])) _
        refine XS.ladd X66.here hx rfl (hb hby at_49) rfl ?_
        show Steps p.tables e below (T66.setTop (mkF m 50 #[.val (.long q0), .second, .val (.long q1), .second, .val (.long q2), .second, .val (.long q3), .second, .val (.int p4), .val (.ref b54), .val (.long (0 : Int64)), .second, .val (.long (0 : Int64)), .second, .val (.long u63), .second, .unset, .unset, .unset, .unset] [(.long ((0 : Int64) + (1 : Int64)))])) _
        refine XS.lstore X66.here hx rfl (hb hby at_50) rfl (l' := #[.val (.long q0), .second, .val (.long q1), .second, .val (.long q2), .second, .val (.long q3), .second, .val (.int p4), .val (.ref b54), .val (.long ((0 : Int64) + (1 : Int64))), .second, .val (.long (0 : Int64)), .second, .val (.long u63), .second, .unset, .unset, .unset, .unset]) rfl ?_
        show Steps p.tables e below (T66.setTop (mkF m 52 #[.val (.long q0), .second, .val (.long q1), .second, .val (.long q2), .second, .val (.long q3), .second, .val (.int p4), .val (.ref b54), .val (.long ((0 : Int64) + (1 : Int64))), .second, .val (.long (0 : Int64)), .second, .val (.long u63), .second, .unset, .unset, .unset, .unset] [])) _
        refine XS.goto X66.here hx rfl (pc0 := 52) (pc' := 61) rfl (hb hby at_52) (by decide) (by decide) ?_
        show Steps p.tables e below (T66.setTop (mkF m 61 #[.val (.long q0), .second, .val (.long q1), .second, .val (.long q2), .second, .val (.long q3), .second, .val (.int p4), .val (.ref b54), .val (.long ((0 : Int64) + (1 : Int64))), .second, .val (.long (0 : Int64)), .second, .val (.long u63), .second, .unset, .unset, .unset, .unset] [])) _
        exact k
      exact ⟨((0 : Int64) + (1 : Int64)), (0 : Int64), pre71, by rw [if_pos hc43_70], by rw [if_pos hc43_70]⟩
    · have pre72 : ∀ t, Steps p.tables e below (T66.setTop (mkF m 61 #[.val (.long q0), .second, .val (.long q1), .second, .val (.long q2), .second, .val (.long q3), .second, .val (.int p4), .val (.ref b54), .val (.long (0 : Int64)), .second, .val (.long ((0 : Int64) + (1 : Int64))), .second, .val (.long u63), .second, .unset, .unset, .unset, .unset] [])) t → Steps p.tables e below (s₁.setTop (entryFrame m #[(.long q0), (.long q1), (.long q2), (.long q3), (.int p4)] maxLocals)) t := by
        intro t k
        refine pre69 t ?_
        show Steps p.tables e below (T66.setTop (mkF m 43 #[.val (.long q0), .second, .val (.long q1), .second, .val (.long q2), .second, .val (.long q3), .second, .val (.int p4), .val (.ref b54), .val (.long (0 : Int64)), .second, .val (.long (0 : Int64)), .second, .val (.long u63), .second, .unset, .unset, .unset, .unset] [(.int (lcmpW u63 ((0 : Int64) + (1 : Int64))))])) _
        refine XS.ifYes X66.here hx rfl (pc0 := 43) (pc' := 55) rfl (hb hby at_43) rfl ((if0 _ _).trans (feq (own_neL hc43_70)).2) (by decide) (by decide) ?_
        show Steps p.tables e below (T66.setTop (mkF m 55 #[.val (.long q0), .second, .val (.long q1), .second, .val (.long q2), .second, .val (.long q3), .second, .val (.int p4), .val (.ref b54), .val (.long (0 : Int64)), .second, .val (.long (0 : Int64)), .second, .val (.long u63), .second, .unset, .unset, .unset, .unset] [])) _
        refine XS.lload X66.here hx rfl (hb hby at_55) rfl ?_
        show Steps p.tables e below (T66.setTop (mkF m 57 #[.val (.long q0), .second, .val (.long q1), .second, .val (.long q2), .second, .val (.long q3), .second, .val (.int p4), .val (.ref b54), .val (.long (0 : Int64)), .second, .val (.long (0 : Int64)), .second, .val (.long u63), .second, .unset, .unset, .unset, .unset] [(.long (0 : Int64))])) _
        refine XS.lconst X66.here hx rfl (hb hby at_57) ?_
        show Steps p.tables e below (T66.setTop (mkF m 58 #[.val (.long q0), .second, .val (.long q1), .second, .val (.long q2), .second, .val (.long q3), .second, .val (.int p4), .val (.ref b54), .val (.long (0 : Int64)), .second, .val (.long (0 : Int64)), .second, .val (.long u63), .second, .unset, .unset, .unset, .unset] [(.long (1 : Int64)), (.long (0 : Int64))])) _
        refine XS.ladd X66.here hx rfl (hb hby at_58) rfl ?_
        show Steps p.tables e below (T66.setTop (mkF m 59 #[.val (.long q0), .second, .val (.long q1), .second, .val (.long q2), .second, .val (.long q3), .second, .val (.int p4), .val (.ref b54), .val (.long (0 : Int64)), .second, .val (.long (0 : Int64)), .second, .val (.long u63), .second, .unset, .unset, .unset, .unset] [(.long ((0 : Int64) + (1 : Int64)))])) _
        refine XS.lstore X66.here hx rfl (hb hby at_59) rfl (l' := #[.val (.long q0), .second, .val (.long q1), .second, .val (.long q2), .second, .val (.long q3), .second, .val (.int p4), .val (.ref b54), .val (.long (0 : Int64)), .second, .val (.long ((0 : Int64) + (1 : Int64))), .second, .val (.long u63), .second, .unset, .unset, .unset, .unset]) rfl ?_
        show Steps p.tables e below (T66.setTop (mkF m 61 #[.val (.long q0), .second, .val (.long q1), .second, .val (.long q2), .second, .val (.long q3), .second, .val (.int p4), .val (.ref b54), .val (.long (0 : Int64)), .second, .val (.long ((0 : Int64) + (1 : Int64))), .second, .val (.long u63), .second, .unset, .unset, .unset, .unset] [])) _
        exact k
      exact ⟨(0 : Int64), ((0 : Int64) + (1 : Int64)), pre72, by rw [if_neg hc43_70], by rw [if_neg hc43_70]⟩
  have pre76 : ∀ t, Steps p.tables e below (T66.setTop (mkF m 70 #[.val (.long q0), .second, .val (.long q1), .second, .val (.long q2), .second, .val (.long q3), .second, .val (.int p4), .val (.ref b54), .val (.long u73), .second, .val (.long u74), .second, .val (.long u63), .second, .unset, .unset, .unset, .unset] [(.long q1), (.long u73), (.int (((p4.toUInt32 >>> ((2 : Int32) &&& 31).toUInt32).toInt32) &&& (3 : Int32)))])) t → Steps p.tables e below (s₁.setTop (entryFrame m #[(.long q0), (.long q1), (.long q2), (.long q3), (.int p4)] maxLocals)) t := by
    intro t k
    refine pre75 t ?_
    show Steps p.tables e below (T66.setTop (mkF m 61 #[.val (.long q0), .second, .val (.long q1), .second, .val (.long q2), .second, .val (.long q3), .second, .val (.int p4), .val (.ref b54), .val (.long u73), .second, .val (.long u74), .second, .val (.long u63), .second, .unset, .unset, .unset, .unset] [])) _
    refine XS.iload X66.here hx rfl (hb hby at_61) rfl ?_
    show Steps p.tables e below (T66.setTop (mkF m 63 #[.val (.long q0), .second, .val (.long q1), .second, .val (.long q2), .second, .val (.long q3), .second, .val (.int p4), .val (.ref b54), .val (.long u73), .second, .val (.long u74), .second, .val (.long u63), .second, .unset, .unset, .unset, .unset] [(.int p4)])) _
    refine XS.iconst X66.here hx rfl (hb hby at_63) ?_
    show Steps p.tables e below (T66.setTop (mkF m 64 #[.val (.long q0), .second, .val (.long q1), .second, .val (.long q2), .second, .val (.long q3), .second, .val (.int p4), .val (.ref b54), .val (.long u73), .second, .val (.long u74), .second, .val (.long u63), .second, .unset, .unset, .unset, .unset] [(.int (2 : Int32)), (.int p4)])) _
    refine XS.iushr X66.here hx rfl (hb hby at_64) rfl ?_
    show Steps p.tables e below (T66.setTop (mkF m 65 #[.val (.long q0), .second, .val (.long q1), .second, .val (.long q2), .second, .val (.long q3), .second, .val (.int p4), .val (.ref b54), .val (.long u73), .second, .val (.long u74), .second, .val (.long u63), .second, .unset, .unset, .unset, .unset] [(.int ((p4.toUInt32 >>> ((2 : Int32) &&& 31).toUInt32).toInt32))])) _
    refine XS.iconst X66.here hx rfl (hb hby at_65) ?_
    show Steps p.tables e below (T66.setTop (mkF m 66 #[.val (.long q0), .second, .val (.long q1), .second, .val (.long q2), .second, .val (.long q3), .second, .val (.int p4), .val (.ref b54), .val (.long u73), .second, .val (.long u74), .second, .val (.long u63), .second, .unset, .unset, .unset, .unset] [(.int (3 : Int32)), (.int ((p4.toUInt32 >>> ((2 : Int32) &&& 31).toUInt32).toInt32))])) _
    refine XS.iand X66.here hx rfl (hb hby at_66) rfl ?_
    show Steps p.tables e below (T66.setTop (mkF m 67 #[.val (.long q0), .second, .val (.long q1), .second, .val (.long q2), .second, .val (.long q3), .second, .val (.int p4), .val (.ref b54), .val (.long u73), .second, .val (.long u74), .second, .val (.long u63), .second, .unset, .unset, .unset, .unset] [(.int (((p4.toUInt32 >>> ((2 : Int32) &&& 31).toUInt32).toInt32) &&& (3 : Int32)))])) _
    refine XS.lload X66.here hx rfl (hb hby at_67) rfl ?_
    show Steps p.tables e below (T66.setTop (mkF m 69 #[.val (.long q0), .second, .val (.long q1), .second, .val (.long q2), .second, .val (.long q3), .second, .val (.int p4), .val (.ref b54), .val (.long u73), .second, .val (.long u74), .second, .val (.long u63), .second, .unset, .unset, .unset, .unset] [(.long u73), (.int (((p4.toUInt32 >>> ((2 : Int32) &&& 31).toUInt32).toInt32) &&& (3 : Int32)))])) _
    refine XS.lloadN X66.here hx rfl (hb hby at_69) rfl ?_
    show Steps p.tables e below (T66.setTop (mkF m 70 #[.val (.long q0), .second, .val (.long q1), .second, .val (.long q2), .second, .val (.long q3), .second, .val (.int p4), .val (.ref b54), .val (.long u73), .second, .val (.long u74), .second, .val (.long u63), .second, .unset, .unset, .unset, .unset] [(.long q1), (.long u73), (.int (((p4.toUInt32 >>> ((2 : Int32) &&& 31).toUInt32).toInt32) &&& (3 : Int32)))])) _
    exact k
  obtain ⟨_, _, ⟨T77, L77, k77, n77⟩, -, X77, ⟨Lc77, hQ77, l77, y77, z77⟩, st77⟩ := Jvm.LawKit.callS X66 hx (y := (⟨"com/example/careful_quorum/carefulquorum/simulation/SimulatedServiceTimerFiredPinLaw", "pick", "(IJJ)J"⟩ : MethodName)) hown (mvT hZ (hw _ (List.mem_of_getElem? (i := 12) rfl))) (mvT hZ (hw _ (List.mem_of_getElem? (i := 13) rfl))) (mvT hZ (hw _ (List.mem_of_getElem? (i := 14) rfl))) (mvT hZ (hw _ (List.mem_of_getElem? (i := 15) rfl))) (by decide) (backOf (W := 0) (rm3 l Z a0 hw [] (((p4.toUInt32 >>> ((2 : Int32) &&& 31).toUInt32).toInt32) &&& (3 : Int32)) u73 q1 h66 n0 Z66) hZ (hw _ (List.mem_of_getElem? (i := 15) rfl)) (hw _ (List.mem_of_getElem? (i := 14) rfl)) (by decide) (by decide)) (g := (mkF m 70 #[.val (.long q0), .second, .val (.long q1), .second, .val (.long q2), .second, .val (.long q3), .second, .val (.int p4), .val (.ref b54), .val (.long u73), .second, .val (.long u74), .second, .val (.long u63), .second, .unset, .unset, .unset, .unset] [(.long q1), (.long u73), (.int (((p4.toUInt32 >>> ((2 : Int32) &&& 31).toUInt32).toInt32) &&& (3 : Int32)))])) rfl (by rw [hml]; rfl) (argsL := [(.int (((p4.toUInt32 >>> ((2 : Int32) &&& 31).toUInt32).toInt32) &&& (3 : Int32))), (.long u73), (.long q1)]) (rest := []) (lenOf pd_1 rfl) rfl (by show 2 * 0 + _ ≤ _; exact Nat.le_of_eq rfl) (hb hby at_70) (fun _ _ => ⟨rfl, e66, (by decide : 1 + 0 ≤ _), (by decide : 5 + 0 ≤ _)⟩)
  dsimp only [Pt.U, Pt.locs, Pt.cells, Pt.slots] at X77 l77 y77 z77 st77 hQ77
  subst l77 y77 z77
  obtain ⟨rfl, N77q, e77⟩ := hQ77
  have N77 := Fr.app N66 N77q
  have pre78 : ∀ t, Steps p.tables e below (T77.setTop (mkF m 73 #[.val (.long q0), .second, .val (.long q1), .second, .val (.long q2), .second, .val (.long q3), .second, .val (.int p4), .val (.ref b54), .val (.long u73), .second, .val (.long u74), .second, .val (.long u63), .second, .unset, .unset, .unset, .unset] [(.long (f3 (((p4.toUInt32 >>> ((2 : Int32) &&& 31).toUInt32).toInt32) &&& (3 : Int32)) u73 q1))])) t → Steps p.tables e below (s₁.setTop (entryFrame m #[(.long q0), (.long q1), (.long q2), (.long q3), (.int p4)] maxLocals)) t := fun t k => pre76 t (st77 t k)
  obtain ⟨u79, hu79⟩ : ∃ z : Int64, z = (f3 (((p4.toUInt32 >>> ((2 : Int32) &&& 31).toUInt32).toInt32) &&& (3 : Int32)) u73 q1) := ⟨_, rfl⟩
  have pre80 : ∀ t, Steps p.tables e below (T77.setTop (mkF m 73 #[.val (.long q0), .second, .val (.long q1), .second, .val (.long q2), .second, .val (.long q3), .second, .val (.int p4), .val (.ref b54), .val (.long u73), .second, .val (.long u74), .second, .val (.long u63), .second, .unset, .unset, .unset, .unset] [(.long u79)])) t → Steps p.tables e below (s₁.setTop (entryFrame m #[(.long q0), (.long q1), (.long q2), (.long q3), (.int p4)] maxLocals)) t := by rw [hu79]; exact pre78
  have pre81 : ∀ t, Steps p.tables e below (T77.setTop (mkF m 83 #[.val (.long q0), .second, .val (.long q1), .second, .val (.long q2), .second, .val (.long q3), .second, .val (.int p4), .val (.ref b54), .val (.long u73), .second, .val (.long u74), .second, .val (.long u63), .second, .val (.long u79), .second, .unset, .unset] [(.long (q3 ^^^ q0)), (.long u79), (.ref b54)])) t → Steps p.tables e below (s₁.setTop (entryFrame m #[(.long q0), (.long q1), (.long q2), (.long q3), (.int p4)] maxLocals)) t := by
    intro t k
    refine pre80 t ?_
    show Steps p.tables e below (T77.setTop (mkF m 73 #[.val (.long q0), .second, .val (.long q1), .second, .val (.long q2), .second, .val (.long q3), .second, .val (.int p4), .val (.ref b54), .val (.long u73), .second, .val (.long u74), .second, .val (.long u63), .second, .unset, .unset, .unset, .unset] [(.long u79)])) _
    refine XS.lstore X77.here hx rfl (hb hby at_73) rfl (l' := #[.val (.long q0), .second, .val (.long q1), .second, .val (.long q2), .second, .val (.long q3), .second, .val (.int p4), .val (.ref b54), .val (.long u73), .second, .val (.long u74), .second, .val (.long u63), .second, .val (.long u79), .second, .unset, .unset]) rfl ?_
    show Steps p.tables e below (T77.setTop (mkF m 75 #[.val (.long q0), .second, .val (.long q1), .second, .val (.long q2), .second, .val (.long q3), .second, .val (.int p4), .val (.ref b54), .val (.long u73), .second, .val (.long u74), .second, .val (.long u63), .second, .val (.long u79), .second, .unset, .unset] [])) _
    refine XS.aload X77.here hx rfl (hb hby at_75) rfl rfl ?_
    show Steps p.tables e below (T77.setTop (mkF m 77 #[.val (.long q0), .second, .val (.long q1), .second, .val (.long q2), .second, .val (.long q3), .second, .val (.int p4), .val (.ref b54), .val (.long u73), .second, .val (.long u74), .second, .val (.long u63), .second, .val (.long u79), .second, .unset, .unset] [(.ref b54)])) _
    refine XS.lload X77.here hx rfl (hb hby at_77) rfl ?_
    show Steps p.tables e below (T77.setTop (mkF m 79 #[.val (.long q0), .second, .val (.long q1), .second, .val (.long q2), .second, .val (.long q3), .second, .val (.int p4), .val (.ref b54), .val (.long u73), .second, .val (.long u74), .second, .val (.long u63), .second, .val (.long u79), .second, .unset, .unset] [(.long u79), (.ref b54)])) _
    refine XS.lload X77.here hx rfl (hb hby at_79) rfl ?_
    show Steps p.tables e below (T77.setTop (mkF m 81 #[.val (.long q0), .second, .val (.long q1), .second, .val (.long q2), .second, .val (.long q3), .second, .val (.int p4), .val (.ref b54), .val (.long u73), .second, .val (.long u74), .second, .val (.long u63), .second, .val (.long u79), .second, .unset, .unset] [(.long q3), (.long u79), (.ref b54)])) _
    refine XS.lloadN X77.here hx rfl (hb hby at_81) rfl ?_
    show Steps p.tables e below (T77.setTop (mkF m 82 #[.val (.long q0), .second, .val (.long q1), .second, .val (.long q2), .second, .val (.long q3), .second, .val (.int p4), .val (.ref b54), .val (.long u73), .second, .val (.long u74), .second, .val (.long u63), .second, .val (.long u79), .second, .unset, .unset] [(.long q0), (.long q3), (.long u79), (.ref b54)])) _
    refine XS.lxor X77.here hx rfl (hb hby at_82) rfl ?_
    show Steps p.tables e below (T77.setTop (mkF m 83 #[.val (.long q0), .second, .val (.long q1), .second, .val (.long q2), .second, .val (.long q3), .second, .val (.int p4), .val (.ref b54), .val (.long u73), .second, .val (.long u74), .second, .val (.long u63), .second, .val (.long u79), .second, .unset, .unset] [(.long (q3 ^^^ q0)), (.long u79), (.ref b54)])) _
    exact k
  obtain ⟨cq82, kq82, q82a, q82b, q82c⟩ := isOf hZ e77 Q66_3
  obtain ⟨_, _, ⟨T82, L82, k82, n82⟩, -, X82, ⟨Lc82, hQ82, l82, y82, z82⟩, st82⟩ := X77.virtualBack hx (y := (⟨"com/example/careful_quorum/carefulquorum/simulation/SimulatedService", "timerFired", "(JJ)V"⟩ : MethodName)) (z := (⟨"com/example/careful_quorum/carefulquorum/simulation/SimulatedService", "timerFired", "(JJ)V"⟩ : MethodName)) hown (mvT hZ (hw _ (List.mem_of_getElem? (i := 16) rfl))) (mvT hZ (hw _ (List.mem_of_getElem? (i := 17) rfl))) (notFace_of_selects (args := #[]) (mvT hZ (hw _ (List.mem_of_getElem? (i := 19) rfl)))) (mvT hZ (hw _ (List.mem_of_getElem? (i := 19) rfl))) (mvT hZ (hw _ (List.mem_of_getElem? (i := 18) rfl))) (by decide) (backOf (W := 0) (rm4 l Z a0 hw [] b54 u79 (q3 ^^^ q0) (0 : Int64) (-3750763034362895579 : Int64) (g4_fired u63 (0 : Int64)) (g4_misfired u63 (0 : Int64) (0 : Int64)) h66 n0 Z66 Q66_0 Q66_1 Q66_4 Q66_2 Q66_3 g_b54) hZ (hw _ (List.mem_of_getElem? (i := 20) rfl)) (hw _ (List.mem_of_getElem? (i := 2) rfl)) (by decide) (by decide)) q82a q82c (g := (mkF m 83 #[.val (.long q0), .second, .val (.long q1), .second, .val (.long q2), .second, .val (.long q3), .second, .val (.int p4), .val (.ref b54), .val (.long u73), .second, .val (.long u74), .second, .val (.long u63), .second, .val (.long u79), .second, .unset, .unset] [(.long (q3 ^^^ q0)), (.long u79), (.ref b54)])) rfl (by rw [hml]; rfl) (Steps.refl _) (argsL := [(.long u79), (.long (q3 ^^^ q0))]) (rest := []) (lenOf pd_2 rfl) rfl (by show 2 * 0 + _ ≤ _; exact Nat.le_of_eq rfl) (hb hby at_83) (fun _ _ => ⟨rfl, e77, (by decide : 1 + 0 ≤ _), (by decide : 5 + 0 ≤ _)⟩)
  dsimp only [Pt.U, Pt.locs, Pt.cells, Pt.slots] at X82 l82 y82 z82 st82 hQ82
  subst l82 y82 z82
  obtain ⟨h82, e82⟩ : ∃ h, T82.heap = h := ⟨_, rfl⟩
  rw [e82] at hQ82
  obtain ⟨rfl, N82q, K82q, Q82_0, Q82_1, Q82_2, Q82_3, Q82_4⟩ := hQ82
  have N82 := Fr.app N77 N82q
  have Z82 : n0 ≤ h82.size := Nat.le_trans Z66 K82q.1
  have K82 : Keep h0 h82 [] := K66.trans K82q (fun x hx => by cases List.mem_singleton.mp hx; exact Or.inr sz_b54)
  have Ef83 : Exa Z h82 b54 "com/example/careful_quorum/carefulquorum/simulation/SimulatedService" := (Q66_3).keep K82q
  have pre84 : ∀ t, Steps p.tables e below (T82.setTop (mkF m 86 #[.val (.long q0), .second, .val (.long q1), .second, .val (.long q2), .second, .val (.long q3), .second, .val (.int p4), .val (.ref b54), .val (.long u73), .second, .val (.long u74), .second, .val (.long u63), .second, .val (.long u79), .second, .unset, .unset] [])) t → Steps p.tables e below (s₁.setTop (entryFrame m #[(.long q0), (.long q1), (.long q2), (.long q3), (.int p4)] maxLocals)) t := fun t k => pre81 t (st82.trans k)
  have pre85 : ∀ t, Steps p.tables e below (T82.setTop (mkF m 93 #[.val (.long q0), .second, .val (.long q1), .second, .val (.long q2), .second, .val (.long q3), .second, .val (.int p4), .val (.ref b54), .val (.long u73), .second, .val (.long u74), .second, .val (.long u63), .second, .val (.long u79), .second, .unset, .unset] [(.int (lcmpW u79 (u73 + (1 : Int64))))])) t → Steps p.tables e below (s₁.setTop (entryFrame m #[(.long q0), (.long q1), (.long q2), (.long q3), (.int p4)] maxLocals)) t := by
    intro t k
    refine pre84 t ?_
    show Steps p.tables e below (T82.setTop (mkF m 86 #[.val (.long q0), .second, .val (.long q1), .second, .val (.long q2), .second, .val (.long q3), .second, .val (.int p4), .val (.ref b54), .val (.long u73), .second, .val (.long u74), .second, .val (.long u63), .second, .val (.long u79), .second, .unset, .unset] [])) _
    refine XS.lload X82.here hx rfl (hb hby at_86) rfl ?_
    show Steps p.tables e below (T82.setTop (mkF m 88 #[.val (.long q0), .second, .val (.long q1), .second, .val (.long q2), .second, .val (.long q3), .second, .val (.int p4), .val (.ref b54), .val (.long u73), .second, .val (.long u74), .second, .val (.long u63), .second, .val (.long u79), .second, .unset, .unset] [(.long u79)])) _
    refine XS.lload X82.here hx rfl (hb hby at_88) rfl ?_
    show Steps p.tables e below (T82.setTop (mkF m 90 #[.val (.long q0), .second, .val (.long q1), .second, .val (.long q2), .second, .val (.long q3), .second, .val (.int p4), .val (.ref b54), .val (.long u73), .second, .val (.long u74), .second, .val (.long u63), .second, .val (.long u79), .second, .unset, .unset] [(.long u73), (.long u79)])) _
    refine XS.lconst X82.here hx rfl (hb hby at_90) ?_
    show Steps p.tables e below (T82.setTop (mkF m 91 #[.val (.long q0), .second, .val (.long q1), .second, .val (.long q2), .second, .val (.long q3), .second, .val (.int p4), .val (.ref b54), .val (.long u73), .second, .val (.long u74), .second, .val (.long u63), .second, .val (.long u79), .second, .unset, .unset] [(.long (1 : Int64)), (.long u73), (.long u79)])) _
    refine XS.ladd X82.here hx rfl (hb hby at_91) rfl ?_
    show Steps p.tables e below (T82.setTop (mkF m 92 #[.val (.long q0), .second, .val (.long q1), .second, .val (.long q2), .second, .val (.long q3), .second, .val (.int p4), .val (.ref b54), .val (.long u73), .second, .val (.long u74), .second, .val (.long u63), .second, .val (.long u79), .second, .unset, .unset] [(.long (u73 + (1 : Int64))), (.long u79)])) _
    refine XS.lcmp X82.here hx rfl (hb hby at_92) rfl ?_
    show Steps p.tables e below (T82.setTop (mkF m 93 #[.val (.long q0), .second, .val (.long q1), .second, .val (.long q2), .second, .val (.long q3), .second, .val (.int p4), .val (.ref b54), .val (.long u73), .second, .val (.long u74), .second, .val (.long u63), .second, .val (.long u79), .second, .unset, .unset] [(.int (lcmpW u79 (u73 + (1 : Int64))))])) _
    exact k
  obtain ⟨u89, u90, pre91, hu89, hu90⟩ : ∃ (u89 : Int64) (u90 : Int64), (∀ t, Steps p.tables e below (T82.setTop (mkF m 111 #[.val (.long q0), .second, .val (.long q1), .second, .val (.long q2), .second, .val (.long q3), .second, .val (.int p4), .val (.ref b54), .val (.long u89), .second, .val (.long u90), .second, .val (.long u63), .second, .val (.long u79), .second, .unset, .unset] [])) t → Steps p.tables e below (s₁.setTop (entryFrame m #[(.long q0), (.long q1), (.long q2), (.long q3), (.int p4)] maxLocals)) t) ∧ u89 = (if u79 = (u73 + (1 : Int64)) then (u73 + (1 : Int64)) else u73) ∧ u90 = (if u79 = (u73 + (1 : Int64)) then u74 else (u74 + (1 : Int64))) := by
    by_cases hc93_86 : u79 = (u73 + (1 : Int64))
    · have pre87 : ∀ t, Steps p.tables e below (T82.setTop (mkF m 111 #[.val (.long q0), .second, .val (.long q1), .second, .val (.long q2), .second, .val (.long q3), .second, .val (.int p4), .val (.ref b54), .val (.long (u73 + (1 : Int64))), .second, .val (.long u74), .second, .val (.long u63), .second, .val (.long u79), .second, .unset, .unset] [])) t → Steps p.tables e below (s₁.setTop (entryFrame m #[(.long q0), (.long q1), (.long q2), (.long q3), (.int p4)] maxLocals)) t := by
        intro t k
        refine pre85 t ?_
        show Steps p.tables e below (T82.setTop (mkF m 93 #[.val (.long q0), .second, .val (.long q1), .second, .val (.long q2), .second, .val (.long q3), .second, .val (.int p4), .val (.ref b54), .val (.long u73), .second, .val (.long u74), .second, .val (.long u63), .second, .val (.long u79), .second, .unset, .unset] [(.int (lcmpW u79 (u73 + (1 : Int64))))])) _
        refine XS.ifNo X82.here hx rfl (hb hby at_93) rfl ((if0 _ _).trans (teq (own_eqL hc93_86)).2) ?_
        show Steps p.tables e below (T82.setTop (mkF m 96 #[.val (.long q0), .second, .val (.long q1), .second, .val (.long q2), .second, .val (.long q3), .second, .val (.int p4), .val (.ref b54), .val (.long u73), .second, .val (.long u74), .second, .val (.long u63), .second, .val (.long u79), .second, .unset, .unset] [])) _
        refine XS.lload X82.here hx rfl (hb hby at_96) rfl ?_
        show Steps p.tables e below (T82.setTop (mkF m 98 #[.val (.long q0), .second, .val (.long q1), .second, .val (.long q2), .second, .val (.long q3), .second, .val (.int p4), .val (.ref b54), .val (.long u73), .second, .val (.long u74), .second, .val (.long u63), .second, .val (.long u79), .second, .unset, .unset] [(.long u73)])) _
        refine XS.lconst X82.here hx rfl (hb hby at_98) ?_
        show Steps p.tables e below (T82.setTop (mkF m 99 #[.val (.long q0), .second, .val (.long q1), .second, .val (.long q2), .second, .val (.long q3), .second, .val (.int p4), .val (.ref b54), .val (.long u73), .second, .val (.long u74), .second, .val (.long u63), .second, .val (.long u79), .second, .unset, .unset] [(.long (1 : Int64)), (.long u73)])) _
        refine XS.ladd X82.here hx rfl (hb hby at_99) rfl ?_
        show Steps p.tables e below (T82.setTop (mkF m 100 #[.val (.long q0), .second, .val (.long q1), .second, .val (.long q2), .second, .val (.long q3), .second, .val (.int p4), .val (.ref b54), .val (.long u73), .second, .val (.long u74), .second, .val (.long u63), .second, .val (.long u79), .second, .unset, .unset] [(.long (u73 + (1 : Int64)))])) _
        refine XS.lstore X82.here hx rfl (hb hby at_100) rfl (l' := #[.val (.long q0), .second, .val (.long q1), .second, .val (.long q2), .second, .val (.long q3), .second, .val (.int p4), .val (.ref b54), .val (.long (u73 + (1 : Int64))), .second, .val (.long u74), .second, .val (.long u63), .second, .val (.long u79), .second, .unset, .unset]) rfl ?_
        show Steps p.tables e below (T82.setTop (mkF m 102 #[.val (.long q0), .second, .val (.long q1), .second, .val (.long q2), .second, .val (.long q3), .second, .val (.int p4), .val (.ref b54), .val (.long (u73 + (1 : Int64))), .second, .val (.long u74), .second, .val (.long u63), .second, .val (.long u79), .second, .unset, .unset] [])) _
        refine XS.goto X82.here hx rfl (pc0 := 102) (pc' := 111) rfl (hb hby at_102) (by decide) (by decide) ?_
        show Steps p.tables e below (T82.setTop (mkF m 111 #[.val (.long q0), .second, .val (.long q1), .second, .val (.long q2), .second, .val (.long q3), .second, .val (.int p4), .val (.ref b54), .val (.long (u73 + (1 : Int64))), .second, .val (.long u74), .second, .val (.long u63), .second, .val (.long u79), .second, .unset, .unset] [])) _
        exact k
      exact ⟨(u73 + (1 : Int64)), u74, pre87, by rw [if_pos hc93_86], by rw [if_pos hc93_86]⟩
    · have pre88 : ∀ t, Steps p.tables e below (T82.setTop (mkF m 111 #[.val (.long q0), .second, .val (.long q1), .second, .val (.long q2), .second, .val (.long q3), .second, .val (.int p4), .val (.ref b54), .val (.long u73), .second, .val (.long (u74 + (1 : Int64))), .second, .val (.long u63), .second, .val (.long u79), .second, .unset, .unset] [])) t → Steps p.tables e below (s₁.setTop (entryFrame m #[(.long q0), (.long q1), (.long q2), (.long q3), (.int p4)] maxLocals)) t := by
        intro t k
        refine pre85 t ?_
        show Steps p.tables e below (T82.setTop (mkF m 93 #[.val (.long q0), .second, .val (.long q1), .second, .val (.long q2), .second, .val (.long q3), .second, .val (.int p4), .val (.ref b54), .val (.long u73), .second, .val (.long u74), .second, .val (.long u63), .second, .val (.long u79), .second, .unset, .unset] [(.int (lcmpW u79 (u73 + (1 : Int64))))])) _
        refine XS.ifYes X82.here hx rfl (pc0 := 93) (pc' := 105) rfl (hb hby at_93) rfl ((if0 _ _).trans (feq (own_neL hc93_86)).2) (by decide) (by decide) ?_
        show Steps p.tables e below (T82.setTop (mkF m 105 #[.val (.long q0), .second, .val (.long q1), .second, .val (.long q2), .second, .val (.long q3), .second, .val (.int p4), .val (.ref b54), .val (.long u73), .second, .val (.long u74), .second, .val (.long u63), .second, .val (.long u79), .second, .unset, .unset] [])) _
        refine XS.lload X82.here hx rfl (hb hby at_105) rfl ?_
        show Steps p.tables e below (T82.setTop (mkF m 107 #[.val (.long q0), .second, .val (.long q1), .second, .val (.long q2), .second, .val (.long q3), .second, .val (.int p4), .val (.ref b54), .val (.long u73), .second, .val (.long u74), .second, .val (.long u63), .second, .val (.long u79), .second, .unset, .unset] [(.long u74)])) _
        refine XS.lconst X82.here hx rfl (hb hby at_107) ?_
        show Steps p.tables e below (T82.setTop (mkF m 108 #[.val (.long q0), .second, .val (.long q1), .second, .val (.long q2), .second, .val (.long q3), .second, .val (.int p4), .val (.ref b54), .val (.long u73), .second, .val (.long u74), .second, .val (.long u63), .second, .val (.long u79), .second, .unset, .unset] [(.long (1 : Int64)), (.long u74)])) _
        refine XS.ladd X82.here hx rfl (hb hby at_108) rfl ?_
        show Steps p.tables e below (T82.setTop (mkF m 109 #[.val (.long q0), .second, .val (.long q1), .second, .val (.long q2), .second, .val (.long q3), .second, .val (.int p4), .val (.ref b54), .val (.long u73), .second, .val (.long u74), .second, .val (.long u63), .second, .val (.long u79), .second, .unset, .unset] [(.long (u74 + (1 : Int64)))])) _
        refine XS.lstore X82.here hx rfl (hb hby at_109) rfl (l' := #[.val (.long q0), .second, .val (.long q1), .second, .val (.long q2), .second, .val (.long q3), .second, .val (.int p4), .val (.ref b54), .val (.long u73), .second, .val (.long (u74 + (1 : Int64))), .second, .val (.long u63), .second, .val (.long u79), .second, .unset, .unset]) rfl ?_
        show Steps p.tables e below (T82.setTop (mkF m 111 #[.val (.long q0), .second, .val (.long q1), .second, .val (.long q2), .second, .val (.long q3), .second, .val (.int p4), .val (.ref b54), .val (.long u73), .second, .val (.long (u74 + (1 : Int64))), .second, .val (.long u63), .second, .val (.long u79), .second, .unset, .unset] [])) _
        exact k
      exact ⟨u73, (u74 + (1 : Int64)), pre88, by rw [if_neg hc93_86], by rw [if_neg hc93_86]⟩
  have pre92 : ∀ t, Steps p.tables e below (T82.setTop (mkF m 121 #[.val (.long q0), .second, .val (.long q1), .second, .val (.long q2), .second, .val (.long q3), .second, .val (.int p4), .val (.ref b54), .val (.long u89), .second, .val (.long u90), .second, .val (.long u63), .second, .val (.long u79), .second, .unset, .unset] [(.long q2), (.long u89), (.int (((p4.toUInt32 >>> ((4 : Int32) &&& 31).toUInt32).toInt32) &&& (3 : Int32)))])) t → Steps p.tables e below (s₁.setTop (entryFrame m #[(.long q0), (.long q1), (.long q2), (.long q3), (.int p4)] maxLocals)) t := by
    intro t k
    refine pre91 t ?_
    show Steps p.tables e below (T82.setTop (mkF m 111 #[.val (.long q0), .second, .val (.long q1), .second, .val (.long q2), .second, .val (.long q3), .second, .val (.int p4), .val (.ref b54), .val (.long u89), .second, .val (.long u90), .second, .val (.long u63), .second, .val (.long u79), .second, .unset, .unset] [])) _
    refine XS.iload X82.here hx rfl (hb hby at_111) rfl ?_
    show Steps p.tables e below (T82.setTop (mkF m 113 #[.val (.long q0), .second, .val (.long q1), .second, .val (.long q2), .second, .val (.long q3), .second, .val (.int p4), .val (.ref b54), .val (.long u89), .second, .val (.long u90), .second, .val (.long u63), .second, .val (.long u79), .second, .unset, .unset] [(.int p4)])) _
    refine XS.iconst X82.here hx rfl (hb hby at_113) ?_
    show Steps p.tables e below (T82.setTop (mkF m 114 #[.val (.long q0), .second, .val (.long q1), .second, .val (.long q2), .second, .val (.long q3), .second, .val (.int p4), .val (.ref b54), .val (.long u89), .second, .val (.long u90), .second, .val (.long u63), .second, .val (.long u79), .second, .unset, .unset] [(.int (4 : Int32)), (.int p4)])) _
    refine XS.iushr X82.here hx rfl (hb hby at_114) rfl ?_
    show Steps p.tables e below (T82.setTop (mkF m 115 #[.val (.long q0), .second, .val (.long q1), .second, .val (.long q2), .second, .val (.long q3), .second, .val (.int p4), .val (.ref b54), .val (.long u89), .second, .val (.long u90), .second, .val (.long u63), .second, .val (.long u79), .second, .unset, .unset] [(.int ((p4.toUInt32 >>> ((4 : Int32) &&& 31).toUInt32).toInt32))])) _
    refine XS.iconst X82.here hx rfl (hb hby at_115) ?_
    show Steps p.tables e below (T82.setTop (mkF m 116 #[.val (.long q0), .second, .val (.long q1), .second, .val (.long q2), .second, .val (.long q3), .second, .val (.int p4), .val (.ref b54), .val (.long u89), .second, .val (.long u90), .second, .val (.long u63), .second, .val (.long u79), .second, .unset, .unset] [(.int (3 : Int32)), (.int ((p4.toUInt32 >>> ((4 : Int32) &&& 31).toUInt32).toInt32))])) _
    refine XS.iand X82.here hx rfl (hb hby at_116) rfl ?_
    show Steps p.tables e below (T82.setTop (mkF m 117 #[.val (.long q0), .second, .val (.long q1), .second, .val (.long q2), .second, .val (.long q3), .second, .val (.int p4), .val (.ref b54), .val (.long u89), .second, .val (.long u90), .second, .val (.long u63), .second, .val (.long u79), .second, .unset, .unset] [(.int (((p4.toUInt32 >>> ((4 : Int32) &&& 31).toUInt32).toInt32) &&& (3 : Int32)))])) _
    refine XS.lload X82.here hx rfl (hb hby at_117) rfl ?_
    show Steps p.tables e below (T82.setTop (mkF m 119 #[.val (.long q0), .second, .val (.long q1), .second, .val (.long q2), .second, .val (.long q3), .second, .val (.int p4), .val (.ref b54), .val (.long u89), .second, .val (.long u90), .second, .val (.long u63), .second, .val (.long u79), .second, .unset, .unset] [(.long u89), (.int (((p4.toUInt32 >>> ((4 : Int32) &&& 31).toUInt32).toInt32) &&& (3 : Int32)))])) _
    refine XS.lload X82.here hx rfl (hb hby at_119) rfl ?_
    show Steps p.tables e below (T82.setTop (mkF m 121 #[.val (.long q0), .second, .val (.long q1), .second, .val (.long q2), .second, .val (.long q3), .second, .val (.int p4), .val (.ref b54), .val (.long u89), .second, .val (.long u90), .second, .val (.long u63), .second, .val (.long u79), .second, .unset, .unset] [(.long q2), (.long u89), (.int (((p4.toUInt32 >>> ((4 : Int32) &&& 31).toUInt32).toInt32) &&& (3 : Int32)))])) _
    exact k
  obtain ⟨_, _, ⟨T93, L93, k93, n93⟩, -, X93, ⟨Lc93, hQ93, l93, y93, z93⟩, st93⟩ := Jvm.LawKit.callS X82 hx (y := (⟨"com/example/careful_quorum/carefulquorum/simulation/SimulatedServiceTimerFiredPinLaw", "pick", "(IJJ)J"⟩ : MethodName)) hown (mvT hZ (hw _ (List.mem_of_getElem? (i := 12) rfl))) (mvT hZ (hw _ (List.mem_of_getElem? (i := 13) rfl))) (mvT hZ (hw _ (List.mem_of_getElem? (i := 14) rfl))) (mvT hZ (hw _ (List.mem_of_getElem? (i := 15) rfl))) (by decide) (backOf (W := 0) (rm3 l Z a0 hw [] (((p4.toUInt32 >>> ((4 : Int32) &&& 31).toUInt32).toInt32) &&& (3 : Int32)) u89 q2 h82 n0 Z82) hZ (hw _ (List.mem_of_getElem? (i := 15) rfl)) (hw _ (List.mem_of_getElem? (i := 14) rfl)) (by decide) (by decide)) (g := (mkF m 121 #[.val (.long q0), .second, .val (.long q1), .second, .val (.long q2), .second, .val (.long q3), .second, .val (.int p4), .val (.ref b54), .val (.long u89), .second, .val (.long u90), .second, .val (.long u63), .second, .val (.long u79), .second, .unset, .unset] [(.long q2), (.long u89), (.int (((p4.toUInt32 >>> ((4 : Int32) &&& 31).toUInt32).toInt32) &&& (3 : Int32)))])) rfl (by rw [hml]; rfl) (argsL := [(.int (((p4.toUInt32 >>> ((4 : Int32) &&& 31).toUInt32).toInt32) &&& (3 : Int32))), (.long u89), (.long q2)]) (rest := []) (lenOf pd_1 rfl) rfl (by show 2 * 0 + _ ≤ _; exact Nat.le_of_eq rfl) (hb hby at_121) (fun _ _ => ⟨rfl, e82, (by decide : 1 + 0 ≤ _), (by decide : 5 + 0 ≤ _)⟩)
  dsimp only [Pt.U, Pt.locs, Pt.cells, Pt.slots] at X93 l93 y93 z93 st93 hQ93
  subst l93 y93 z93
  obtain ⟨rfl, N93q, e93⟩ := hQ93
  have N93 := Fr.app N82 N93q
  have pre94 : ∀ t, Steps p.tables e below (T93.setTop (mkF m 124 #[.val (.long q0), .second, .val (.long q1), .second, .val (.long q2), .second, .val (.long q3), .second, .val (.int p4), .val (.ref b54), .val (.long u89), .second, .val (.long u90), .second, .val (.long u63), .second, .val (.long u79), .second, .unset, .unset] [(.long (f3 (((p4.toUInt32 >>> ((4 : Int32) &&& 31).toUInt32).toInt32) &&& (3 : Int32)) u89 q2))])) t → Steps p.tables e below (s₁.setTop (entryFrame m #[(.long q0), (.long q1), (.long q2), (.long q3), (.int p4)] maxLocals)) t := fun t k => pre92 t (st93 t k)
  obtain ⟨u95, hu95⟩ : ∃ z : Int64, z = (f3 (((p4.toUInt32 >>> ((4 : Int32) &&& 31).toUInt32).toInt32) &&& (3 : Int32)) u89 q2) := ⟨_, rfl⟩
  have pre96 : ∀ t, Steps p.tables e below (T93.setTop (mkF m 124 #[.val (.long q0), .second, .val (.long q1), .second, .val (.long q2), .second, .val (.long q3), .second, .val (.int p4), .val (.ref b54), .val (.long u89), .second, .val (.long u90), .second, .val (.long u63), .second, .val (.long u79), .second, .unset, .unset] [(.long u95)])) t → Steps p.tables e below (s₁.setTop (entryFrame m #[(.long q0), (.long q1), (.long q2), (.long q3), (.int p4)] maxLocals)) t := by rw [hu95]; exact pre94
  have pre97 : ∀ t, Steps p.tables e below (T93.setTop (mkF m 134 #[.val (.long q0), .second, .val (.long q1), .second, .val (.long q2), .second, .val (.long q3), .second, .val (.int p4), .val (.ref b54), .val (.long u89), .second, .val (.long u90), .second, .val (.long u63), .second, .val (.long u79), .second, .val (.long u95), .second] [(.long (q3 ^^^ q1)), (.long u95), (.ref b54)])) t → Steps p.tables e below (s₁.setTop (entryFrame m #[(.long q0), (.long q1), (.long q2), (.long q3), (.int p4)] maxLocals)) t := by
    intro t k
    refine pre96 t ?_
    show Steps p.tables e below (T93.setTop (mkF m 124 #[.val (.long q0), .second, .val (.long q1), .second, .val (.long q2), .second, .val (.long q3), .second, .val (.int p4), .val (.ref b54), .val (.long u89), .second, .val (.long u90), .second, .val (.long u63), .second, .val (.long u79), .second, .unset, .unset] [(.long u95)])) _
    refine XS.lstore X93.here hx rfl (hb hby at_124) rfl (l' := #[.val (.long q0), .second, .val (.long q1), .second, .val (.long q2), .second, .val (.long q3), .second, .val (.int p4), .val (.ref b54), .val (.long u89), .second, .val (.long u90), .second, .val (.long u63), .second, .val (.long u79), .second, .val (.long u95), .second]) rfl ?_
    show Steps p.tables e below (T93.setTop (mkF m 126 #[.val (.long q0), .second, .val (.long q1), .second, .val (.long q2), .second, .val (.long q3), .second, .val (.int p4), .val (.ref b54), .val (.long u89), .second, .val (.long u90), .second, .val (.long u63), .second, .val (.long u79), .second, .val (.long u95), .second] [])) _
    refine XS.aload X93.here hx rfl (hb hby at_126) rfl rfl ?_
    show Steps p.tables e below (T93.setTop (mkF m 128 #[.val (.long q0), .second, .val (.long q1), .second, .val (.long q2), .second, .val (.long q3), .second, .val (.int p4), .val (.ref b54), .val (.long u89), .second, .val (.long u90), .second, .val (.long u63), .second, .val (.long u79), .second, .val (.long u95), .second] [(.ref b54)])) _
    refine XS.lload X93.here hx rfl (hb hby at_128) rfl ?_
    show Steps p.tables e below (T93.setTop (mkF m 130 #[.val (.long q0), .second, .val (.long q1), .second, .val (.long q2), .second, .val (.long q3), .second, .val (.int p4), .val (.ref b54), .val (.long u89), .second, .val (.long u90), .second, .val (.long u63), .second, .val (.long u79), .second, .val (.long u95), .second] [(.long u95), (.ref b54)])) _
    refine XS.lload X93.here hx rfl (hb hby at_130) rfl ?_
    show Steps p.tables e below (T93.setTop (mkF m 132 #[.val (.long q0), .second, .val (.long q1), .second, .val (.long q2), .second, .val (.long q3), .second, .val (.int p4), .val (.ref b54), .val (.long u89), .second, .val (.long u90), .second, .val (.long u63), .second, .val (.long u79), .second, .val (.long u95), .second] [(.long q3), (.long u95), (.ref b54)])) _
    refine XS.lloadN X93.here hx rfl (hb hby at_132) rfl ?_
    show Steps p.tables e below (T93.setTop (mkF m 133 #[.val (.long q0), .second, .val (.long q1), .second, .val (.long q2), .second, .val (.long q3), .second, .val (.int p4), .val (.ref b54), .val (.long u89), .second, .val (.long u90), .second, .val (.long u63), .second, .val (.long u79), .second, .val (.long u95), .second] [(.long q1), (.long q3), (.long u95), (.ref b54)])) _
    refine XS.lxor X93.here hx rfl (hb hby at_133) rfl ?_
    show Steps p.tables e below (T93.setTop (mkF m 134 #[.val (.long q0), .second, .val (.long q1), .second, .val (.long q2), .second, .val (.long q3), .second, .val (.int p4), .val (.ref b54), .val (.long u89), .second, .val (.long u90), .second, .val (.long u63), .second, .val (.long u79), .second, .val (.long u95), .second] [(.long (q3 ^^^ q1)), (.long u95), (.ref b54)])) _
    exact k
  obtain ⟨cq98, kq98, q98a, q98b, q98c⟩ := isOf hZ e93 Q82_3
  obtain ⟨_, _, ⟨T98, L98, k98, n98⟩, -, X98, ⟨Lc98, hQ98, l98, y98, z98⟩, st98⟩ := X93.virtualBack hx (y := (⟨"com/example/careful_quorum/carefulquorum/simulation/SimulatedService", "timerFired", "(JJ)V"⟩ : MethodName)) (z := (⟨"com/example/careful_quorum/carefulquorum/simulation/SimulatedService", "timerFired", "(JJ)V"⟩ : MethodName)) hown (mvT hZ (hw _ (List.mem_of_getElem? (i := 16) rfl))) (mvT hZ (hw _ (List.mem_of_getElem? (i := 17) rfl))) (notFace_of_selects (args := #[]) (mvT hZ (hw _ (List.mem_of_getElem? (i := 19) rfl)))) (mvT hZ (hw _ (List.mem_of_getElem? (i := 19) rfl))) (mvT hZ (hw _ (List.mem_of_getElem? (i := 18) rfl))) (by decide) (backOf (W := 0) (rm4 l Z a0 hw [] b54 u95 (q3 ^^^ q1) (0 : Int64) (-3750763034362895579 : Int64) (g4_fired u79 (g4_fired u63 (0 : Int64))) (g4_misfired u79 (g4_fired u63 (0 : Int64)) (g4_misfired u63 (0 : Int64) (0 : Int64))) h82 n0 Z82 Q82_0 Q82_1 Q82_4 Q82_2 Q82_3 g_b54) hZ (hw _ (List.mem_of_getElem? (i := 20) rfl)) (hw _ (List.mem_of_getElem? (i := 2) rfl)) (by decide) (by decide)) q98a q98c (g := (mkF m 134 #[.val (.long q0), .second, .val (.long q1), .second, .val (.long q2), .second, .val (.long q3), .second, .val (.int p4), .val (.ref b54), .val (.long u89), .second, .val (.long u90), .second, .val (.long u63), .second, .val (.long u79), .second, .val (.long u95), .second] [(.long (q3 ^^^ q1)), (.long u95), (.ref b54)])) rfl (by rw [hml]; rfl) (Steps.refl _) (argsL := [(.long u95), (.long (q3 ^^^ q1))]) (rest := []) (lenOf pd_2 rfl) rfl (by show 2 * 0 + _ ≤ _; exact Nat.le_of_eq rfl) (hb hby at_134) (fun _ _ => ⟨rfl, e93, (by decide : 1 + 0 ≤ _), (by decide : 5 + 0 ≤ _)⟩)
  dsimp only [Pt.U, Pt.locs, Pt.cells, Pt.slots] at X98 l98 y98 z98 st98 hQ98
  subst l98 y98 z98
  obtain ⟨h98, e98⟩ : ∃ h, T98.heap = h := ⟨_, rfl⟩
  rw [e98] at hQ98
  obtain ⟨rfl, N98q, K98q, Q98_0, Q98_1, Q98_2, Q98_3, Q98_4⟩ := hQ98
  have N98 := Fr.app N93 N98q
  have Z98 : n0 ≤ h98.size := Nat.le_trans Z82 K98q.1
  have K98 : Keep h0 h98 [] := K82.trans K98q (fun x hx => by cases List.mem_singleton.mp hx; exact Or.inr sz_b54)
  have Ef99 : Exa Z h98 b54 "com/example/careful_quorum/carefulquorum/simulation/SimulatedService" := (Q82_3).keep K98q
  have pre100 : ∀ t, Steps p.tables e below (T98.setTop (mkF m 137 #[.val (.long q0), .second, .val (.long q1), .second, .val (.long q2), .second, .val (.long q3), .second, .val (.int p4), .val (.ref b54), .val (.long u89), .second, .val (.long u90), .second, .val (.long u63), .second, .val (.long u79), .second, .val (.long u95), .second] [])) t → Steps p.tables e below (s₁.setTop (entryFrame m #[(.long q0), (.long q1), (.long q2), (.long q3), (.int p4)] maxLocals)) t := fun t k => pre97 t (st98.trans k)
  have pre101 : ∀ t, Steps p.tables e below (T98.setTop (mkF m 144 #[.val (.long q0), .second, .val (.long q1), .second, .val (.long q2), .second, .val (.long q3), .second, .val (.int p4), .val (.ref b54), .val (.long u89), .second, .val (.long u90), .second, .val (.long u63), .second, .val (.long u79), .second, .val (.long u95), .second] [(.int (lcmpW u95 (u89 + (1 : Int64))))])) t → Steps p.tables e below (s₁.setTop (entryFrame m #[(.long q0), (.long q1), (.long q2), (.long q3), (.int p4)] maxLocals)) t := by
    intro t k
    refine pre100 t ?_
    show Steps p.tables e below (T98.setTop (mkF m 137 #[.val (.long q0), .second, .val (.long q1), .second, .val (.long q2), .second, .val (.long q3), .second, .val (.int p4), .val (.ref b54), .val (.long u89), .second, .val (.long u90), .second, .val (.long u63), .second, .val (.long u79), .second, .val (.long u95), .second] [])) _
    refine XS.lload X98.here hx rfl (hb hby at_137) rfl ?_
    show Steps p.tables e below (T98.setTop (mkF m 139 #[.val (.long q0), .second, .val (.long q1), .second, .val (.long q2), .second, .val (.long q3), .second, .val (.int p4), .val (.ref b54), .val (.long u89), .second, .val (.long u90), .second, .val (.long u63), .second, .val (.long u79), .second, .val (.long u95), .second] [(.long u95)])) _
    refine XS.lload X98.here hx rfl (hb hby at_139) rfl ?_
    show Steps p.tables e below (T98.setTop (mkF m 141 #[.val (.long q0), .second, .val (.long q1), .second, .val (.long q2), .second, .val (.long q3), .second, .val (.int p4), .val (.ref b54), .val (.long u89), .second, .val (.long u90), .second, .val (.long u63), .second, .val (.long u79), .second, .val (.long u95), .second] [(.long u89), (.long u95)])) _
    refine XS.lconst X98.here hx rfl (hb hby at_141) ?_
    show Steps p.tables e below (T98.setTop (mkF m 142 #[.val (.long q0), .second, .val (.long q1), .second, .val (.long q2), .second, .val (.long q3), .second, .val (.int p4), .val (.ref b54), .val (.long u89), .second, .val (.long u90), .second, .val (.long u63), .second, .val (.long u79), .second, .val (.long u95), .second] [(.long (1 : Int64)), (.long u89), (.long u95)])) _
    refine XS.ladd X98.here hx rfl (hb hby at_142) rfl ?_
    show Steps p.tables e below (T98.setTop (mkF m 143 #[.val (.long q0), .second, .val (.long q1), .second, .val (.long q2), .second, .val (.long q3), .second, .val (.int p4), .val (.ref b54), .val (.long u89), .second, .val (.long u90), .second, .val (.long u63), .second, .val (.long u79), .second, .val (.long u95), .second] [(.long (u89 + (1 : Int64))), (.long u95)])) _
    refine XS.lcmp X98.here hx rfl (hb hby at_143) rfl ?_
    show Steps p.tables e below (T98.setTop (mkF m 144 #[.val (.long q0), .second, .val (.long q1), .second, .val (.long q2), .second, .val (.long q3), .second, .val (.int p4), .val (.ref b54), .val (.long u89), .second, .val (.long u90), .second, .val (.long u63), .second, .val (.long u79), .second, .val (.long u95), .second] [(.int (lcmpW u95 (u89 + (1 : Int64))))])) _
    exact k
  obtain ⟨u105, u106, pre107, hu105, hu106⟩ : ∃ (u105 : Int64) (u106 : Int64), (∀ t, Steps p.tables e below (T98.setTop (mkF m 162 #[.val (.long q0), .second, .val (.long q1), .second, .val (.long q2), .second, .val (.long q3), .second, .val (.int p4), .val (.ref b54), .val (.long u105), .second, .val (.long u106), .second, .val (.long u63), .second, .val (.long u79), .second, .val (.long u95), .second] [])) t → Steps p.tables e below (s₁.setTop (entryFrame m #[(.long q0), (.long q1), (.long q2), (.long q3), (.int p4)] maxLocals)) t) ∧ u105 = (if u95 = (u89 + (1 : Int64)) then (u89 + (1 : Int64)) else u89) ∧ u106 = (if u95 = (u89 + (1 : Int64)) then u90 else (u90 + (1 : Int64))) := by
    by_cases hc144_102 : u95 = (u89 + (1 : Int64))
    · have pre103 : ∀ t, Steps p.tables e below (T98.setTop (mkF m 162 #[.val (.long q0), .second, .val (.long q1), .second, .val (.long q2), .second, .val (.long q3), .second, .val (.int p4), .val (.ref b54), .val (.long (u89 + (1 : Int64))), .second, .val (.long u90), .second, .val (.long u63), .second, .val (.long u79), .second, .val (.long u95), .second] [])) t → Steps p.tables e below (s₁.setTop (entryFrame m #[(.long q0), (.long q1), (.long q2), (.long q3), (.int p4)] maxLocals)) t := by
        intro t k
        refine pre101 t ?_
        show Steps p.tables e below (T98.setTop (mkF m 144 #[.val (.long q0), .second, .val (.long q1), .second, .val (.long q2), .second, .val (.long q3), .second, .val (.int p4), .val (.ref b54), .val (.long u89), .second, .val (.long u90), .second, .val (.long u63), .second, .val (.long u79), .second, .val (.long u95), .second] [(.int (lcmpW u95 (u89 + (1 : Int64))))])) _
        refine XS.ifNo X98.here hx rfl (hb hby at_144) rfl ((if0 _ _).trans (teq (own_eqL hc144_102)).2) ?_
        show Steps p.tables e below (T98.setTop (mkF m 147 #[.val (.long q0), .second, .val (.long q1), .second, .val (.long q2), .second, .val (.long q3), .second, .val (.int p4), .val (.ref b54), .val (.long u89), .second, .val (.long u90), .second, .val (.long u63), .second, .val (.long u79), .second, .val (.long u95), .second] [])) _
        refine XS.lload X98.here hx rfl (hb hby at_147) rfl ?_
        show Steps p.tables e below (T98.setTop (mkF m 149 #[.val (.long q0), .second, .val (.long q1), .second, .val (.long q2), .second, .val (.long q3), .second, .val (.int p4), .val (.ref b54), .val (.long u89), .second, .val (.long u90), .second, .val (.long u63), .second, .val (.long u79), .second, .val (.long u95), .second] [(.long u89)])) _
        refine XS.lconst X98.here hx rfl (hb hby at_149) ?_
        show Steps p.tables e below (T98.setTop (mkF m 150 #[.val (.long q0), .second, .val (.long q1), .second, .val (.long q2), .second, .val (.long q3), .second, .val (.int p4), .val (.ref b54), .val (.long u89), .second, .val (.long u90), .second, .val (.long u63), .second, .val (.long u79), .second, .val (.long u95), .second] [(.long (1 : Int64)), (.long u89)])) _
        refine XS.ladd X98.here hx rfl (hb hby at_150) rfl ?_
        show Steps p.tables e below (T98.setTop (mkF m 151 #[.val (.long q0), .second, .val (.long q1), .second, .val (.long q2), .second, .val (.long q3), .second, .val (.int p4), .val (.ref b54), .val (.long u89), .second, .val (.long u90), .second, .val (.long u63), .second, .val (.long u79), .second, .val (.long u95), .second] [(.long (u89 + (1 : Int64)))])) _
        refine XS.lstore X98.here hx rfl (hb hby at_151) rfl (l' := #[.val (.long q0), .second, .val (.long q1), .second, .val (.long q2), .second, .val (.long q3), .second, .val (.int p4), .val (.ref b54), .val (.long (u89 + (1 : Int64))), .second, .val (.long u90), .second, .val (.long u63), .second, .val (.long u79), .second, .val (.long u95), .second]) rfl ?_
        show Steps p.tables e below (T98.setTop (mkF m 153 #[.val (.long q0), .second, .val (.long q1), .second, .val (.long q2), .second, .val (.long q3), .second, .val (.int p4), .val (.ref b54), .val (.long (u89 + (1 : Int64))), .second, .val (.long u90), .second, .val (.long u63), .second, .val (.long u79), .second, .val (.long u95), .second] [])) _
        refine XS.goto X98.here hx rfl (pc0 := 153) (pc' := 162) rfl (hb hby at_153) (by decide) (by decide) ?_
        show Steps p.tables e below (T98.setTop (mkF m 162 #[.val (.long q0), .second, .val (.long q1), .second, .val (.long q2), .second, .val (.long q3), .second, .val (.int p4), .val (.ref b54), .val (.long (u89 + (1 : Int64))), .second, .val (.long u90), .second, .val (.long u63), .second, .val (.long u79), .second, .val (.long u95), .second] [])) _
        exact k
      exact ⟨(u89 + (1 : Int64)), u90, pre103, by rw [if_pos hc144_102], by rw [if_pos hc144_102]⟩
    · have pre104 : ∀ t, Steps p.tables e below (T98.setTop (mkF m 162 #[.val (.long q0), .second, .val (.long q1), .second, .val (.long q2), .second, .val (.long q3), .second, .val (.int p4), .val (.ref b54), .val (.long u89), .second, .val (.long (u90 + (1 : Int64))), .second, .val (.long u63), .second, .val (.long u79), .second, .val (.long u95), .second] [])) t → Steps p.tables e below (s₁.setTop (entryFrame m #[(.long q0), (.long q1), (.long q2), (.long q3), (.int p4)] maxLocals)) t := by
        intro t k
        refine pre101 t ?_
        show Steps p.tables e below (T98.setTop (mkF m 144 #[.val (.long q0), .second, .val (.long q1), .second, .val (.long q2), .second, .val (.long q3), .second, .val (.int p4), .val (.ref b54), .val (.long u89), .second, .val (.long u90), .second, .val (.long u63), .second, .val (.long u79), .second, .val (.long u95), .second] [(.int (lcmpW u95 (u89 + (1 : Int64))))])) _
        refine XS.ifYes X98.here hx rfl (pc0 := 144) (pc' := 156) rfl (hb hby at_144) rfl ((if0 _ _).trans (feq (own_neL hc144_102)).2) (by decide) (by decide) ?_
        show Steps p.tables e below (T98.setTop (mkF m 156 #[.val (.long q0), .second, .val (.long q1), .second, .val (.long q2), .second, .val (.long q3), .second, .val (.int p4), .val (.ref b54), .val (.long u89), .second, .val (.long u90), .second, .val (.long u63), .second, .val (.long u79), .second, .val (.long u95), .second] [])) _
        refine XS.lload X98.here hx rfl (hb hby at_156) rfl ?_
        show Steps p.tables e below (T98.setTop (mkF m 158 #[.val (.long q0), .second, .val (.long q1), .second, .val (.long q2), .second, .val (.long q3), .second, .val (.int p4), .val (.ref b54), .val (.long u89), .second, .val (.long u90), .second, .val (.long u63), .second, .val (.long u79), .second, .val (.long u95), .second] [(.long u90)])) _
        refine XS.lconst X98.here hx rfl (hb hby at_158) ?_
        show Steps p.tables e below (T98.setTop (mkF m 159 #[.val (.long q0), .second, .val (.long q1), .second, .val (.long q2), .second, .val (.long q3), .second, .val (.int p4), .val (.ref b54), .val (.long u89), .second, .val (.long u90), .second, .val (.long u63), .second, .val (.long u79), .second, .val (.long u95), .second] [(.long (1 : Int64)), (.long u90)])) _
        refine XS.ladd X98.here hx rfl (hb hby at_159) rfl ?_
        show Steps p.tables e below (T98.setTop (mkF m 160 #[.val (.long q0), .second, .val (.long q1), .second, .val (.long q2), .second, .val (.long q3), .second, .val (.int p4), .val (.ref b54), .val (.long u89), .second, .val (.long u90), .second, .val (.long u63), .second, .val (.long u79), .second, .val (.long u95), .second] [(.long (u90 + (1 : Int64)))])) _
        refine XS.lstore X98.here hx rfl (hb hby at_160) rfl (l' := #[.val (.long q0), .second, .val (.long q1), .second, .val (.long q2), .second, .val (.long q3), .second, .val (.int p4), .val (.ref b54), .val (.long u89), .second, .val (.long (u90 + (1 : Int64))), .second, .val (.long u63), .second, .val (.long u79), .second, .val (.long u95), .second]) rfl ?_
        show Steps p.tables e below (T98.setTop (mkF m 162 #[.val (.long q0), .second, .val (.long q1), .second, .val (.long q2), .second, .val (.long q3), .second, .val (.int p4), .val (.ref b54), .val (.long u89), .second, .val (.long (u90 + (1 : Int64))), .second, .val (.long u63), .second, .val (.long u79), .second, .val (.long u95), .second] [])) _
        exact k
      exact ⟨u89, (u90 + (1 : Int64)), pre104, by rw [if_neg hc144_102], by rw [if_neg hc144_102]⟩
  have pre108 : ∀ t, Steps p.tables e below (T98.setTop (mkF m 164 #[.val (.long q0), .second, .val (.long q1), .second, .val (.long q2), .second, .val (.long q3), .second, .val (.int p4), .val (.ref b54), .val (.long u105), .second, .val (.long u106), .second, .val (.long u63), .second, .val (.long u79), .second, .val (.long u95), .second] [(.ref b54)])) t → Steps p.tables e below (s₁.setTop (entryFrame m #[(.long q0), (.long q1), (.long q2), (.long q3), (.int p4)] maxLocals)) t := by
    intro t k
    refine pre107 t ?_
    show Steps p.tables e below (T98.setTop (mkF m 162 #[.val (.long q0), .second, .val (.long q1), .second, .val (.long q2), .second, .val (.long q3), .second, .val (.int p4), .val (.ref b54), .val (.long u105), .second, .val (.long u106), .second, .val (.long u63), .second, .val (.long u79), .second, .val (.long u95), .second] [])) _
    refine XS.aload X98.here hx rfl (hb hby at_162) rfl rfl ?_
    show Steps p.tables e below (T98.setTop (mkF m 164 #[.val (.long q0), .second, .val (.long q1), .second, .val (.long q2), .second, .val (.long q3), .second, .val (.int p4), .val (.ref b54), .val (.long u105), .second, .val (.long u106), .second, .val (.long u63), .second, .val (.long u79), .second, .val (.long u95), .second] [(.ref b54)])) _
    exact k
  obtain ⟨cq109, kq109, q109a, q109b, q109c⟩ := isOf hZ e98 Q98_3
  obtain ⟨_, _, ⟨T109, L109, k109, n109⟩, -, X109, ⟨Lc109, hQ109, l109, y109, z109⟩, st109⟩ := X98.virtualBack hx (y := (⟨"com/example/careful_quorum/carefulquorum/simulation/SimulatedService", "fired", "()J"⟩ : MethodName)) (z := (⟨"com/example/careful_quorum/carefulquorum/simulation/SimulatedService", "fired", "()J"⟩ : MethodName)) hown (mvT hZ (hw _ (List.mem_of_getElem? (i := 25) rfl))) (mvT hZ (hw _ (List.mem_of_getElem? (i := 26) rfl))) (notFace_of_selects (args := #[]) (mvT hZ (hw _ (List.mem_of_getElem? (i := 28) rfl)))) (mvT hZ (hw _ (List.mem_of_getElem? (i := 28) rfl))) (mvT hZ (hw _ (List.mem_of_getElem? (i := 27) rfl))) (by decide) (backOf (W := 0) (rm5 l Z a0 hw [] b54 (g4_fired u95 (g4_fired u79 (g4_fired u63 (0 : Int64)))) h98 n0 Z98 Q98_4) hZ (hw _ (List.mem_of_getElem? (i := 29) rfl)) (hw _ (List.mem_of_getElem? (i := 2) rfl)) (by decide) (by decide)) q109a q109c (g := (mkF m 164 #[.val (.long q0), .second, .val (.long q1), .second, .val (.long q2), .second, .val (.long q3), .second, .val (.int p4), .val (.ref b54), .val (.long u105), .second, .val (.long u106), .second, .val (.long u63), .second, .val (.long u79), .second, .val (.long u95), .second] [(.ref b54)])) rfl (by rw [hml]; rfl) (Steps.refl _) (argsL := []) (rest := []) (lenOf pd_3 rfl) rfl (by show 2 * 0 + _ ≤ _; exact Nat.le_of_eq rfl) (hb hby at_164) (fun _ _ => ⟨rfl, e98, (by decide : 1 + 0 ≤ _), (by decide : 5 + 0 ≤ _)⟩)
  dsimp only [Pt.U, Pt.locs, Pt.cells, Pt.slots] at X109 l109 y109 z109 st109 hQ109
  subst l109 y109 z109
  obtain ⟨rfl, N109q, e109⟩ := hQ109
  have N109 := Fr.app N98 N109q
  have pre110 : ∀ t, Steps p.tables e below (T109.setTop (mkF m 167 #[.val (.long q0), .second, .val (.long q1), .second, .val (.long q2), .second, .val (.long q3), .second, .val (.int p4), .val (.ref b54), .val (.long u105), .second, .val (.long u106), .second, .val (.long u63), .second, .val (.long u79), .second, .val (.long u95), .second] [(.long (g4_fired u95 (g4_fired u79 (g4_fired u63 (0 : Int64)))))])) t → Steps p.tables e below (s₁.setTop (entryFrame m #[(.long q0), (.long q1), (.long q2), (.long q3), (.int p4)] maxLocals)) t := fun t k => pre108 t (st109.trans k)
  have pre111 : ∀ t, Steps p.tables e below (T109.setTop (mkF m 170 #[.val (.long q0), .second, .val (.long q1), .second, .val (.long q2), .second, .val (.long q3), .second, .val (.int p4), .val (.ref b54), .val (.long u105), .second, .val (.long u106), .second, .val (.long u63), .second, .val (.long u79), .second, .val (.long u95), .second] [(.int (lcmpW (g4_fired u95 (g4_fired u79 (g4_fired u63 (0 : Int64)))) u105))])) t → Steps p.tables e below (s₁.setTop (entryFrame m #[(.long q0), (.long q1), (.long q2), (.long q3), (.int p4)] maxLocals)) t := by
    intro t k
    refine pre110 t ?_
    show Steps p.tables e below (T109.setTop (mkF m 167 #[.val (.long q0), .second, .val (.long q1), .second, .val (.long q2), .second, .val (.long q3), .second, .val (.int p4), .val (.ref b54), .val (.long u105), .second, .val (.long u106), .second, .val (.long u63), .second, .val (.long u79), .second, .val (.long u95), .second] [(.long (g4_fired u95 (g4_fired u79 (g4_fired u63 (0 : Int64)))))])) _
    refine XS.lload X109.here hx rfl (hb hby at_167) rfl ?_
    show Steps p.tables e below (T109.setTop (mkF m 169 #[.val (.long q0), .second, .val (.long q1), .second, .val (.long q2), .second, .val (.long q3), .second, .val (.int p4), .val (.ref b54), .val (.long u105), .second, .val (.long u106), .second, .val (.long u63), .second, .val (.long u79), .second, .val (.long u95), .second] [(.long u105), (.long (g4_fired u95 (g4_fired u79 (g4_fired u63 (0 : Int64)))))])) _
    refine XS.lcmp X109.here hx rfl (hb hby at_169) rfl ?_
    show Steps p.tables e below (T109.setTop (mkF m 170 #[.val (.long q0), .second, .val (.long q1), .second, .val (.long q2), .second, .val (.long q3), .second, .val (.int p4), .val (.ref b54), .val (.long u105), .second, .val (.long u106), .second, .val (.long u63), .second, .val (.long u79), .second, .val (.long u95), .second] [(.int (lcmpW (g4_fired u95 (g4_fired u79 (g4_fired u63 (0 : Int64)))) u105))])) _
    exact k
  by_cases hc170_112 : (g4_fired u95 (g4_fired u79 (g4_fired u63 (0 : Int64)))) = u105
  · have pre113 : ∀ t, Steps p.tables e below (T109.setTop (mkF m 175 #[.val (.long q0), .second, .val (.long q1), .second, .val (.long q2), .second, .val (.long q3), .second, .val (.int p4), .val (.ref b54), .val (.long u105), .second, .val (.long u106), .second, .val (.long u63), .second, .val (.long u79), .second, .val (.long u95), .second] [(.ref b54)])) t → Steps p.tables e below (s₁.setTop (entryFrame m #[(.long q0), (.long q1), (.long q2), (.long q3), (.int p4)] maxLocals)) t := by
      intro t k
      refine pre111 t ?_
      show Steps p.tables e below (T109.setTop (mkF m 170 #[.val (.long q0), .second, .val (.long q1), .second, .val (.long q2), .second, .val (.long q3), .second, .val (.int p4), .val (.ref b54), .val (.long u105), .second, .val (.long u106), .second, .val (.long u63), .second, .val (.long u79), .second, .val (.long u95), .second] [(.int (lcmpW (g4_fired u95 (g4_fired u79 (g4_fired u63 (0 : Int64)))) u105))])) _
      refine XS.ifNo X109.here hx rfl (hb hby at_170) rfl ((if0 _ _).trans (teq (own_eqL hc170_112)).2) ?_
      show Steps p.tables e below (T109.setTop (mkF m 173 #[.val (.long q0), .second, .val (.long q1), .second, .val (.long q2), .second, .val (.long q3), .second, .val (.int p4), .val (.ref b54), .val (.long u105), .second, .val (.long u106), .second, .val (.long u63), .second, .val (.long u79), .second, .val (.long u95), .second] [])) _
      refine XS.aload X109.here hx rfl (hb hby at_173) rfl rfl ?_
      show Steps p.tables e below (T109.setTop (mkF m 175 #[.val (.long q0), .second, .val (.long q1), .second, .val (.long q2), .second, .val (.long q3), .second, .val (.int p4), .val (.ref b54), .val (.long u105), .second, .val (.long u106), .second, .val (.long u63), .second, .val (.long u79), .second, .val (.long u95), .second] [(.ref b54)])) _
      exact k
    obtain ⟨cq114, kq114, q114a, q114b, q114c⟩ := isOf hZ e109 Q98_3
    obtain ⟨_, _, ⟨T114, L114, k114, n114⟩, -, X114, ⟨Lc114, hQ114, l114, y114, z114⟩, st114⟩ := X109.virtualBack hx (y := (⟨"com/example/careful_quorum/carefulquorum/simulation/SimulatedService", "misfired", "()J"⟩ : MethodName)) (z := (⟨"com/example/careful_quorum/carefulquorum/simulation/SimulatedService", "misfired", "()J"⟩ : MethodName)) hown (mvT hZ (hw _ (List.mem_of_getElem? (i := 30) rfl))) (mvT hZ (hw _ (List.mem_of_getElem? (i := 31) rfl))) (notFace_of_selects (args := #[]) (mvT hZ (hw _ (List.mem_of_getElem? (i := 33) rfl)))) (mvT hZ (hw _ (List.mem_of_getElem? (i := 33) rfl))) (mvT hZ (hw _ (List.mem_of_getElem? (i := 32) rfl))) (by decide) (backOf (W := 0) (rm6 l Z a0 hw [] b54 (g4_misfired u95 (g4_fired u79 (g4_fired u63 (0 : Int64))) (g4_misfired u79 (g4_fired u63 (0 : Int64)) (g4_misfired u63 (0 : Int64) (0 : Int64)))) h98 n0 Z98 Q98_2) hZ (hw _ (List.mem_of_getElem? (i := 34) rfl)) (hw _ (List.mem_of_getElem? (i := 2) rfl)) (by decide) (by decide)) q114a q114c (g := (mkF m 175 #[.val (.long q0), .second, .val (.long q1), .second, .val (.long q2), .second, .val (.long q3), .second, .val (.int p4), .val (.ref b54), .val (.long u105), .second, .val (.long u106), .second, .val (.long u63), .second, .val (.long u79), .second, .val (.long u95), .second] [(.ref b54)])) rfl (by rw [hml]; rfl) (Steps.refl _) (argsL := []) (rest := []) (lenOf pd_3 rfl) rfl (by show 2 * 0 + _ ≤ _; exact Nat.le_of_eq rfl) (hb hby at_175) (fun _ _ => ⟨rfl, e109, (by decide : 1 + 0 ≤ _), (by decide : 5 + 0 ≤ _)⟩)
    dsimp only [Pt.U, Pt.locs, Pt.cells, Pt.slots] at X114 l114 y114 z114 st114 hQ114
    subst l114 y114 z114
    obtain ⟨rfl, N114q, e114⟩ := hQ114
    have N114 := Fr.app N109 N114q
    have pre115 : ∀ t, Steps p.tables e below (T114.setTop (mkF m 178 #[.val (.long q0), .second, .val (.long q1), .second, .val (.long q2), .second, .val (.long q3), .second, .val (.int p4), .val (.ref b54), .val (.long u105), .second, .val (.long u106), .second, .val (.long u63), .second, .val (.long u79), .second, .val (.long u95), .second] [(.long (g4_misfired u95 (g4_fired u79 (g4_fired u63 (0 : Int64))) (g4_misfired u79 (g4_fired u63 (0 : Int64)) (g4_misfired u63 (0 : Int64) (0 : Int64)))))])) t → Steps p.tables e below (s₁.setTop (entryFrame m #[(.long q0), (.long q1), (.long q2), (.long q3), (.int p4)] maxLocals)) t := fun t k => pre113 t (st114.trans k)
    have pre116 : ∀ t, Steps p.tables e below (T114.setTop (mkF m 181 #[.val (.long q0), .second, .val (.long q1), .second, .val (.long q2), .second, .val (.long q3), .second, .val (.int p4), .val (.ref b54), .val (.long u105), .second, .val (.long u106), .second, .val (.long u63), .second, .val (.long u79), .second, .val (.long u95), .second] [(.int (lcmpW (g4_misfired u95 (g4_fired u79 (g4_fired u63 (0 : Int64))) (g4_misfired u79 (g4_fired u63 (0 : Int64)) (g4_misfired u63 (0 : Int64) (0 : Int64)))) u106))])) t → Steps p.tables e below (s₁.setTop (entryFrame m #[(.long q0), (.long q1), (.long q2), (.long q3), (.int p4)] maxLocals)) t := by
      intro t k
      refine pre115 t ?_
      show Steps p.tables e below (T114.setTop (mkF m 178 #[.val (.long q0), .second, .val (.long q1), .second, .val (.long q2), .second, .val (.long q3), .second, .val (.int p4), .val (.ref b54), .val (.long u105), .second, .val (.long u106), .second, .val (.long u63), .second, .val (.long u79), .second, .val (.long u95), .second] [(.long (g4_misfired u95 (g4_fired u79 (g4_fired u63 (0 : Int64))) (g4_misfired u79 (g4_fired u63 (0 : Int64)) (g4_misfired u63 (0 : Int64) (0 : Int64)))))])) _
      refine XS.lload X114.here hx rfl (hb hby at_178) rfl ?_
      show Steps p.tables e below (T114.setTop (mkF m 180 #[.val (.long q0), .second, .val (.long q1), .second, .val (.long q2), .second, .val (.long q3), .second, .val (.int p4), .val (.ref b54), .val (.long u105), .second, .val (.long u106), .second, .val (.long u63), .second, .val (.long u79), .second, .val (.long u95), .second] [(.long u106), (.long (g4_misfired u95 (g4_fired u79 (g4_fired u63 (0 : Int64))) (g4_misfired u79 (g4_fired u63 (0 : Int64)) (g4_misfired u63 (0 : Int64) (0 : Int64)))))])) _
      refine XS.lcmp X114.here hx rfl (hb hby at_180) rfl ?_
      show Steps p.tables e below (T114.setTop (mkF m 181 #[.val (.long q0), .second, .val (.long q1), .second, .val (.long q2), .second, .val (.long q3), .second, .val (.int p4), .val (.ref b54), .val (.long u105), .second, .val (.long u106), .second, .val (.long u63), .second, .val (.long u79), .second, .val (.long u95), .second] [(.int (lcmpW (g4_misfired u95 (g4_fired u79 (g4_fired u63 (0 : Int64))) (g4_misfired u79 (g4_fired u63 (0 : Int64)) (g4_misfired u63 (0 : Int64) (0 : Int64)))) u106))])) _
      exact k
    by_cases hc181_117 : (g4_misfired u95 (g4_fired u79 (g4_fired u63 (0 : Int64))) (g4_misfired u79 (g4_fired u63 (0 : Int64)) (g4_misfired u63 (0 : Int64) (0 : Int64)))) = u106
    · have pre118 : ∀ t, Steps p.tables e below (T114.setTop (mkF m 186 #[.val (.long q0), .second, .val (.long q1), .second, .val (.long q2), .second, .val (.long q3), .second, .val (.int p4), .val (.ref b54), .val (.long u105), .second, .val (.long u106), .second, .val (.long u63), .second, .val (.long u79), .second, .val (.long u95), .second] [(.ref b54)])) t → Steps p.tables e below (s₁.setTop (entryFrame m #[(.long q0), (.long q1), (.long q2), (.long q3), (.int p4)] maxLocals)) t := by
        intro t k
        refine pre116 t ?_
        show Steps p.tables e below (T114.setTop (mkF m 181 #[.val (.long q0), .second, .val (.long q1), .second, .val (.long q2), .second, .val (.long q3), .second, .val (.int p4), .val (.ref b54), .val (.long u105), .second, .val (.long u106), .second, .val (.long u63), .second, .val (.long u79), .second, .val (.long u95), .second] [(.int (lcmpW (g4_misfired u95 (g4_fired u79 (g4_fired u63 (0 : Int64))) (g4_misfired u79 (g4_fired u63 (0 : Int64)) (g4_misfired u63 (0 : Int64) (0 : Int64)))) u106))])) _
        refine XS.ifNo X114.here hx rfl (hb hby at_181) rfl ((if0 _ _).trans (teq (own_eqL hc181_117)).2) ?_
        show Steps p.tables e below (T114.setTop (mkF m 184 #[.val (.long q0), .second, .val (.long q1), .second, .val (.long q2), .second, .val (.long q3), .second, .val (.int p4), .val (.ref b54), .val (.long u105), .second, .val (.long u106), .second, .val (.long u63), .second, .val (.long u79), .second, .val (.long u95), .second] [])) _
        refine XS.aload X114.here hx rfl (hb hby at_184) rfl rfl ?_
        show Steps p.tables e below (T114.setTop (mkF m 186 #[.val (.long q0), .second, .val (.long q1), .second, .val (.long q2), .second, .val (.long q3), .second, .val (.int p4), .val (.ref b54), .val (.long u105), .second, .val (.long u106), .second, .val (.long u63), .second, .val (.long u79), .second, .val (.long u95), .second] [(.ref b54)])) _
        exact k
      obtain ⟨cq119, kq119, q119a, q119b, q119c⟩ := isOf hZ e114 Q98_3
      obtain ⟨_, _, ⟨T119, L119, k119, n119⟩, -, X119, ⟨Lc119, hQ119, l119, y119, z119⟩, st119⟩ := X114.virtualBack hx (y := (⟨"com/example/careful_quorum/carefulquorum/simulation/SimulatedService", "count", "()J"⟩ : MethodName)) (z := (⟨"com/example/careful_quorum/carefulquorum/simulation/SimulatedService", "count", "()J"⟩ : MethodName)) hown (mvT hZ (hw _ (List.mem_of_getElem? (i := 35) rfl))) (mvT hZ (hw _ (List.mem_of_getElem? (i := 36) rfl))) (notFace_of_selects (args := #[]) (mvT hZ (hw _ (List.mem_of_getElem? (i := 38) rfl)))) (mvT hZ (hw _ (List.mem_of_getElem? (i := 38) rfl))) (mvT hZ (hw _ (List.mem_of_getElem? (i := 37) rfl))) (by decide) (backOf (W := 0) (rm7 l Z a0 hw [] b54 (0 : Int64) h98 n0 Z98 Q98_0) hZ (hw _ (List.mem_of_getElem? (i := 39) rfl)) (hw _ (List.mem_of_getElem? (i := 2) rfl)) (by decide) (by decide)) q119a q119c (g := (mkF m 186 #[.val (.long q0), .second, .val (.long q1), .second, .val (.long q2), .second, .val (.long q3), .second, .val (.int p4), .val (.ref b54), .val (.long u105), .second, .val (.long u106), .second, .val (.long u63), .second, .val (.long u79), .second, .val (.long u95), .second] [(.ref b54)])) rfl (by rw [hml]; rfl) (Steps.refl _) (argsL := []) (rest := []) (lenOf pd_3 rfl) rfl (by show 2 * 0 + _ ≤ _; exact Nat.le_of_eq rfl) (hb hby at_186) (fun _ _ => ⟨rfl, e114, (by decide : 1 + 0 ≤ _), (by decide : 5 + 0 ≤ _)⟩)
      dsimp only [Pt.U, Pt.locs, Pt.cells, Pt.slots] at X119 l119 y119 z119 st119 hQ119
      subst l119 y119 z119
      obtain ⟨rfl, N119q, e119⟩ := hQ119
      have N119 := Fr.app N114 N119q
      have pre120 : ∀ t, Steps p.tables e below (T119.setTop (mkF m 189 #[.val (.long q0), .second, .val (.long q1), .second, .val (.long q2), .second, .val (.long q3), .second, .val (.int p4), .val (.ref b54), .val (.long u105), .second, .val (.long u106), .second, .val (.long u63), .second, .val (.long u79), .second, .val (.long u95), .second] [(.long (0 : Int64))])) t → Steps p.tables e below (s₁.setTop (entryFrame m #[(.long q0), (.long q1), (.long q2), (.long q3), (.int p4)] maxLocals)) t := fun t k => pre118 t (st119.trans k)
      have pre121 : ∀ t, Steps p.tables e below (T119.setTop (mkF m 196 #[.val (.long q0), .second, .val (.long q1), .second, .val (.long q2), .second, .val (.long q3), .second, .val (.int p4), .val (.ref b54), .val (.long u105), .second, .val (.long u106), .second, .val (.long u63), .second, .val (.long u79), .second, .val (.long u95), .second] [(.ref b54)])) t → Steps p.tables e below (s₁.setTop (entryFrame m #[(.long q0), (.long q1), (.long q2), (.long q3), (.int p4)] maxLocals)) t := by
        intro t k
        refine pre120 t ?_
        show Steps p.tables e below (T119.setTop (mkF m 189 #[.val (.long q0), .second, .val (.long q1), .second, .val (.long q2), .second, .val (.long q3), .second, .val (.int p4), .val (.ref b54), .val (.long u105), .second, .val (.long u106), .second, .val (.long u63), .second, .val (.long u79), .second, .val (.long u95), .second] [(.long (0 : Int64))])) _
        refine XS.lconst X119.here hx rfl (hb hby at_189) ?_
        show Steps p.tables e below (T119.setTop (mkF m 190 #[.val (.long q0), .second, .val (.long q1), .second, .val (.long q2), .second, .val (.long q3), .second, .val (.int p4), .val (.ref b54), .val (.long u105), .second, .val (.long u106), .second, .val (.long u63), .second, .val (.long u79), .second, .val (.long u95), .second] [(.long (0 : Int64)), (.long (0 : Int64))])) _
        refine XS.lcmp X119.here hx rfl (hb hby at_190) rfl ?_
        show Steps p.tables e below (T119.setTop (mkF m 191 #[.val (.long q0), .second, .val (.long q1), .second, .val (.long q2), .second, .val (.long q3), .second, .val (.int p4), .val (.ref b54), .val (.long u105), .second, .val (.long u106), .second, .val (.long u63), .second, .val (.long u79), .second, .val (.long u95), .second] [(.int (lcmpW (0 : Int64) (0 : Int64)))])) _
        show Steps p.tables e below (T119.setTop (mkF m 191 #[.val (.long q0), .second, .val (.long q1), .second, .val (.long q2), .second, .val (.long q3), .second, .val (.int p4), .val (.ref b54), .val (.long u105), .second, .val (.long u106), .second, .val (.long u63), .second, .val (.long u79), .second, .val (.long u95), .second] [(.int (lcmpW (0 : Int64) (0 : Int64)))])) _
        refine XS.ifNo X119.here hx rfl (hb hby at_191) rfl ((if0 _ _).trans (teq (own_eqL (by decide : (0 : Int64) = (0 : Int64)))).2) ?_
        show Steps p.tables e below (T119.setTop (mkF m 194 #[.val (.long q0), .second, .val (.long q1), .second, .val (.long q2), .second, .val (.long q3), .second, .val (.int p4), .val (.ref b54), .val (.long u105), .second, .val (.long u106), .second, .val (.long u63), .second, .val (.long u79), .second, .val (.long u95), .second] [])) _
        refine XS.aload X119.here hx rfl (hb hby at_194) rfl rfl ?_
        show Steps p.tables e below (T119.setTop (mkF m 196 #[.val (.long q0), .second, .val (.long q1), .second, .val (.long q2), .second, .val (.long q3), .second, .val (.int p4), .val (.ref b54), .val (.long u105), .second, .val (.long u106), .second, .val (.long u63), .second, .val (.long u79), .second, .val (.long u95), .second] [(.ref b54)])) _
        exact k
      obtain ⟨cq122, kq122, q122a, q122b, q122c⟩ := isOf hZ e119 Q98_3
      obtain ⟨_, _, ⟨T122, L122, k122, n122⟩, -, X122, ⟨Lc122, hQ122, l122, y122, z122⟩, st122⟩ := X119.virtualBack hx (y := (⟨"com/example/careful_quorum/carefulquorum/simulation/SimulatedService", "digest", "()J"⟩ : MethodName)) (z := (⟨"com/example/careful_quorum/carefulquorum/simulation/SimulatedService", "digest", "()J"⟩ : MethodName)) hown (mvT hZ (hw _ (List.mem_of_getElem? (i := 42) rfl))) (mvT hZ (hw _ (List.mem_of_getElem? (i := 43) rfl))) (notFace_of_selects (args := #[]) (mvT hZ (hw _ (List.mem_of_getElem? (i := 45) rfl)))) (mvT hZ (hw _ (List.mem_of_getElem? (i := 45) rfl))) (mvT hZ (hw _ (List.mem_of_getElem? (i := 44) rfl))) (by decide) (backOf (W := 0) (rm8 l Z a0 hw [] b54 (-3750763034362895579 : Int64) h98 n0 Z98 Q98_1) hZ (hw _ (List.mem_of_getElem? (i := 46) rfl)) (hw _ (List.mem_of_getElem? (i := 2) rfl)) (by decide) (by decide)) q122a q122c (g := (mkF m 196 #[.val (.long q0), .second, .val (.long q1), .second, .val (.long q2), .second, .val (.long q3), .second, .val (.int p4), .val (.ref b54), .val (.long u105), .second, .val (.long u106), .second, .val (.long u63), .second, .val (.long u79), .second, .val (.long u95), .second] [(.ref b54)])) rfl (by rw [hml]; rfl) (Steps.refl _) (argsL := []) (rest := []) (lenOf pd_3 rfl) rfl (by show 2 * 0 + _ ≤ _; exact Nat.le_of_eq rfl) (hb hby at_196) (fun _ _ => ⟨rfl, e119, (by decide : 1 + 0 ≤ _), (by decide : 5 + 0 ≤ _)⟩)
      dsimp only [Pt.U, Pt.locs, Pt.cells, Pt.slots] at X122 l122 y122 z122 st122 hQ122
      subst l122 y122 z122
      obtain ⟨rfl, N122q, e122⟩ := hQ122
      have N122 := Fr.app N119 N122q
      have pre123 : ∀ t, Steps p.tables e below (T122.setTop (mkF m 199 #[.val (.long q0), .second, .val (.long q1), .second, .val (.long q2), .second, .val (.long q3), .second, .val (.int p4), .val (.ref b54), .val (.long u105), .second, .val (.long u106), .second, .val (.long u63), .second, .val (.long u79), .second, .val (.long u95), .second] [(.long (-3750763034362895579 : Int64))])) t → Steps p.tables e below (s₁.setTop (entryFrame m #[(.long q0), (.long q1), (.long q2), (.long q3), (.int p4)] maxLocals)) t := fun t k => pre121 t (st122.trans k)
      obtain ⟨fs, hr, hrun, hended, hW, hsame⟩ := X122.leave (v := some (.int (1 : Int32))) (fun h => by rw [Bd.returns] at h; cases h)
      refine ⟨_, _, pre123 _ ?_, hrun, hended, _, _, rfl, ?_, ⟨_, rfl⟩, hW, hsame.mono (by decide) (by decide)⟩
      · show Steps p.tables e below (T122.setTop (mkF m 199 #[.val (.long q0), .second, .val (.long q1), .second, .val (.long q2), .second, .val (.long q3), .second, .val (.int p4), .val (.ref b54), .val (.long u105), .second, .val (.long u106), .second, .val (.long u63), .second, .val (.long u79), .second, .val (.long u95), .second] [(.long (-3750763034362895579 : Int64))])) _
        refine X122.ldc2Long hx hown (mvT hZ (hw _ (List.mem_of_getElem? (i := 47) rfl))) (g := (mkF m 199 #[.val (.long q0), .second, .val (.long q1), .second, .val (.long q2), .second, .val (.long q3), .second, .val (.int p4), .val (.ref b54), .val (.long u105), .second, .val (.long u106), .second, .val (.long u63), .second, .val (.long u79), .second, .val (.long u95), .second] [(.long (-3750763034362895579 : Int64))])) rfl (hb hby at_199) _ ?_
        show Steps p.tables e below (T122.setTop (mkF m 202 #[.val (.long q0), .second, .val (.long q1), .second, .val (.long q2), .second, .val (.long q3), .second, .val (.int p4), .val (.ref b54), .val (.long u105), .second, .val (.long u106), .second, .val (.long u63), .second, .val (.long u79), .second, .val (.long u95), .second] [(.long (-3750763034362895579 : Int64)), (.long (-3750763034362895579 : Int64))])) _
        refine XS.lcmp X122.here hx rfl (hb hby at_202) rfl ?_
        show Steps p.tables e below (T122.setTop (mkF m 203 #[.val (.long q0), .second, .val (.long q1), .second, .val (.long q2), .second, .val (.long q3), .second, .val (.int p4), .val (.ref b54), .val (.long u105), .second, .val (.long u106), .second, .val (.long u63), .second, .val (.long u79), .second, .val (.long u95), .second] [(.int (lcmpW (-3750763034362895579 : Int64) (-3750763034362895579 : Int64)))])) _
        show Steps p.tables e below (T122.setTop (mkF m 203 #[.val (.long q0), .second, .val (.long q1), .second, .val (.long q2), .second, .val (.long q3), .second, .val (.int p4), .val (.ref b54), .val (.long u105), .second, .val (.long u106), .second, .val (.long u63), .second, .val (.long u79), .second, .val (.long u95), .second] [(.int (lcmpW (-3750763034362895579 : Int64) (-3750763034362895579 : Int64)))])) _
        refine XS.ifNo X122.here hx rfl (hb hby at_203) rfl ((if0 _ _).trans (teq (own_eqL (by decide : (-3750763034362895579 : Int64) = (-3750763034362895579 : Int64)))).2) ?_
        show Steps p.tables e below (T122.setTop (mkF m 206 #[.val (.long q0), .second, .val (.long q1), .second, .val (.long q2), .second, .val (.long q3), .second, .val (.int p4), .val (.ref b54), .val (.long u105), .second, .val (.long u106), .second, .val (.long u63), .second, .val (.long u79), .second, .val (.long u95), .second] [])) _
        refine XS.iconst X122.here hx rfl (hb hby at_206) ?_
        show Steps p.tables e below (T122.setTop (mkF m 207 #[.val (.long q0), .second, .val (.long q1), .second, .val (.long q2), .second, .val (.long q3), .second, .val (.int p4), .val (.ref b54), .val (.long u105), .second, .val (.long u106), .second, .val (.long u63), .second, .val (.long u79), .second, .val (.long u95), .second] [(.int (1 : Int32))])) _
        refine XS.goto X122.here hx rfl (pc0 := 207) (pc' := 211) rfl (hb hby at_207) (by decide) (by decide) ?_
        show Steps p.tables e below (T122.setTop (mkF m 211 #[.val (.long q0), .second, .val (.long q1), .second, .val (.long q2), .second, .val (.long q3), .second, .val (.int p4), .val (.ref b54), .val (.long u105), .second, .val (.long u106), .second, .val (.long u63), .second, .val (.long u79), .second, .val (.long u95), .second] [(.int (1 : Int32))])) _
        exact retN X122 hx (t := .boolean) Bd.returns (by simp) (hb hby at_211) hr
      · show Q0 Z q0 q1 q2 q3 p4 h0 n0 _ T122.heap _
        rw [e122]
        exact ⟨rfl, N122⟩
    · have pre124 : ∀ t, Steps p.tables e below (T114.setTop (mkF m 211 #[.val (.long q0), .second, .val (.long q1), .second, .val (.long q2), .second, .val (.long q3), .second, .val (.int p4), .val (.ref b54), .val (.long u105), .second, .val (.long u106), .second, .val (.long u63), .second, .val (.long u79), .second, .val (.long u95), .second] [(.int (0 : Int32))])) t → Steps p.tables e below (s₁.setTop (entryFrame m #[(.long q0), (.long q1), (.long q2), (.long q3), (.int p4)] maxLocals)) t := by
        intro t k
        refine pre116 t ?_
        show Steps p.tables e below (T114.setTop (mkF m 181 #[.val (.long q0), .second, .val (.long q1), .second, .val (.long q2), .second, .val (.long q3), .second, .val (.int p4), .val (.ref b54), .val (.long u105), .second, .val (.long u106), .second, .val (.long u63), .second, .val (.long u79), .second, .val (.long u95), .second] [(.int (lcmpW (g4_misfired u95 (g4_fired u79 (g4_fired u63 (0 : Int64))) (g4_misfired u79 (g4_fired u63 (0 : Int64)) (g4_misfired u63 (0 : Int64) (0 : Int64)))) u106))])) _
        refine XS.ifYes X114.here hx rfl (pc0 := 181) (pc' := 210) rfl (hb hby at_181) rfl ((if0 _ _).trans (feq (own_neL hc181_117)).2) (by decide) (by decide) ?_
        show Steps p.tables e below (T114.setTop (mkF m 210 #[.val (.long q0), .second, .val (.long q1), .second, .val (.long q2), .second, .val (.long q3), .second, .val (.int p4), .val (.ref b54), .val (.long u105), .second, .val (.long u106), .second, .val (.long u63), .second, .val (.long u79), .second, .val (.long u95), .second] [])) _
        refine XS.iconst X114.here hx rfl (hb hby at_210) ?_
        show Steps p.tables e below (T114.setTop (mkF m 211 #[.val (.long q0), .second, .val (.long q1), .second, .val (.long q2), .second, .val (.long q3), .second, .val (.int p4), .val (.ref b54), .val (.long u105), .second, .val (.long u106), .second, .val (.long u63), .second, .val (.long u79), .second, .val (.long u95), .second] [(.int (0 : Int32))])) _
        exact k
      exact (own_leaf1 hu63 hu73 hu74 hu79 hu89 hu90 hu95 hu105 hu106 hc170_112 hc181_117).elim
  · have pre125 : ∀ t, Steps p.tables e below (T109.setTop (mkF m 211 #[.val (.long q0), .second, .val (.long q1), .second, .val (.long q2), .second, .val (.long q3), .second, .val (.int p4), .val (.ref b54), .val (.long u105), .second, .val (.long u106), .second, .val (.long u63), .second, .val (.long u79), .second, .val (.long u95), .second] [(.int (0 : Int32))])) t → Steps p.tables e below (s₁.setTop (entryFrame m #[(.long q0), (.long q1), (.long q2), (.long q3), (.int p4)] maxLocals)) t := by
      intro t k
      refine pre111 t ?_
      show Steps p.tables e below (T109.setTop (mkF m 170 #[.val (.long q0), .second, .val (.long q1), .second, .val (.long q2), .second, .val (.long q3), .second, .val (.int p4), .val (.ref b54), .val (.long u105), .second, .val (.long u106), .second, .val (.long u63), .second, .val (.long u79), .second, .val (.long u95), .second] [(.int (lcmpW (g4_fired u95 (g4_fired u79 (g4_fired u63 (0 : Int64)))) u105))])) _
      refine XS.ifYes X109.here hx rfl (pc0 := 170) (pc' := 210) rfl (hb hby at_170) rfl ((if0 _ _).trans (feq (own_neL hc170_112)).2) (by decide) (by decide) ?_
      show Steps p.tables e below (T109.setTop (mkF m 210 #[.val (.long q0), .second, .val (.long q1), .second, .val (.long q2), .second, .val (.long q3), .second, .val (.int p4), .val (.ref b54), .val (.long u105), .second, .val (.long u106), .second, .val (.long u63), .second, .val (.long u79), .second, .val (.long u95), .second] [])) _
      refine XS.iconst X109.here hx rfl (hb hby at_210) ?_
      show Steps p.tables e below (T109.setTop (mkF m 211 #[.val (.long q0), .second, .val (.long q1), .second, .val (.long q2), .second, .val (.long q3), .second, .val (.int p4), .val (.ref b54), .val (.long u105), .second, .val (.long u106), .second, .val (.long u63), .second, .val (.long u79), .second, .val (.long u95), .second] [(.int (0 : Int32))])) _
      exact k
    exact (own_leaf2 hu63 hu73 hu74 hu79 hu89 hu90 hu95 hu105 hu106 hc170_112).elim
set_option maxRecDepth 65536 in
set_option maxHeartbeats 40000000 in
theorem comes_1 {Post : Tables → Env → Array Value → State → Outcome → State → Prop} (hpost : ∀ tb e args s v u, (limb_1_1.after args s (.returned v) u = true ∧ limb_1_2.after args s (.returned v) u = true ∧ True) → FrameEnd s (.returned v) u (Jvm.fieldLocs frame_1_writes args s ++ Jvm.arrayLocs frame_1_arrays args s ++ Jvm.staticLocs frame_1_statics s) 16 128 → Post tb e args s (.returned v) u) :
    ArmFor flags0 classFile x code maxLocals ret World_1 tables_1 room_1 Calls_1 rest_1 Pre_1 Post := by
  intro l hfl _ _ p e ha hc hk s m args below hf hA hF happ hP
  obtain ⟨hcalls, hrest, hpre⟩ := hP
  obtain ⟨-, -, -, hnamed, -, -, -, hat⟩ := (Spec.applies_iff hf).mp happ
  obtain ⟨hg, hn⟩ := and_e (Cond.before_iff.mp (show (Jvm.Cond.and given_1 narrow_1).before args s = true from hpre))
  obtain ⟨hcount, hg0⟩ := and_e hg
  obtain ⟨ha0, hg1⟩ := and_e hg0
  obtain ⟨ha1, hg2⟩ := and_e hg1
  obtain ⟨ha2, hg3⟩ := and_e hg2
  obtain ⟨ha3, hg4⟩ := and_e hg3
  have ha4 := hg4
  obtain ⟨w0, w1, w2, w3, w4, rfl⟩ : ∃ w0 w1 w2 w3 w4 : Value, args = #[w0, w1, w2, w3, w4] := by
    have hs : args.size = 5 := by simpa [Cond.value, given_1] using hcount
    obtain ⟨L⟩ := args
    match L, hs with
    | [w0, w1, w2, w3, w4], _ => exact ⟨w0, w1, w2, w3, w4, rfl⟩
  have hw := fun d (hd : d ∈ tables_1) => atoms_spec (ws := Jvm.Cond.code x code maxLocals ret :: tables_1) hat d (List.mem_cons_of_mem _ hd)
  have hfit : Fit s := fun {y c} hc i hi => by
    obtain ⟨ha, rfl⟩ := Array.getElem?_eq_some_iff.mp hc
    have q := List.all_eq_true.mp ((Array.all_eq_true_iff_forall_mem.mp hF) _ (Array.getElem_mem ha)) i (List.mem_range.mpr hi)
    simpa [Array.getElem?_eq_getElem hi] using q
  obtain ⟨i0, ei0⟩ := isL_v ha0
  obtain rfl : w0 = (.long i0) := Option.some.inj ei0
  obtain ⟨i1, ei1⟩ := isL_v ha1
  obtain rfl : w1 = (.long i1) := Option.some.inj ei1
  obtain ⟨i2, ei2⟩ := isL_v ha2
  obtain rfl : w2 = (.long i2) := Option.some.inj ei2
  obtain ⟨i3, ei3⟩ := isL_v ha3
  obtain rfl : w3 = (.long i3) := Option.some.inj ei3
  obtain ⟨i4, ei4⟩ := is_v ha4
  obtain rfl : w4 = (.int i4) := Option.some.inj ei4
  obtain ⟨n, o, h1, h2, h3, _, L, rfl, ⟨rfl, N⟩, hq⟩ := rm0 l s _ hw tables_1 i0 i1 i2 i3 i4 s.heap s.heap.size (Nat.le_refl _) p e ha hc hk s m _ below hf ((Spec.applies_iff_loose hf).mp happ).1 ⟨rfl, State.Warmed39.refl s, rfl⟩ trivial
  refine ⟨n, _, h1, h2, h3, hpost _ _ _ _ _ _ ⟨Cond.after_iff.mpr rfl, Cond.after_iff.mpr (eq_i res_at (Term.int_eval (1)) rfl), trivial⟩ ⟨hq.1, hq.2.1, (hq.2.2.sift fun y hy => Or.inr (N y hy)).mono (by decide) (by decide)⟩⟩
theorem main_1_1 : Claimed_1_1 := comes_1 fun _ _ _ _ _ _ h hF => ⟨h.1, hF⟩
theorem main_1_2 : Claimed_1_2 := comes_1 fun _ _ _ _ _ _ h hF => ⟨h.2.1, hF⟩
end Jvm.Pilot.@@N@@
namespace Jvm.Pilot.@@N@@
open Jvm Jvm.ClassFile Sem Op Lib Jvm.Free Jvm.Stand Jvm.Pilot.@@N@@.Jvm.D
/-! MADE BY PROGRAM (witnessworld.py) out of the Statement's table words and the real class files: 9 classes; the members and pool entries that the words name. The judged class is class 1, her method 2. -/
namespace start1
open Jvm.ClassFile
def u (s : String) : CpInfo := .utf8 (stringToUtf16 s)
/-- a pool by its gaps: so many unusable entries, then the entry; so many at the end -/
def gap : Nat → List CpInfo → List CpInfo
  | 0, r => r
  | n + 1, r => .unusable :: gap n r
def poolList (es : List (Nat × CpInfo)) (last : Nat) : List CpInfo := es.foldr (fun e r => gap e.1 (e.2 :: r)) (gap last [])
def pool (es : List (Nat × CpInfo)) (last : Nat) : Array CpInfo := ⟨poolList es last⟩
def fileOf (pool : Array CpInfo) (this : Nat) (attrs : Array Attribute := #[]) (ms : Array MethodInfo := #[]) (fl : Nat := 33) (sup : Nat := 0) (ifs : Array Nat := #[]) (fds : Array FieldInfo := #[]) : ClassFile where
  minorVersion := 0
  majorVersion := 65
  constantPool := pool
  accessFlags := fl
  thisClass := this
  superClass := sup
  interfaces := ifs
  fields := fds
  methods := ms
  attributes := attrs
def plain (name : String) (sup : Option ClassId) : Class where
  name := name
  kind := .ordinary
  loader := none
  accessFlags := 33
  super := sup
  interfaces := #[]
  cf := none
  fields := #[]
  methods := #[]
  instanceTypes := #[]
  staticTypes := #[]
  resolved := #[]
  callSites := []
  init := .initialized
  statics := none
  mirror := none

def pool0 : Array CpInfo := pool [(5, u "<init>"), (0, u "()V"), (1, .class_ 10), (1, u "java/lang/Object")] 113

def k0c0 : Code := { maxStack := 0, maxLocals := 1, code := object_method_1_code, exceptionTable := #[], attributes := #[] }
def k0m0 : Method := { name := "<init>", desc := "()V", sig := { parameters := [], returnType := none }, accessFlags := 1, code := some k0c0 }
/-- java/lang/Object -/
def k0 : Class := { plain "java/lang/Object" none with
  accessFlags := 33
  interfaces := #[]
  cf := some (fileOf pool0 8 #[] #[{ accessFlags := 1, nameIndex := 5, descriptorIndex := 6, attributes := #[] }] 33 0 #[] #[])
  fields := #[]
  methods := #[k0m0]
  instanceTypes := #[]
  staticTypes := #[]
  resolved := Array.replicate 124 none
  statics := none }

def pool1 : Array CpInfo := pool [(2, .class_ 4), (0, .nameAndType 5 6), (0, u "java/lang/Object"), (0, u "<init>"), (0, u "()V"), (0, .long 2), (1, .class_ 10), (0, u "com/example/careful_quorum/carefulquorum/simulation/SimulatedService"), (0, .methodref 9 3), (0, .methodref 13 14), (0, .class_ 15), (0, .nameAndType 16 17), (0, u "com/example/careful_quorum/carefulquorum/simulation/SimulatedServiceTimerFiredPinLaw"), (0, u "pick"), (0, u "(IJJ)J"), (0, .methodref 9 19), (0, .nameAndType 20 21), (0, u "timerFired"), (0, u "(JJ)V"), (0, .methodref 9 23), (0, .nameAndType 24 25), (0, u "fired"), (0, u "()J"), (0, .methodref 9 27), (0, .nameAndType 28 25), (0, u "misfired"), (0, .methodref 9 30), (0, .nameAndType 31 25), (0, u "count"), (0, .methodref 9 33), (0, .nameAndType 34 25), (0, u "digest"), (0, .long 14695981039346656037), (4, u "law"), (0, u "(JJJJI)Z")] 2

def k1m0 : Method := { name := "<init>", desc := "()V", sig := { parameters := [], returnType := none }, accessFlags := 1, code := none }
def k1c1 : Code := { maxStack := 4, maxLocals := 5, code := method_2_code, exceptionTable := #[], attributes := #[] }
def k1m1 : Method := { name := "pick", desc := "(IJJ)J", sig := { parameters := [.int, .long, .long], returnType := some .long }, accessFlags := 10, code := some k1c1 }
def k1c2 : Code := { maxStack := 7, maxLocals := 20, code := code, exceptionTable := #[], attributes := #[] }
def k1m2 : Method := { name := "law", desc := "(JJJJI)Z", sig := { parameters := [.long, .long, .long, .long, .int], returnType := some .boolean }, accessFlags := 9, code := some k1c2 }
/-- com/example/careful_quorum/carefulquorum/simulation/SimulatedServiceTimerFiredPinLaw -/
def k1 : Class := { plain "com/example/careful_quorum/carefulquorum/simulation/SimulatedServiceTimerFiredPinLaw" (some 0) with
  accessFlags := 49
  interfaces := #[]
  cf := some (fileOf pool1 13 #[] #[{ accessFlags := 1, nameIndex := 5, descriptorIndex := 6, attributes := #[] }, { accessFlags := 10, nameIndex := 16, descriptorIndex := 17, attributes := #[] }, { accessFlags := 9, nameIndex := 40, descriptorIndex := 41, attributes := #[] }] 49 2 #[] #[])
  fields := #[]
  methods := #[k1m0, k1m1, k1m2]
  instanceTypes := #[]
  staticTypes := #[]
  resolved := Array.replicate 44 none
  statics := none }

def pool2 : Array CpInfo := pool [(2, .class_ 4), (1, u "com/example/careful_quorum/carefulquorum/member/ReplicatedService"), (2, .class_ 8), (0, u "java/lang/Object")] 15

/-- com/example/careful_quorum/carefulquorum/member/ReplicatedService -/
def k2 : Class := { plain "com/example/careful_quorum/carefulquorum/member/ReplicatedService" (some 0) with
  accessFlags := 1537
  interfaces := #[]
  cf := some (fileOf pool2 2 #[] #[] 1537 7 #[] #[])
  fields := #[]
  methods := #[]
  instanceTypes := #[]
  staticTypes := #[]
  resolved := Array.replicate 24 none
  statics := none }

def pool3 : Array CpInfo := pool [(1, .class_ 2), (0, u "com/example/careful_quorum/carefulquorum/member/SnapshottingService"), (0, .class_ 4), (0, u "java/lang/Object"), (0, .class_ 6), (0, u "com/example/careful_quorum/carefulquorum/member/ReplicatedService")] 9

/-- com/example/careful_quorum/carefulquorum/member/SnapshottingService -/
def k3 : Class := { plain "com/example/careful_quorum/carefulquorum/member/SnapshottingService" (some 0) with
  accessFlags := 1537
  interfaces := #[2]
  cf := some (fileOf pool3 1 #[] #[] 1537 3 #[5] #[])
  fields := #[]
  methods := #[]
  instanceTypes := #[]
  staticTypes := #[]
  resolved := Array.replicate 16 none
  statics := none }

def pool4 : Array CpInfo := pool [(1, .class_ 2), (0, u "com/example/careful_quorum/carefulquorum/simulation/SimulatedService"), (0, .methodref 4 5), (0, .class_ 6), (0, .nameAndType 7 8), (0, u "java/lang/Object"), (0, u "<init>"), (0, u "()V"), (0, .long 14695981039346656037), (1, .fieldref 1 12), (0, .nameAndType 13 14), (0, u "digest"), (0, u "J"), (18, .fieldref 1 34), (0, .nameAndType 35 14), (0, u "count"), (0, .fieldref 1 37), (0, .nameAndType 38 14), (0, u "fired"), (0, .fieldref 1 40), (0, .nameAndType 41 14), (0, u "misfired"), (2, u "timers"), (0, u "Lcom/example/careful_quorum/carefulquorum/member/Timers;"), (11, u "(JJ)V"), (12, u "()J"), (9, .class_ 81), (0, u "com/example/careful_quorum/carefulquorum/member/SnapshottingService"), (0, u "TIMER_MILLIS"), (1, u "DIGEST_START"), (0, u "DIGEST_PRIME"), (0, u "NO_MESSAGES"), (7, u "timerFired")] 28

def k4c0 : Code := { maxStack := 3, maxLocals := 1, code := prog_85_method_1_code, exceptionTable := #[], attributes := #[] }
def k4m0 : Method := { name := "<init>", desc := "()V", sig := { parameters := [], returnType := none }, accessFlags := 0, code := some k4c0 }
def k4c1 : Code := { maxStack := 2, maxLocals := 1, code := prog_85_method_3_code, exceptionTable := #[], attributes := #[] }
def k4m1 : Method := { name := "count", desc := "()J", sig := { parameters := [], returnType := some .long }, accessFlags := 0, code := some k4c1 }
def k4c2 : Code := { maxStack := 2, maxLocals := 1, code := prog_85_method_4_code, exceptionTable := #[], attributes := #[] }
def k4m2 : Method := { name := "digest", desc := "()J", sig := { parameters := [], returnType := some .long }, accessFlags := 0, code := some k4c2 }
def k4c3 : Code := { maxStack := 2, maxLocals := 1, code := prog_85_method_5_code, exceptionTable := #[], attributes := #[] }
def k4m3 : Method := { name := "fired", desc := "()J", sig := { parameters := [], returnType := some .long }, accessFlags := 0, code := some k4c3 }
def k4c4 : Code := { maxStack := 2, maxLocals := 1, code := prog_85_method_6_code, exceptionTable := #[], attributes := #[] }
def k4m4 : Method := { name := "misfired", desc := "()J", sig := { parameters := [], returnType := some .long }, accessFlags := 0, code := some k4c4 }
def k4c5 : Code := { maxStack := 6, maxLocals := 5, code := prog_85_method_9_code, exceptionTable := #[], attributes := #[] }
def k4m5 : Method := { name := "timerFired", desc := "(JJ)V", sig := { parameters := [.long, .long], returnType := none }, accessFlags := 1, code := some k4c5 }
/-- com/example/careful_quorum/carefulquorum/simulation/SimulatedService -/
def k4 : Class := { plain "com/example/careful_quorum/carefulquorum/simulation/SimulatedService" (some 0) with
  accessFlags := 32
  interfaces := #[3]
  cf := some (fileOf pool4 1 #[] #[{ accessFlags := 0, nameIndex := 7, descriptorIndex := 8, attributes := #[] }, { accessFlags := 0, nameIndex := 35, descriptorIndex := 70, attributes := #[] }, { accessFlags := 0, nameIndex := 13, descriptorIndex := 70, attributes := #[] }, { accessFlags := 0, nameIndex := 38, descriptorIndex := 70, attributes := #[] }, { accessFlags := 0, nameIndex := 41, descriptorIndex := 70, attributes := #[] }, { accessFlags := 1, nameIndex := 94, descriptorIndex := 57, attributes := #[] }] 32 4 #[80] #[{ accessFlags := 24, nameIndex := 82, descriptorIndex := 14, attributes := #[] }, { accessFlags := 26, nameIndex := 84, descriptorIndex := 14, attributes := #[] }, { accessFlags := 26, nameIndex := 85, descriptorIndex := 14, attributes := #[] }, { accessFlags := 24, nameIndex := 86, descriptorIndex := 14, attributes := #[] }, { accessFlags := 2, nameIndex := 44, descriptorIndex := 45, attributes := #[] }, { accessFlags := 2, nameIndex := 35, descriptorIndex := 14, attributes := #[] }, { accessFlags := 2, nameIndex := 13, descriptorIndex := 14, attributes := #[] }, { accessFlags := 2, nameIndex := 38, descriptorIndex := 14, attributes := #[] }, { accessFlags := 2, nameIndex := 41, descriptorIndex := 14, attributes := #[] }])
  fields := #[{ name := "TIMER_MILLIS", type := .long, accessFlags := 24, slot := 0, constantValue := 0 }, { name := "DIGEST_START", type := .long, accessFlags := 26, slot := 1, constantValue := 0 }, { name := "DIGEST_PRIME", type := .long, accessFlags := 26, slot := 2, constantValue := 0 }, { name := "NO_MESSAGES", type := .long, accessFlags := 24, slot := 3, constantValue := 0 }, { name := "timers", type := (.object "com/example/careful_quorum/carefulquorum/member/Timers"), accessFlags := 2, slot := 0, constantValue := 0 }, { name := "count", type := .long, accessFlags := 2, slot := 1, constantValue := 0 }, { name := "digest", type := .long, accessFlags := 2, slot := 2, constantValue := 0 }, { name := "fired", type := .long, accessFlags := 2, slot := 3, constantValue := 0 }, { name := "misfired", type := .long, accessFlags := 2, slot := 4, constantValue := 0 }]
  methods := #[k4m0, k4m1, k4m2, k4m3, k4m4, k4m5]
  instanceTypes := #[(.object "com/example/careful_quorum/carefulquorum/member/Timers"), .long, .long, .long, .long]
  staticTypes := #[.long, .long, .long, .long]
  resolved := Array.replicate 123 none
  statics := none }

def pool5 : Array CpInfo := pool [(1, u "java/lang/Cloneable"), (0, .class_ 1), (0, u "java/lang/Object"), (0, .class_ 3)] 3

/-- java/lang/Cloneable -/
def k5 : Class := { plain "java/lang/Cloneable" (some 0) with
  accessFlags := 1537
  interfaces := #[]
  cf := some (fileOf pool5 2 #[] #[] 1537 4 #[] #[])
  fields := #[]
  methods := #[]
  instanceTypes := #[]
  staticTypes := #[]
  resolved := Array.replicate 8 none
  statics := none }

def pool6 : Array CpInfo := pool [(1, u "java/io/Serializable"), (0, .class_ 1), (0, u "java/lang/Object"), (0, .class_ 3)] 3

/-- java/io/Serializable -/
def k6 : Class := { plain "java/io/Serializable" (some 0) with
  accessFlags := 1537
  interfaces := #[]
  cf := some (fileOf pool6 2 #[] #[] 1537 4 #[] #[])
  fields := #[]
  methods := #[]
  instanceTypes := #[]
  staticTypes := #[]
  resolved := Array.replicate 8 none
  statics := none }

/-- the primitive byte -/
def k7 : Class := { plain "byte" none with kind := .primitive 'B', accessFlags := 0x411 }
/-- [B -/
def k8 : Class := { plain "[B" (some 0) with kind := .array 7 .byte, interfaces := #[5, 6], accessFlags := 1041 }

def heap : Heap := #[]
def classes : Array Class := #[k0, k1, k2, k3, k4, k5, k6, k7, k8]
def interned : List (Array UInt16 × Addr) := []
def slotsUsed : Nat := 0
def theMethod : MethodId := ⟨1, 2⟩
def args0 : Array Value := #[.long 5, .long 7, .long 5, .long 7, .int 3]
def aboutOver (below : List Frame) : State where
  vm := { classes := classes, interned := interned.toArray }
  heap := heap
  slotsUsed := slotsUsed
  threads := #[{ frames := .invoking theMethod args0 :: below }]
def below0 : List Frame := [.native { method := ⟨0, 0⟩, args := #[] }]
def about1 : State := aboutOver below0
def p0 : Program := .bare "" "" ""
def e0 : Env := launch0.env 0 0 0
theorem w_frames : about1.frames = Frame.invoking theMethod args0 :: below0 := rfl
set_option maxRecDepth 65536 in
theorem w_args : argsFit about1.vm theMethod args0 = true := by decide +kernel
set_option maxRecDepth 65536 in
theorem w_heap : heapFits about1 = true := by decide +kernel
set_option maxRecDepth 65536 in
theorem w_runnable : about1.curStatus? = some .runnable := by decide +kernel
set_option maxRecDepth 65536 in
theorem w_alone : about1.alone = true := by decide +kernel
set_option maxRecDepth 65536 in
theorem w_named : about1.methodNamed? x = some theMethod := by decide +kernel
set_option maxRecDepth 65536 in
theorem w_hears : about1.hears theMethod below0 = true := by decide +kernel
set_option maxRecDepth 65536 in
theorem w_ripe : about1.ripe theMethod args0 below0 = true := by decide +kernel
theorem w_running : about1.status = .running := rfl
set_option maxRecDepth 65536 in
theorem w_room : about1.hasRoom e0.platform room_1 = true :=
  launch0.hasRoom_least _ room_1 (by decide +kernel) (by decide +kernel) (by decide +kernel) (by decide +kernel) (by decide +kernel) (by decide +kernel)
theorem allAtoms_all (ts : List Jvm.Cond) (a : Array Jvm.Value) (st : Jvm.State) : (allAtoms ts).before a st = ts.all (fun c => c.before a st) := by
  induction ts with
  | nil => rfl
  | cons c t ih =>
    show (Jvm.Cond.and c (allAtoms t)).before a st = _
    rw [Jvm.Cond.before_and, ih, List.all_cons]
def words1 : List Jvm.Cond := Jvm.Cond.code x code maxLocals ret :: tables_1
/-- a 'code' word, met by the world's own term for the bytes: nothing is compared byte by byte -/
theorem code_word {y : MethodName} {bytes : ByteArray} {mx : Nat} {rt : Option FieldType} {a : Array Value} {s : State} {m : MethodId} {meth : Method} {c : Code} (h1 : s.methodNamed? y = some m) (h2 : s.vm.method? m = some meth) (h3 : meth.code = some c) (h4 : c.code = bytes)
    (h5 : (c.maxLocals == mx && c.exceptionTable.isEmpty && decide (c.maxStack ≤ mostOperands) && decide (meth.sig.returnType = rt) && !meth.locks && decide (parseMethodDescriptor y.desc = some meth.sig)) = true) : (Jvm.Cond.code y bytes mx rt).before a s = true := by
  simp only [Bool.and_eq_true, beq_iff_eq, Bool.not_eq_true', decide_eq_true_eq] at h5
  obtain ⟨⟨⟨⟨⟨g1, g2⟩, g3⟩, g4⟩, g5⟩, g6⟩ := h5
  simp [Cond.before, Cond.holds, Cond.value, h1, h2, h3, h4, g1, g2, g3, g4, g5, g6]
def isCode : Jvm.Cond → Bool
  | .code _ _ _ _ => true
  | _ => false
theorem all_split {L : List Jvm.Cond} {P : Jvm.Cond → Bool} (h1 : L.all (fun c => isCode c || P c) = true) (h2 : ∀ c ∈ L.filter isCode, P c = true) : L.all P = true := by
  refine List.all_eq_true.mpr fun c hc => ?_
  have h := List.all_eq_true.mp h1 c hc
  rcases Bool.eq_false_or_eq_true (isCode c) with hi | hi
  · exact h2 c (List.mem_filter.mpr ⟨hc, hi⟩)
  · simpa [hi] using h
set_option maxRecDepth 65536 in
theorem w_c0 : (Jvm.Cond.code x code maxLocals ret).before args0 about1 = true := code_word (m := ⟨1, 2⟩) (meth := k1m2) (c := k1c2) (by decide +kernel) rfl rfl rfl (by decide +kernel)
set_option maxRecDepth 65536 in
theorem w_c1 : (Jvm.Cond.code ({ cls := "com/example/careful_quorum/carefulquorum/simulation/SimulatedService", name := "<init>", desc := "()V" } : Jvm.MethodName) prog_85_method_1_code (1 : Nat) (Option.none : Option Jvm.ClassFile.FieldType)).before args0 about1 = true := code_word (m := ⟨4, 0⟩) (meth := k4m0) (c := k4c0) (by decide +kernel) rfl rfl rfl (by decide +kernel)
set_option maxRecDepth 65536 in
theorem w_c2 : (Jvm.Cond.code ({ cls := "java/lang/Object", name := "<init>", desc := "()V" } : Jvm.MethodName) object_method_1_code (1 : Nat) (Option.none : Option Jvm.ClassFile.FieldType)).before args0 about1 = true := code_word (m := ⟨0, 0⟩) (meth := k0m0) (c := k0c0) (by decide +kernel) rfl rfl rfl (by decide +kernel)
set_option maxRecDepth 65536 in
theorem w_c3 : (Jvm.Cond.code ({ cls := "com/example/careful_quorum/carefulquorum/simulation/SimulatedServiceTimerFiredPinLaw", name := "pick", desc := "(IJJ)J" } : Jvm.MethodName) method_2_code (5 : Nat) (Option.some Jvm.ClassFile.FieldType.long)).before args0 about1 = true := code_word (m := ⟨1, 1⟩) (meth := k1m1) (c := k1c1) (by decide +kernel) rfl rfl rfl (by decide +kernel)
set_option maxRecDepth 65536 in
theorem w_c4 : (Jvm.Cond.code ({ cls := "com/example/careful_quorum/carefulquorum/simulation/SimulatedService", name := "timerFired", desc := "(JJ)V" } : Jvm.MethodName) prog_85_method_9_code (5 : Nat) (Option.none : Option Jvm.ClassFile.FieldType)).before args0 about1 = true := code_word (m := ⟨4, 5⟩) (meth := k4m5) (c := k4c5) (by decide +kernel) rfl rfl rfl (by decide +kernel)
set_option maxRecDepth 65536 in
theorem w_c5 : (Jvm.Cond.code ({ cls := "com/example/careful_quorum/carefulquorum/simulation/SimulatedService", name := "fired", desc := "()J" } : Jvm.MethodName) prog_85_method_5_code (1 : Nat) (Option.some Jvm.ClassFile.FieldType.long)).before args0 about1 = true := code_word (m := ⟨4, 3⟩) (meth := k4m3) (c := k4c3) (by decide +kernel) rfl rfl rfl (by decide +kernel)
set_option maxRecDepth 65536 in
theorem w_c6 : (Jvm.Cond.code ({ cls := "com/example/careful_quorum/carefulquorum/simulation/SimulatedService", name := "misfired", desc := "()J" } : Jvm.MethodName) prog_85_method_6_code (1 : Nat) (Option.some Jvm.ClassFile.FieldType.long)).before args0 about1 = true := code_word (m := ⟨4, 4⟩) (meth := k4m4) (c := k4c4) (by decide +kernel) rfl rfl rfl (by decide +kernel)
set_option maxRecDepth 65536 in
theorem w_c7 : (Jvm.Cond.code ({ cls := "com/example/careful_quorum/carefulquorum/simulation/SimulatedService", name := "count", desc := "()J" } : Jvm.MethodName) prog_85_method_3_code (1 : Nat) (Option.some Jvm.ClassFile.FieldType.long)).before args0 about1 = true := code_word (m := ⟨4, 1⟩) (meth := k4m1) (c := k4c1) (by decide +kernel) rfl rfl rfl (by decide +kernel)
set_option maxRecDepth 65536 in
theorem w_c8 : (Jvm.Cond.code ({ cls := "com/example/careful_quorum/carefulquorum/simulation/SimulatedService", name := "digest", desc := "()J" } : Jvm.MethodName) prog_85_method_4_code (1 : Nat) (Option.some Jvm.ClassFile.FieldType.long)).before args0 about1 = true := code_word (m := ⟨4, 2⟩) (meth := k4m2) (c := k4c2) (by decide +kernel) rfl rfl rfl (by decide +kernel)
def codes1 : List Jvm.Cond := [Jvm.Cond.code x code maxLocals ret, Jvm.Cond.code ({ cls := "com/example/careful_quorum/carefulquorum/simulation/SimulatedService", name := "<init>", desc := "()V" } : Jvm.MethodName) prog_85_method_1_code (1 : Nat) (Option.none : Option Jvm.ClassFile.FieldType), Jvm.Cond.code ({ cls := "java/lang/Object", name := "<init>", desc := "()V" } : Jvm.MethodName) object_method_1_code (1 : Nat) (Option.none : Option Jvm.ClassFile.FieldType), Jvm.Cond.code ({ cls := "com/example/careful_quorum/carefulquorum/simulation/SimulatedServiceTimerFiredPinLaw", name := "pick", desc := "(IJJ)J" } : Jvm.MethodName) method_2_code (5 : Nat) (Option.some Jvm.ClassFile.FieldType.long), Jvm.Cond.code ({ cls := "com/example/careful_quorum/carefulquorum/simulation/SimulatedService", name := "timerFired", desc := "(JJ)V" } : Jvm.MethodName) prog_85_method_9_code (5 : Nat) (Option.none : Option Jvm.ClassFile.FieldType), Jvm.Cond.code ({ cls := "com/example/careful_quorum/carefulquorum/simulation/SimulatedService", name := "fired", desc := "()J" } : Jvm.MethodName) prog_85_method_5_code (1 : Nat) (Option.some Jvm.ClassFile.FieldType.long), Jvm.Cond.code ({ cls := "com/example/careful_quorum/carefulquorum/simulation/SimulatedService", name := "misfired", desc := "()J" } : Jvm.MethodName) prog_85_method_6_code (1 : Nat) (Option.some Jvm.ClassFile.FieldType.long), Jvm.Cond.code ({ cls := "com/example/careful_quorum/carefulquorum/simulation/SimulatedService", name := "count", desc := "()J" } : Jvm.MethodName) prog_85_method_3_code (1 : Nat) (Option.some Jvm.ClassFile.FieldType.long), Jvm.Cond.code ({ cls := "com/example/careful_quorum/carefulquorum/simulation/SimulatedService", name := "digest", desc := "()J" } : Jvm.MethodName) prog_85_method_4_code (1 : Nat) (Option.some Jvm.ClassFile.FieldType.long)]
set_option maxRecDepth 65536 in
theorem codes_eq : words1.filter isCode = codes1 := rfl
theorem w_codes : ∀ c ∈ words1.filter isCode, c.before args0 about1 = true := by
  rw [codes_eq]
  intro c hc
  simp only [codes1, List.mem_cons, List.not_mem_nil, or_false] at hc
  rcases hc with rfl | rfl | rfl | rfl | rfl | rfl | rfl | rfl | rfl
  · exact w_c0
  · exact w_c1
  · exact w_c2
  · exact w_c3
  · exact w_c4
  · exact w_c5
  · exact w_c6
  · exact w_c7
  · exact w_c8
set_option maxRecDepth 65536 in
theorem w_t1 : (words1.take 24).all (fun c => isCode c || c.before args0 about1) = true := by decide +kernel
set_option maxRecDepth 65536 in
theorem w_t2 : ((words1.drop 24).take 24).all (fun c => isCode c || c.before args0 about1) = true := by decide +kernel
set_option maxRecDepth 65536 in
theorem w_t3 : ((words1.drop 24).drop 24).all (fun c => isCode c || c.before args0 about1) = true := by decide +kernel
theorem w_tables : (allAtoms (Jvm.Cond.code x code maxLocals ret :: tables_1)).before args0 about1 = true := by
  rw [allAtoms_all]
  show words1.all (fun c => c.before args0 about1) = true
  refine all_split ?_ w_codes
  rw [← List.take_append_drop 24 words1, List.all_append, w_t1, ← List.take_append_drop 24 (words1.drop 24), List.all_append, w_t2, w_t3]
  rfl
set_option maxRecDepth 65536 in
theorem w_case : (Jvm.Cond.and given_1 narrow_1).before args0 about1 = true := by decide +kernel
theorem w_applies : (headSpec (Jvm.Cond.code x code maxLocals ret :: tables_1) room_1).applies x e0.platform about1 = true :=
  (Spec.applies_iff w_frames).mpr ⟨w_running, w_runnable, w_alone, w_named, w_hears, w_ripe, w_room, w_tables⟩
theorem atStart : AtStart classFile x code maxLocals ret World_1 tables_1 room_1 Calls_1 rest_1 Pre_1 launch0 p0 e0 about1 theMethod args0 below0 :=
  ⟨lists_1, trivial, launch0.admits_env _ _ _, launch0.least_env, fairChoices_fair.cas, fairChoices_fair.clock, w_frames, w_args, w_heap, w_applies, trivial, trivial, w_case⟩
end start1
theorem witness_1 : WitnessClaimed_1 := ⟨start1.p0, start1.e0, start1.about1, start1.theMethod, start1.args0, start1.below0, start1.atStart⟩
end Jvm.Pilot.@@N@@
