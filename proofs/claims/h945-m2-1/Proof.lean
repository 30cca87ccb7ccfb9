import JvmDerived
import JvmDerived.Pilot.@@N@@Statement
import JvmDerived.Pilot.@@N@@Code
set_option linter.unusedVariables false
set_option linter.unusedSimpArgs false
@@BLOCK:NumsL.lean.txt@@
@@BLOCK:Masks.lean.txt@@
namespace Jvm.Pilot.@@N@@
open Jvm Jvm.ClassFile Sem Op Lib Jvm.Free Jvm.Stand Jvm.LawKit Jvm.RoadKit Bundle Jvm.Pilot.@@N@@.Jvm.D
theorem own_eqL {x y : Int64} (h : x = y) : lcmpW x y = 0 := by rw [lcW]; exact (lc_eq x y).2 h
theorem own_neL {x y : Int64} (h : ¬ x = y) : ¬ lcmpW x y = 0 := by rw [lcW]; exact fun q => h ((lc_eq x y).1 q)
theorem own_ltL {x y : Int64} (h : x < y) : lcmpW x y < 0 := by rw [lcW]; exact (lc_lt x y).2 h
theorem own_nltL {x y : Int64} (h : ¬ x < y) : ¬ lcmpW x y < 0 := by rw [lcW]; exact fun q => h ((lc_lt x y).1 q)
theorem own_gtL {x y : Int64} (h : y < x) : 0 < lcmpW x y := by rw [lcW]; exact (lc_gt x y).2 h
theorem own_ns_exa {Z : State} {h : Heap} {a : Addr} {C : String} (E : Exa Z h a C) : ∀ cell : Cell, h[a]? = some cell → cell.vm.isStatics = false := by
  obtain ⟨c, k, h1, -, -, h4, -⟩ := E
  intro cell hc; cases h1.symm.trans hc; exact h4
theorem own_ns1 {h : Heap} {a : Addr} (p : ∀ cell : Cell, h[a]? = some cell → cell.vm.isStatics = false) : ∀ x ∈ [a], ∀ cell : Cell, h[x]? = some cell → cell.vm.isStatics = false := by
  intro x hx; cases List.mem_singleton.mp hx; exact p
theorem own_ns2 {h : Heap} {a b : Addr} (p : ∀ cell : Cell, h[a]? = some cell → cell.vm.isStatics = false) (q : ∀ cell : Cell, h[b]? = some cell → cell.vm.isStatics = false) : ∀ x ∈ [a, b], ∀ cell : Cell, h[x]? = some cell → cell.vm.isStatics = false := by
  intro x hx; simp only [List.mem_cons, List.not_mem_nil, or_false] at hx; rcases hx with rfl | rfl <;> first | exact p | exact q
theorem own_sta_keep {Z : State} {h h' : Heap} {ws : List Addr} {C n d : String} {v : Value} (F : Sta Z h C n d v) (K : Keep h h' ws) (hn : ∀ x ∈ ws, ∀ cell : Cell, h[x]? = some cell → cell.vm.isStatics = false) : Sta Z h' C n d v := by
  obtain ⟨cf, i, k, f, st, cell, h1, h2, h3, h4, h5, h6, r⟩ := F
  exact ⟨cf, i, k, f, st, cell, h1, h2, h3, h4, K.2.1 _ _ h5 (fun q => by rw [hn _ q _ h5] at h6; cases h6), h6, r⟩
theorem own_sta_keep0 {Z : State} {h h' : Heap} {C n d : String} {v : Value} (F : Sta Z h C n d v) (K : Keep h h' []) : Sta Z h' C n d v := by
  obtain ⟨cf, i, k, f, st, cell, h1, h2, h3, h4, h5, r⟩ := F
  exact ⟨cf, i, k, f, st, cell, h1, h2, h3, h4, K.2.1 _ _ h5 List.not_mem_nil, r⟩
theorem own_ngtL {x y : Int64} (h : ¬ y < x) : ¬ 0 < lcmpW x y := by rw [lcW]; exact fun q => h ((lc_gt x y).1 q)
theorem pn_0 : plainName "com/example/timely_exodus/timelyexodus/plan/Vehicle" = true := by first | (simp [plainName, overriddenIn]; done) | decide +kernel
theorem d1_0 : decode prog_38_method_1_code 0 = .ok (.aload_n 0, 1) := by decide +kernel
theorem d1_1 : decode prog_38_method_1_code 1 = .ok (.invokespecial 1, 3) := by decide +kernel
theorem d1_4 : decode prog_38_method_1_code 4 = .ok (.iload_n 1, 1) := by decide +kernel
theorem d1_5 : decode prog_38_method_1_code 5 = .ok (.iconst 1, 1) := by decide +kernel
theorem d1_6 : decode prog_38_method_1_code 6 = .ok (.if_icmp .lt 13, 3) := by decide +kernel
theorem d1_9 : decode prog_38_method_1_code 9 = .ok (.iload_n 2, 1) := by decide +kernel
theorem d1_10 : decode prog_38_method_1_code 10 = .ok (.iconst 1, 1) := by decide +kernel
theorem d1_11 : decode prog_38_method_1_code 11 = .ok (.if_icmp .lt 8, 3) := by decide +kernel
theorem d1_14 : decode prog_38_method_1_code 14 = .ok (.aload_n 3, 1) := by decide +kernel
theorem d1_15 : decode prog_38_method_1_code 15 = .ok (.arraylength, 1) := by decide +kernel
theorem d1_16 : decode prog_38_method_1_code 16 = .ok (.ifCond .ne 13, 3) := by decide +kernel
theorem d1_29 : decode prog_38_method_1_code 29 = .ok (.aload_n 0, 1) := by decide +kernel
theorem d1_30 : decode prog_38_method_1_code 30 = .ok (.iload_n 1, 1) := by decide +kernel
theorem d1_31 : decode prog_38_method_1_code 31 = .ok (.putfield 14, 3) := by decide +kernel
theorem d1_34 : decode prog_38_method_1_code 34 = .ok (.aload_n 0, 1) := by decide +kernel
theorem d1_35 : decode prog_38_method_1_code 35 = .ok (.iload_n 2, 1) := by decide +kernel
theorem d1_36 : decode prog_38_method_1_code 36 = .ok (.putfield 20, 3) := by decide +kernel
theorem d1_39 : decode prog_38_method_1_code 39 = .ok (.aload_n 0, 1) := by decide +kernel
theorem d1_40 : decode prog_38_method_1_code 40 = .ok (.aload_n 3, 1) := by decide +kernel
theorem d1_41 : decode prog_38_method_1_code 41 = .ok (.invokevirtual 23, 3) := by decide +kernel
theorem d1_44 : decode prog_38_method_1_code 44 = .ok (.checkcast 24, 3) := by decide +kernel
theorem d1_47 : decode prog_38_method_1_code 47 = .ok (.putfield 29, 3) := by decide +kernel
theorem d1_50 : decode prog_38_method_1_code 50 = .ok (.return_, 1) := by decide +kernel
theorem ef_1 (m : MethodId) (x0 : Addr) (x1 : Int32) (x2 : Int32) (x3 : Addr) : entryFrame m #[(.ref x0), (.int x1), (.int x2), (.ref x3)] 4 = mkF m 0 #[.val (.ref x0), .val (.int x1), .val (.int x2), .val (.ref x3)] [] := by first | (simp [entryFrame, mkF, argsToLocals, Value.category]; done) | rfl
def Q1_n1 (Z : State) (a0 : Addr) (p1 : Int32) (p2 : Int32) (a3 : Addr) (k_a3 : ClassId) (x0 : Int32) (w_departurePeriod_a0 : Int32) (w_route_a0 : Value) (w_number_a0 : Int32) (h0 : Heap) (n0 : Nat) (v : Option Value) (h : Heap) (L : List Loc) : Prop := ∃ (b : Addr) (k_b : ClassId), v = none ∧ Fr n0 L ∧ Keep h0 h [a0] ∧ Exa Z h a0 "com/example/timely_exodus/timelyexodus/plan/Vehicle" ∧ Fld Z h a0 "com/example/timely_exodus/timelyexodus/plan/Vehicle" "number" "I" (.int p1) ∧ Fld Z h a0 "com/example/timely_exodus/timelyexodus/plan/Vehicle" "departurePeriod" "I" (.int p2) ∧ Fld Z h a0 "com/example/timely_exodus/timelyexodus/plan/Vehicle" "route" "[I" (.ref b) ∧ h0.size ≤ b ∧ Arv Z h b k_b .int (1 : Int32) [(.int x0)] (.int (0 : Int32)) ∧ Exa Z h b "[I"
set_option maxRecDepth 65536 in
set_option maxHeartbeats 40000000 in
theorem rm1_n1 (l : Launch) (Z : State) (ar0 : Array Value) (hw : ∀ d ∈ tables_1, d.before ar0 Z = true) (ws : List Jvm.Cond) (a0 : Addr) (p1 : Int32) (p2 : Int32) (a3 : Addr) (k_a3 : ClassId) (x0 : Int32) (w_departurePeriod_a0 : Int32) (w_route_a0 : Value) (w_number_a0 : Int32) (h0 : Heap) (n0 : Nat) (Z0 : n0 ≤ h0.size) (V_a3 : Arv Z h0 a3 k_a3 .int (1 : Int32) [(.int x0)] (.int (0 : Int32))) (E_a3 : Exa Z h0 a3 "[I") (F_departurePeriod_a0 : Fld Z h0 a0 "com/example/timely_exodus/timelyexodus/plan/Vehicle" "departurePeriod" "I" (.int w_departurePeriod_a0)) (F_route_a0 : Fld Z h0 a0 "com/example/timely_exodus/timelyexodus/plan/Vehicle" "route" "[I" w_route_a0) (hk6 : ¬ (p1 < (1 : Int32))) (hk11 : ¬ (p2 < (1 : Int32))) (E_a0 : Exa Z h0 a0 "com/example/timely_exodus/timelyexodus/plan/Vehicle") (F_number_a0 : Fld Z h0 a0 "com/example/timely_exodus/timelyexodus/plan/Vehicle" "number" "I" (.int w_number_a0)) (g_a0 : n0 ≤ a0) (ne_a3_a0 : a3 ≠ a0) :
    MetFree l (⟨"com/example/timely_exodus/timelyexodus/plan/Vehicle", "<init>", "(II[I)V"⟩ : MethodName) (head1 (Jvm.Cond.code (⟨"com/example/timely_exodus/timelyexodus/plan/Vehicle", "<init>", "(II[I)V"⟩ : MethodName) prog_38_method_1_code 4 none :: ws) ({ frames := 1, cells := 1, slots := 1, locals := 15 } : Room)) (fun a U => a = #[(.ref a0), (.int p1), (.int p2), (.ref a3)] ∧ Z.Warmed39 U.vm ∧ U.heap = h0) (fun _ _ _ _ _ => True) (fun _ U o U' => ∃ v L, o = .returned v ∧ Q1_n1 Z a0 p1 p2 a3 k_a3 x0 w_departurePeriod_a0 w_route_a0 w_number_a0 h0 n0 v U'.heap L ∧ FrameEnd U o U' L ({ frames := 1, cells := 1, slots := 1, locals := 15 } : Room).cells ({ frames := 1, cells := 1, slots := 1, locals := 15 } : Room).slots) := by
  refine MetFree.of_bodySF (plainFor_of_name pn_0) hisR ?_
  intro p e s m args below meth c s₁ Bd hml0 hP hK
  obtain ⟨rfl, hZ, hh⟩ := hP
  have hx := Bd.exec
  have hby := Bd.bytes
  have hml : c.maxLocals = 4 := hml0
  have hown : s.vm.findClass "com/example/timely_exodus/timelyexodus/plan/Vehicle" = some m.cls := findClass_of_methodNamed Bd.named
  have hnm := (name_of_methodNamed Bd.named Bd.method).1
  have X0 : Stand p l e ({ frames := 1, cells := 1, slots := 1, locals := 15 } : Room) s m #[(.ref a0), (.int p1), (.int p2), (.ref a3)] below meth c s₁ [] 0 0 := Stand.of_body Bd
  have e0 : s₁.heap = h0 := by rw [← hh, Bd.state]; rfl
  have N0 := Fr.nil n0
  have pre0 : ∀ t, Steps p.tables e below (s₁.setTop (mkF m 0 #[.val (.ref a0), .val (.int p1), .val (.int p2), .val (.ref a3)] [])) t → Steps p.tables e below (s₁.setTop (entryFrame m #[(.ref a0), (.int p1), (.int p2), (.ref a3)] 4)) t := fun t k => castTop (ef_1 m a0 p1 p2 a3) k
  have pre1 : ∀ t, Steps p.tables e below (s₁.setTop (mkF m 1 #[.val (.ref a0), .val (.int p1), .val (.int p2), .val (.ref a3)] [(.ref a0)])) t → Steps p.tables e below (s₁.setTop (entryFrame m #[(.ref a0), (.int p1), (.int p2), (.ref a3)] 4)) t := by
    intro t k
    refine pre0 t ?_
    show Steps p.tables e below (s₁.setTop (mkF m 0 #[.val (.ref a0), .val (.int p1), .val (.int p2), .val (.ref a3)] [])) _
    refine XS.aloadN X0.here hx rfl (hb hby d1_0) rfl rfl ?_
    show Steps p.tables e below (s₁.setTop (mkF m 1 #[.val (.ref a0), .val (.int p1), .val (.int p2), .val (.ref a3)] [(.ref a0)])) _
    exact k
  obtain ⟨T2, X2, e2, st2⟩ := initO X0 hx hZ hown (hw _ (List.mem_of_getElem? (i := 8) rfl)) (hw _ (List.mem_of_getElem? (i := 9) rfl)) (hw _ (List.mem_of_getElem? (i := 10) rfl)) e0 (g := (mkF m 1 #[.val (.ref a0), .val (.int p1), .val (.int p2), .val (.ref a3)] [(.ref a0)])) rfl (by rw [hml]; rfl) rfl (hb hby d1_1) (by decide) (W := 0) (by show 2 * 0 + _ ≤ _; exact Nat.le_of_eq rfl) (by decide)
  have pre3 : ∀ t, Steps p.tables e below (T2.setTop (mkF m 4 #[.val (.ref a0), .val (.int p1), .val (.int p2), .val (.ref a3)] [])) t → Steps p.tables e below (s₁.setTop (entryFrame m #[(.ref a0), (.int p1), (.int p2), (.ref a3)] 4)) t := fun t k => pre1 t (st2 t k)
  have pre4 : ∀ t, Steps p.tables e below (T2.setTop (mkF m 15 #[.val (.ref a0), .val (.int p1), .val (.int p2), .val (.ref a3)] [(.ref a3)])) t → Steps p.tables e below (s₁.setTop (entryFrame m #[(.ref a0), (.int p1), (.int p2), (.ref a3)] 4)) t := by
    intro t k
    refine pre3 t ?_
    show Steps p.tables e below (T2.setTop (mkF m 4 #[.val (.ref a0), .val (.int p1), .val (.int p2), .val (.ref a3)] [])) _
    refine XS.iloadN X2.here hx rfl (hb hby d1_4) rfl ?_
    show Steps p.tables e below (T2.setTop (mkF m 5 #[.val (.ref a0), .val (.int p1), .val (.int p2), .val (.ref a3)] [(.int p1)])) _
    refine XS.iconst X2.here hx rfl (hb hby d1_5) ?_
    show Steps p.tables e below (T2.setTop (mkF m 6 #[.val (.ref a0), .val (.int p1), .val (.int p2), .val (.ref a3)] [(.int (1 : Int32)), (.int p1)])) _
    show Steps p.tables e below (T2.setTop (mkF m 6 #[.val (.ref a0), .val (.int p1), .val (.int p2), .val (.ref a3)] [(.int (1 : Int32)), (.int p1)])) _
    refine XS.icmpNo X2.here hx rfl (hb hby d1_6) rfl (flt hk6).1 ?_
    show Steps p.tables e below (T2.setTop (mkF m 9 #[.val (.ref a0), .val (.int p1), .val (.int p2), .val (.ref a3)] [])) _
    refine XS.iloadN X2.here hx rfl (hb hby d1_9) rfl ?_
    show Steps p.tables e below (T2.setTop (mkF m 10 #[.val (.ref a0), .val (.int p1), .val (.int p2), .val (.ref a3)] [(.int p2)])) _
    refine XS.iconst X2.here hx rfl (hb hby d1_10) ?_
    show Steps p.tables e below (T2.setTop (mkF m 11 #[.val (.ref a0), .val (.int p1), .val (.int p2), .val (.ref a3)] [(.int (1 : Int32)), (.int p2)])) _
    show Steps p.tables e below (T2.setTop (mkF m 11 #[.val (.ref a0), .val (.int p1), .val (.int p2), .val (.ref a3)] [(.int (1 : Int32)), (.int p2)])) _
    refine XS.icmpNo X2.here hx rfl (hb hby d1_11) rfl (flt hk11).1 ?_
    show Steps p.tables e below (T2.setTop (mkF m 14 #[.val (.ref a0), .val (.int p1), .val (.int p2), .val (.ref a3)] [])) _
    refine XS.aloadN X2.here hx rfl (hb hby d1_14) rfl rfl ?_
    show Steps p.tables e below (T2.setTop (mkF m 15 #[.val (.ref a0), .val (.int p1), .val (.int p2), .val (.ref a3)] [(.ref a3)])) _
    exact k
  obtain ⟨cl5, Ar5, q5, S5, M5, H5, G5⟩ := id V_a3
  have pre6 : ∀ t, Steps p.tables e below (T2.setTop (mkF m 31 #[.val (.ref a0), .val (.int p1), .val (.int p2), .val (.ref a3)] [(.int p1), (.ref a0)])) t → Steps p.tables e below (s₁.setTop (entryFrame m #[(.ref a0), (.int p1), (.int p2), (.ref a3)] 4)) t := by
    intro t k
    refine pre4 t ?_
    show Steps p.tables e below (T2.setTop (mkF m 15 #[.val (.ref a0), .val (.int p1), .val (.int p2), .val (.ref a3)] [(.ref a3)])) _
    refine X2.arraylength hx (by rw [e2]; exact Ar5.1) (State.isArrayOf_alike hZ.alike Ar5.2.1) (g := (mkF m 15 #[.val (.ref a0), .val (.int p1), .val (.int p2), .val (.ref a3)] [(.ref a3)])) rfl rfl (hb hby d1_15) _ ?_
    rw [len_of S5 M5]
    show Steps p.tables e below (T2.setTop (mkF m 16 #[.val (.ref a0), .val (.int p1), .val (.int p2), .val (.ref a3)] [(.int (1 : Int32))])) _
    show Steps p.tables e below (T2.setTop (mkF m 16 #[.val (.ref a0), .val (.int p1), .val (.int p2), .val (.ref a3)] [(.int (1 : Int32))])) _
    refine XS.ifYes X2.here hx rfl (pc0 := 16) (pc' := 29) rfl (hb hby d1_16) rfl ((if0 _ _).trans (feq (by decide : ¬ (1 : Int32) = (0 : Int32))).2) (by decide) (by decide) ?_
    show Steps p.tables e below (T2.setTop (mkF m 29 #[.val (.ref a0), .val (.int p1), .val (.int p2), .val (.ref a3)] [])) _
    refine XS.aloadN X2.here hx rfl (hb hby d1_29) rfl rfl ?_
    show Steps p.tables e below (T2.setTop (mkF m 30 #[.val (.ref a0), .val (.int p1), .val (.int p2), .val (.ref a3)] [(.ref a0)])) _
    refine XS.iloadN X2.here hx rfl (hb hby d1_30) rfl ?_
    show Steps p.tables e below (T2.setTop (mkF m 31 #[.val (.ref a0), .val (.int p1), .val (.int p2), .val (.ref a3)] [(.int p1), (.ref a0)])) _
    exact k
  obtain ⟨T7, h7, X7, e7, W7, st7⟩ := putF X2 hx hZ hown (host := "") (Or.inl (hw _ (List.mem_of_getElem? (i := 11) rfl))) Via.refl e2 F_number_a0 E_a0 (Or.inr ⟨(hw _ (List.mem_of_getElem? (i := 12) rfl)), rfl, hnm⟩) (hw _ (List.mem_of_getElem? (i := 3) rfl)) (ty := .int) (by decide) rfl rfl (g := (mkF m 31 #[.val (.ref a0), .val (.int p1), .val (.int p2), .val (.ref a3)] [(.int p1), (.ref a0)])) rfl rfl (hb hby d1_31)
  have Z7 : n0 ≤ h7.size := Nat.le_trans Z0 (Keep.of_wr W7).1
  have K7 : Keep h0 h7 [a0] := (Keep.refl h0 [a0]).wr W7 (Or.inl (List.mem_of_getElem? (i := 0) rfl))
  have N7 := Fr.snoc X7 N0 g_a0
  have Vf8 : Arv Z h7 a3 k_a3 .int (1 : Int32) [(.int x0)] (.int (0 : Int32)) := (V_a3).other W7 ne_a3_a0
  have Ef9 : Exa Z h7 a3 "[I" := (E_a3).wr W7
  have Ff10 : Fld Z h7 a0 "com/example/timely_exodus/timelyexodus/plan/Vehicle" "departurePeriod" "I" (.int w_departurePeriod_a0) := (F_departurePeriod_a0).other W7 (Or.inr (slot_ne (Or.inr (hw _ (List.mem_of_getElem? (i := 14) rfl))) (Or.inr (hw _ (List.mem_of_getElem? (i := 12) rfl))) (by decide) (t := .int) (t' := .int) (by decide) (by decide)))
  have Ff11 : Fld Z h7 a0 "com/example/timely_exodus/timelyexodus/plan/Vehicle" "route" "[I" w_route_a0 := (F_route_a0).other W7 (Or.inr (slot_ne (Or.inr (hw _ (List.mem_of_getElem? (i := 25) rfl))) (Or.inr (hw _ (List.mem_of_getElem? (i := 12) rfl))) (by decide) (t := (.array .int)) (t' := .int) (by decide) (by decide)))
  have Ef12 : Exa Z h7 a0 "com/example/timely_exodus/timelyexodus/plan/Vehicle" := (E_a0).wr W7
  have Fw7 : Fld Z h7 a0 "com/example/timely_exodus/timelyexodus/plan/Vehicle" "number" "I" (.int p1) := (F_number_a0).same W7
  have pre13 : ∀ t, Steps p.tables e below (T7.setTop (mkF m 34 #[.val (.ref a0), .val (.int p1), .val (.int p2), .val (.ref a3)] [])) t → Steps p.tables e below (s₁.setTop (entryFrame m #[(.ref a0), (.int p1), (.int p2), (.ref a3)] 4)) t := fun t k => pre6 t (st7 t k)
  have pre14 : ∀ t, Steps p.tables e below (T7.setTop (mkF m 36 #[.val (.ref a0), .val (.int p1), .val (.int p2), .val (.ref a3)] [(.int p2), (.ref a0)])) t → Steps p.tables e below (s₁.setTop (entryFrame m #[(.ref a0), (.int p1), (.int p2), (.ref a3)] 4)) t := by
    intro t k
    refine pre13 t ?_
    show Steps p.tables e below (T7.setTop (mkF m 34 #[.val (.ref a0), .val (.int p1), .val (.int p2), .val (.ref a3)] [])) _
    refine XS.aloadN X7.here hx rfl (hb hby d1_34) rfl rfl ?_
    show Steps p.tables e below (T7.setTop (mkF m 35 #[.val (.ref a0), .val (.int p1), .val (.int p2), .val (.ref a3)] [(.ref a0)])) _
    refine XS.iloadN X7.here hx rfl (hb hby d1_35) rfl ?_
    show Steps p.tables e below (T7.setTop (mkF m 36 #[.val (.ref a0), .val (.int p1), .val (.int p2), .val (.ref a3)] [(.int p2), (.ref a0)])) _
    exact k
  obtain ⟨T15, h15, X15, e15, W15, st15⟩ := putF X7 hx hZ hown (host := "") (Or.inl (hw _ (List.mem_of_getElem? (i := 13) rfl))) Via.refl e7 Ff10 Ef12 (Or.inr ⟨(hw _ (List.mem_of_getElem? (i := 14) rfl)), rfl, hnm⟩) (hw _ (List.mem_of_getElem? (i := 3) rfl)) (ty := .int) (by decide) rfl rfl (g := (mkF m 36 #[.val (.ref a0), .val (.int p1), .val (.int p2), .val (.ref a3)] [(.int p2), (.ref a0)])) rfl rfl (hb hby d1_36)
  have Z15 : n0 ≤ h15.size := Nat.le_trans Z7 (Keep.of_wr W15).1
  have K15 : Keep h0 h15 [a0] := K7.wr W15 (Or.inl (List.mem_of_getElem? (i := 0) rfl))
  have N15 := Fr.snoc X15 N7 g_a0
  have Vf16 : Arv Z h15 a3 k_a3 .int (1 : Int32) [(.int x0)] (.int (0 : Int32)) := (Vf8).other W15 ne_a3_a0
  have Ef17 : Exa Z h15 a3 "[I" := (Ef9).wr W15
  have Ff18 : Fld Z h15 a0 "com/example/timely_exodus/timelyexodus/plan/Vehicle" "route" "[I" w_route_a0 := (Ff11).other W15 (Or.inr (slot_ne (Or.inr (hw _ (List.mem_of_getElem? (i := 25) rfl))) (Or.inr (hw _ (List.mem_of_getElem? (i := 14) rfl))) (by decide) (t := (.array .int)) (t' := .int) (by decide) (by decide)))
  have Ef19 : Exa Z h15 a0 "com/example/timely_exodus/timelyexodus/plan/Vehicle" := (Ef12).wr W15
  have Ff20 : Fld Z h15 a0 "com/example/timely_exodus/timelyexodus/plan/Vehicle" "number" "I" (.int p1) := (Fw7).other W15 (Or.inr (slot_ne (Or.inr (hw _ (List.mem_of_getElem? (i := 12) rfl))) (Or.inr (hw _ (List.mem_of_getElem? (i := 14) rfl))) (by decide) (t := .int) (t' := .int) (by decide) (by decide)))
  have Fw15 : Fld Z h15 a0 "com/example/timely_exodus/timelyexodus/plan/Vehicle" "departurePeriod" "I" (.int p2) := (Ff10).same W15
  have pre21 : ∀ t, Steps p.tables e below (T15.setTop (mkF m 39 #[.val (.ref a0), .val (.int p1), .val (.int p2), .val (.ref a3)] [])) t → Steps p.tables e below (s₁.setTop (entryFrame m #[(.ref a0), (.int p1), (.int p2), (.ref a3)] 4)) t := fun t k => pre14 t (st15 t k)
  have pre22 : ∀ t, Steps p.tables e below (T15.setTop (mkF m 41 #[.val (.ref a0), .val (.int p1), .val (.int p2), .val (.ref a3)] [(.ref a3), (.ref a0)])) t → Steps p.tables e below (s₁.setTop (entryFrame m #[(.ref a0), (.int p1), (.int p2), (.ref a3)] 4)) t := by
    intro t k
    refine pre21 t ?_
    show Steps p.tables e below (T15.setTop (mkF m 39 #[.val (.ref a0), .val (.int p1), .val (.int p2), .val (.ref a3)] [])) _
    refine XS.aloadN X15.here hx rfl (hb hby d1_39) rfl rfl ?_
    show Steps p.tables e below (T15.setTop (mkF m 40 #[.val (.ref a0), .val (.int p1), .val (.int p2), .val (.ref a3)] [(.ref a0)])) _
    refine XS.aloadN X15.here hx rfl (hb hby d1_40) rfl rfl ?_
    show Steps p.tables e below (T15.setTop (mkF m 41 #[.val (.ref a0), .val (.int p1), .val (.int p2), .val (.ref a3)] [(.ref a3), (.ref a0)])) _
    exact k
  obtain ⟨T23, h23, X23, e23, E23, A23, C23, st23⟩ := cloneH X15 hx hZ hown (hw _ (List.mem_of_getElem? (i := 15) rfl)) (hw _ (List.mem_of_getElem? (i := 16) rfl)) (hw _ (List.mem_of_getElem? (i := 20) rfl)) (hw _ (List.mem_of_getElem? (i := 18) rfl)) (hw _ (List.mem_of_getElem? (i := 19) rfl)) (hw _ (List.mem_of_getElem? (i := 21) rfl)) e15 (Arv.arh Vf16) Ef17 (g := (mkF m 41 #[.val (.ref a0), .val (.int p1), .val (.int p2), .val (.ref a3)] [(.ref a3), (.ref a0)])) rfl (by rw [hml]; rfl) rfl (hb hby d1_41) (by decide) (W := 1) (cap := 1) (by show 2 * 0 + _ ≤ _; exact Nat.le_of_eq rfl) (by decide) (by decide) (by decide) (by decide)
  obtain ⟨b23, g23⟩ : ∃ z, z = h15.size := ⟨_, rfl⟩
  rw [← g23] at A23 C23 st23
  have ne_a3_b23 : a3 ≠ b23 := Nat.ne_of_lt (Nat.lt_of_lt_of_le (Vf16).lt (Nat.le_of_eq g23.symm))
  have ne_a0_b23 : a0 ≠ b23 := Nat.ne_of_lt (Nat.lt_of_lt_of_le (Ff18).lt (Nat.le_of_eq g23.symm))
  have g_b23 : n0 ≤ b23 := Nat.le_trans Z15 (Nat.le_of_eq g23.symm)
  have sz_b23 : h0.size ≤ b23 := Nat.le_trans K15.1 (Nat.le_of_eq g23.symm)
  have Z23 : n0 ≤ h23.size := Nat.le_trans Z15 E23.1
  have K23 : Keep h0 h23 [a0] := K15.ext E23
  have Vf24 : Arv Z h23 a3 k_a3 .int (1 : Int32) [(.int x0)] (.int (0 : Int32)) := (Vf16).ext E23
  have Ef25 : Exa Z h23 a3 "[I" := (Ef17).ext E23
  have Ff26 : Fld Z h23 a0 "com/example/timely_exodus/timelyexodus/plan/Vehicle" "route" "[I" w_route_a0 := (Ff18).ext E23
  have Ef27 : Exa Z h23 a0 "com/example/timely_exodus/timelyexodus/plan/Vehicle" := (Ef19).ext E23
  have Ff28 : Fld Z h23 a0 "com/example/timely_exodus/timelyexodus/plan/Vehicle" "number" "I" (.int p1) := (Ff20).ext E23
  have Ff29 : Fld Z h23 a0 "com/example/timely_exodus/timelyexodus/plan/Vehicle" "departurePeriod" "I" (.int p2) := (Fw15).ext E23
  have V_b23 : Arv Z h23 b23 k_a3 .int (1 : Int32) [(.int x0)] (.int (0 : Int32)) := A23
  have pre30 : ∀ t, Steps p.tables e below (T23.setTop (mkF m 44 #[.val (.ref a0), .val (.int p1), .val (.int p2), .val (.ref a3)] [(.ref b23), (.ref a0)])) t → Steps p.tables e below (s₁.setTop (entryFrame m #[(.ref a0), (.int p1), (.int p2), (.ref a3)] 4)) t := fun t k => pre22 t (st23 t k)
  obtain ⟨T31, X31, e31, st31⟩ := castY X23 hx hZ hown (hw _ (List.mem_of_getElem? (i := 22) rfl)) e23 (Ins.self C23) (g := (mkF m 44 #[.val (.ref a0), .val (.int p1), .val (.int p2), .val (.ref a3)] [(.ref b23), (.ref a0)])) rfl rfl (hb hby d1_44)
  have pre32 : ∀ t, Steps p.tables e below (T31.setTop (mkF m 47 #[.val (.ref a0), .val (.int p1), .val (.int p2), .val (.ref a3)] [(.ref b23), (.ref a0)])) t → Steps p.tables e below (s₁.setTop (entryFrame m #[(.ref a0), (.int p1), (.int p2), (.ref a3)] 4)) t := fun t k => pre30 t (st31 t k)
  obtain ⟨T33, h33, X33, e33, W33, st33⟩ := putF X31 hx hZ hown (host := "") (Or.inl (hw _ (List.mem_of_getElem? (i := 24) rfl))) Via.refl e31 Ff26 Ef27 (Or.inr ⟨(hw _ (List.mem_of_getElem? (i := 25) rfl)), rfl, hnm⟩) (hw _ (List.mem_of_getElem? (i := 3) rfl)) (ty := (.array .int)) (by decide) rfl rfl (g := (mkF m 47 #[.val (.ref a0), .val (.int p1), .val (.int p2), .val (.ref a3)] [(.ref b23), (.ref a0)])) rfl rfl (hb hby d1_47)
  have Z33 : n0 ≤ h33.size := Nat.le_trans Z23 (Keep.of_wr W33).1
  have K33 : Keep h0 h33 [a0] := K23.wr W33 (Or.inl (List.mem_of_getElem? (i := 0) rfl))
  have N33 := Fr.snoc X33 N15 g_a0
  have Vf34 : Arv Z h33 a3 k_a3 .int (1 : Int32) [(.int x0)] (.int (0 : Int32)) := (Vf24).other W33 ne_a3_a0
  have Ef35 : Exa Z h33 a3 "[I" := (Ef25).wr W33
  have Ef36 : Exa Z h33 a0 "com/example/timely_exodus/timelyexodus/plan/Vehicle" := (Ef27).wr W33
  have Ff37 : Fld Z h33 a0 "com/example/timely_exodus/timelyexodus/plan/Vehicle" "number" "I" (.int p1) := (Ff28).other W33 (Or.inr (slot_ne (Or.inr (hw _ (List.mem_of_getElem? (i := 12) rfl))) (Or.inr (hw _ (List.mem_of_getElem? (i := 25) rfl))) (by decide) (t := .int) (t' := (.array .int)) (by decide) (by decide)))
  have Ff38 : Fld Z h33 a0 "com/example/timely_exodus/timelyexodus/plan/Vehicle" "departurePeriod" "I" (.int p2) := (Ff29).other W33 (Or.inr (slot_ne (Or.inr (hw _ (List.mem_of_getElem? (i := 14) rfl))) (Or.inr (hw _ (List.mem_of_getElem? (i := 25) rfl))) (by decide) (t := .int) (t' := (.array .int)) (by decide) (by decide)))
  have Vf39 : Arv Z h33 b23 k_a3 .int (1 : Int32) [(.int x0)] (.int (0 : Int32)) := (V_b23).other W33 ne_a0_b23.symm
  have Ef40 : Exa Z h33 b23 "[I" := (C23).wr W33
  have Fw33 : Fld Z h33 a0 "com/example/timely_exodus/timelyexodus/plan/Vehicle" "route" "[I" (.ref b23) := (Ff26).same W33
  have pre41 : ∀ t, Steps p.tables e below (T33.setTop (mkF m 50 #[.val (.ref a0), .val (.int p1), .val (.int p2), .val (.ref a3)] [])) t → Steps p.tables e below (s₁.setTop (entryFrame m #[(.ref a0), (.int p1), (.int p2), (.ref a3)] 4)) t := fun t k => pre32 t (st33 t k)
  obtain ⟨fs, hr, hrun, hended, hW, hsame⟩ := X33.leave (v := none) (fun _ => rfl)
  refine ⟨_, _, pre41 _ ?_, hrun, hended, _, _, rfl, ?_, ⟨_, rfl⟩, hW, hsame.mono (by decide) (by decide)⟩
  · show Steps p.tables e below (T33.setTop (mkF m 50 #[.val (.ref a0), .val (.int p1), .val (.int p2), .val (.ref a3)] [])) _
    exact X33.returnOut hx Bd.returns (hb hby d1_50) hr
  · show Q1_n1 Z a0 p1 p2 a3 k_a3 x0 w_departurePeriod_a0 w_route_a0 w_number_a0 h0 n0 _ T33.heap _
    rw [e33]
    exact ⟨b23, k_a3, rfl, N33, K33, Ef36, Ff37, Ff38, Fw33, sz_b23, Vf39, Ef40⟩
theorem d3_0 : decode prog_38_method_5_code 0 = .ok (.aload_n 0, 1) := by decide +kernel
theorem d3_1 : decode prog_38_method_5_code 1 = .ok (.getfield 29, 3) := by decide +kernel
theorem d3_4 : decode prog_38_method_5_code 4 = .ok (.aload_n 0, 1) := by decide +kernel
theorem d3_5 : decode prog_38_method_5_code 5 = .ok (.getfield 29, 3) := by decide +kernel
theorem d3_8 : decode prog_38_method_5_code 8 = .ok (.arraylength, 1) := by decide +kernel
theorem d3_9 : decode prog_38_method_5_code 9 = .ok (.iconst 1, 1) := by decide +kernel
theorem d3_10 : decode prog_38_method_5_code 10 = .ok (.isub, 1) := by decide +kernel
theorem d3_11 : decode prog_38_method_5_code 11 = .ok (.iaload, 1) := by decide +kernel
theorem d3_12 : decode prog_38_method_5_code 12 = .ok (.ireturn, 1) := by decide +kernel
theorem ef_3 (m : MethodId) (x0 : Addr) : entryFrame m #[(.ref x0)] 1 = mkF m 0 #[.val (.ref x0)] [] := by first | (simp [entryFrame, mkF, argsToLocals, Value.category]; done) | rfl
def Q3_n1 (Z : State) (a0 : Addr) (r1 : Addr) (k_r1 : ClassId) (x0 : Int32) (h0 : Heap) (n0 : Nat) (v : Option Value) (h : Heap) (L : List Loc) : Prop := v = some (.int x0) ∧ Fr n0 L ∧ h = h0
set_option maxRecDepth 65536 in
set_option maxHeartbeats 40000000 in
theorem rm3_n1 (l : Launch) (Z : State) (ar0 : Array Value) (hw : ∀ d ∈ tables_1, d.before ar0 Z = true) (ws : List Jvm.Cond) (a0 : Addr) (r1 : Addr) (k_r1 : ClassId) (x0 : Int32) (h0 : Heap) (n0 : Nat) (Z0 : n0 ≤ h0.size) (F_route_a0 : Fld Z h0 a0 "com/example/timely_exodus/timelyexodus/plan/Vehicle" "route" "[I" (.ref r1)) (V_r1 : Arv Z h0 r1 k_r1 .int (1 : Int32) [(.int x0)] (.int (0 : Int32))) :
    MetFree l (⟨"com/example/timely_exodus/timelyexodus/plan/Vehicle", "getExitCell", "()I"⟩ : MethodName) (head1 (Jvm.Cond.code (⟨"com/example/timely_exodus/timelyexodus/plan/Vehicle", "getExitCell", "()I"⟩ : MethodName) prog_38_method_5_code 1 (some .int) :: ws) ({ frames := 0, cells := 0, slots := 0, locals := 0 } : Room)) (fun a U => a = #[(.ref a0)] ∧ Z.Warmed39 U.vm ∧ U.heap = h0) (fun _ _ _ _ _ => True) (fun _ U o U' => ∃ v L, o = .returned v ∧ Q3_n1 Z a0 r1 k_r1 x0 h0 n0 v U'.heap L ∧ FrameEnd U o U' L ({ frames := 0, cells := 0, slots := 0, locals := 0 } : Room).cells ({ frames := 0, cells := 0, slots := 0, locals := 0 } : Room).slots) := by
  refine MetFree.of_bodySF (plainFor_of_name pn_0) hisR ?_
  intro p e s m args below meth c s₁ Bd hml0 hP hK
  obtain ⟨rfl, hZ, hh⟩ := hP
  have hx := Bd.exec
  have hby := Bd.bytes
  have hml : c.maxLocals = 1 := hml0
  have hown : s.vm.findClass "com/example/timely_exodus/timelyexodus/plan/Vehicle" = some m.cls := findClass_of_methodNamed Bd.named
  have hnm := (name_of_methodNamed Bd.named Bd.method).1
  have X0 : Stand p l e ({ frames := 0, cells := 0, slots := 0, locals := 0 } : Room) s m #[(.ref a0)] below meth c s₁ [] 0 0 := Stand.of_body Bd
  have e0 : s₁.heap = h0 := by rw [← hh, Bd.state]; rfl
  have N0 := Fr.nil n0
  have pre0 : ∀ t, Steps p.tables e below (s₁.setTop (mkF m 0 #[.val (.ref a0)] [])) t → Steps p.tables e below (s₁.setTop (entryFrame m #[(.ref a0)] 1)) t := fun t k => castTop (ef_3 m a0) k
  have pre42 : ∀ t, Steps p.tables e below (s₁.setTop (mkF m 1 #[.val (.ref a0)] [(.ref a0)])) t → Steps p.tables e below (s₁.setTop (entryFrame m #[(.ref a0)] 1)) t := by
    intro t k
    refine pre0 t ?_
    show Steps p.tables e below (s₁.setTop (mkF m 0 #[.val (.ref a0)] [])) _
    refine XS.aloadN X0.here hx rfl (hb hby d3_0) rfl rfl ?_
    show Steps p.tables e below (s₁.setTop (mkF m 1 #[.val (.ref a0)] [(.ref a0)])) _
    exact k
  obtain ⟨T43, X43, e43, st43⟩ := getF X0 hx hZ hown (host := "") (Or.inl (hw _ (List.mem_of_getElem? (i := 24) rfl))) Via.refl e0 F_route_a0 (g := (mkF m 1 #[.val (.ref a0)] [(.ref a0)])) rfl rfl (hb hby d3_1)
  have pre44 : ∀ t, Steps p.tables e below (T43.setTop (mkF m 4 #[.val (.ref a0)] [(.ref r1)])) t → Steps p.tables e below (s₁.setTop (entryFrame m #[(.ref a0)] 1)) t := fun t k => pre42 t (st43 t k)
  have pre45 : ∀ t, Steps p.tables e below (T43.setTop (mkF m 5 #[.val (.ref a0)] [(.ref a0), (.ref r1)])) t → Steps p.tables e below (s₁.setTop (entryFrame m #[(.ref a0)] 1)) t := by
    intro t k
    refine pre44 t ?_
    show Steps p.tables e below (T43.setTop (mkF m 4 #[.val (.ref a0)] [(.ref r1)])) _
    refine XS.aloadN X43.here hx rfl (hb hby d3_4) rfl rfl ?_
    show Steps p.tables e below (T43.setTop (mkF m 5 #[.val (.ref a0)] [(.ref a0), (.ref r1)])) _
    exact k
  obtain ⟨T46, X46, e46, st46⟩ := getF X43 hx hZ hown (host := "") (Or.inl (hw _ (List.mem_of_getElem? (i := 24) rfl))) Via.refl e43 F_route_a0 (g := (mkF m 5 #[.val (.ref a0)] [(.ref a0), (.ref r1)])) rfl rfl (hb hby d3_5)
  have pre47 : ∀ t, Steps p.tables e below (T46.setTop (mkF m 8 #[.val (.ref a0)] [(.ref r1), (.ref r1)])) t → Steps p.tables e below (s₁.setTop (entryFrame m #[(.ref a0)] 1)) t := fun t k => pre45 t (st46 t k)
  obtain ⟨cl48, Ar48, q48, S48, M48, H48, G48⟩ := id V_r1
  have pre49 : ∀ t, Steps p.tables e below (T46.setTop (mkF m 11 #[.val (.ref a0)] [(.int (0 : Int32)), (.ref r1)])) t → Steps p.tables e below (s₁.setTop (entryFrame m #[(.ref a0)] 1)) t := by
    intro t k
    refine pre47 t ?_
    show Steps p.tables e below (T46.setTop (mkF m 8 #[.val (.ref a0)] [(.ref r1), (.ref r1)])) _
    refine X46.arraylength hx (by rw [e46]; exact Ar48.1) (State.isArrayOf_alike hZ.alike Ar48.2.1) (g := (mkF m 8 #[.val (.ref a0)] [(.ref r1), (.ref r1)])) rfl rfl (hb hby d3_8) _ ?_
    rw [len_of S48 M48]
    show Steps p.tables e below (T46.setTop (mkF m 9 #[.val (.ref a0)] [(.int (1 : Int32)), (.ref r1)])) _
    refine XS.iconst X46.here hx rfl (hb hby d3_9) ?_
    show Steps p.tables e below (T46.setTop (mkF m 10 #[.val (.ref a0)] [(.int (1 : Int32)), (.int (1 : Int32)), (.ref r1)])) _
    refine XS.isub X46.here hx rfl (hb hby d3_10) rfl ?_
    show Steps p.tables e below (T46.setTop (mkF m 11 #[.val (.ref a0)] [(.int (0 : Int32)), (.ref r1)])) _
    exact k
  obtain ⟨cl50, Ar50, q50, S50, M50, H50, G50⟩ := id V_r1
  have hin50 : ¬ ((0 : Int32) < 0 ∨ cl50.slots.size ≤ ((0 : Int32)).toNatClampNeg) := inb_of S50 ⟨by decide, by decide⟩
  have hat50 : cl50.slots[((0 : Int32)).toNatClampNeg]? = some (.int x0) := H50.at hin50 rfl
  obtain ⟨fs, hr, hrun, hended, hW, hsame⟩ := X46.leave (v := some (.int x0)) (fun h => by rw [Bd.returns] at h; cases h)
  refine ⟨_, _, pre49 _ ?_, hrun, hended, _, _, rfl, ?_, ⟨_, rfl⟩, hW, hsame.mono (by decide) (by decide)⟩
  · show Steps p.tables e below (T46.setTop (mkF m 11 #[.val (.ref a0)] [(.int (0 : Int32)), (.ref r1)])) _
    refine X46.iaload hx (j := (0 : Int32)) (v := (.int x0)) (by rw [e46]; exact Ar50.1) (State.isArrayOf_alike hZ.alike Ar50.2.1) Ar50.2.2 hin50 hat50 (g := (mkF m 11 #[.val (.ref a0)] [(.int (0 : Int32)), (.ref r1)])) rfl rfl (hb hby d3_11) _ ?_
    show Steps p.tables e below (T46.setTop (mkF m 12 #[.val (.ref a0)] [(.int x0)])) _
    exact retOut X46 hx Bd.returns rfl (Or.inl ⟨rfl, Or.inl rfl, _, rfl⟩) (hb hby d3_12) hr
  · show Q3_n1 Z a0 r1 k_r1 x0 h0 n0 _ T46.heap _
    rw [e46]
    exact ⟨rfl, N0, rfl⟩
theorem d4_0 : decode prog_38_method_6_code 0 = .ok (.aload_n 0, 1) := by decide +kernel
theorem d4_1 : decode prog_38_method_6_code 1 = .ok (.getfield 29, 3) := by decide +kernel
theorem d4_4 : decode prog_38_method_6_code 4 = .ok (.invokevirtual 23, 3) := by decide +kernel
theorem d4_7 : decode prog_38_method_6_code 7 = .ok (.checkcast 24, 3) := by decide +kernel
theorem d4_10 : decode prog_38_method_6_code 10 = .ok (.areturn, 1) := by decide +kernel
theorem ef_4 (m : MethodId) (x0 : Addr) : entryFrame m #[(.ref x0)] 1 = mkF m 0 #[.val (.ref x0)] [] := by first | (simp [entryFrame, mkF, argsToLocals, Value.category]; done) | rfl
def Q4_n1 (Z : State) (a0 : Addr) (r1 : Addr) (k_r1 : ClassId) (x0 : Int32) (h0 : Heap) (n0 : Nat) (v : Option Value) (h : Heap) (L : List Loc) : Prop := ∃ (b : Addr) (k_b : ClassId), v = some (.ref b) ∧ Fr n0 L ∧ Keep h0 h [] ∧ h0.size ≤ b ∧ Arv Z h b k_b .int (1 : Int32) [(.int x0)] (.int (0 : Int32)) ∧ Exa Z h b "[I"
set_option maxRecDepth 65536 in
set_option maxHeartbeats 40000000 in
theorem rm4_n1 (l : Launch) (Z : State) (ar0 : Array Value) (hw : ∀ d ∈ tables_1, d.before ar0 Z = true) (ws : List Jvm.Cond) (a0 : Addr) (r1 : Addr) (k_r1 : ClassId) (x0 : Int32) (h0 : Heap) (n0 : Nat) (Z0 : n0 ≤ h0.size) (F_route_a0 : Fld Z h0 a0 "com/example/timely_exodus/timelyexodus/plan/Vehicle" "route" "[I" (.ref r1)) (V_r1 : Arv Z h0 r1 k_r1 .int (1 : Int32) [(.int x0)] (.int (0 : Int32))) (E_r1 : Exa Z h0 r1 "[I") :
    MetFree l (⟨"com/example/timely_exodus/timelyexodus/plan/Vehicle", "getRoute", "()[I"⟩ : MethodName) (head1 (Jvm.Cond.code (⟨"com/example/timely_exodus/timelyexodus/plan/Vehicle", "getRoute", "()[I"⟩ : MethodName) prog_38_method_6_code 1 (some (.array .int)) :: ws) ({ frames := 1, cells := 1, slots := 1, locals := 14 } : Room)) (fun a U => a = #[(.ref a0)] ∧ Z.Warmed39 U.vm ∧ U.heap = h0) (fun _ _ _ _ _ => True) (fun _ U o U' => ∃ v L, o = .returned v ∧ Q4_n1 Z a0 r1 k_r1 x0 h0 n0 v U'.heap L ∧ FrameEnd U o U' L ({ frames := 1, cells := 1, slots := 1, locals := 14 } : Room).cells ({ frames := 1, cells := 1, slots := 1, locals := 14 } : Room).slots) := by
  refine MetFree.of_bodySF (plainFor_of_name pn_0) hisR ?_
  intro p e s m args below meth c s₁ Bd hml0 hP hK
  obtain ⟨rfl, hZ, hh⟩ := hP
  have hx := Bd.exec
  have hby := Bd.bytes
  have hml : c.maxLocals = 1 := hml0
  have hown : s.vm.findClass "com/example/timely_exodus/timelyexodus/plan/Vehicle" = some m.cls := findClass_of_methodNamed Bd.named
  have hnm := (name_of_methodNamed Bd.named Bd.method).1
  have X0 : Stand p l e ({ frames := 1, cells := 1, slots := 1, locals := 14 } : Room) s m #[(.ref a0)] below meth c s₁ [] 0 0 := Stand.of_body Bd
  have e0 : s₁.heap = h0 := by rw [← hh, Bd.state]; rfl
  have N0 := Fr.nil n0
  have pre0 : ∀ t, Steps p.tables e below (s₁.setTop (mkF m 0 #[.val (.ref a0)] [])) t → Steps p.tables e below (s₁.setTop (entryFrame m #[(.ref a0)] 1)) t := fun t k => castTop (ef_4 m a0) k
  have pre51 : ∀ t, Steps p.tables e below (s₁.setTop (mkF m 1 #[.val (.ref a0)] [(.ref a0)])) t → Steps p.tables e below (s₁.setTop (entryFrame m #[(.ref a0)] 1)) t := by
    intro t k
    refine pre0 t ?_
    show Steps p.tables e below (s₁.setTop (mkF m 0 #[.val (.ref a0)] [])) _
    refine XS.aloadN X0.here hx rfl (hb hby d4_0) rfl rfl ?_
    show Steps p.tables e below (s₁.setTop (mkF m 1 #[.val (.ref a0)] [(.ref a0)])) _
    exact k
  obtain ⟨T52, X52, e52, st52⟩ := getF X0 hx hZ hown (host := "") (Or.inl (hw _ (List.mem_of_getElem? (i := 24) rfl))) Via.refl e0 F_route_a0 (g := (mkF m 1 #[.val (.ref a0)] [(.ref a0)])) rfl rfl (hb hby d4_1)
  have pre53 : ∀ t, Steps p.tables e below (T52.setTop (mkF m 4 #[.val (.ref a0)] [(.ref r1)])) t → Steps p.tables e below (s₁.setTop (entryFrame m #[(.ref a0)] 1)) t := fun t k => pre51 t (st52 t k)
  obtain ⟨T54, h54, X54, e54, E54, A54, C54, st54⟩ := cloneH X52 hx hZ hown (hw _ (List.mem_of_getElem? (i := 15) rfl)) (hw _ (List.mem_of_getElem? (i := 16) rfl)) (hw _ (List.mem_of_getElem? (i := 20) rfl)) (hw _ (List.mem_of_getElem? (i := 18) rfl)) (hw _ (List.mem_of_getElem? (i := 19) rfl)) (hw _ (List.mem_of_getElem? (i := 21) rfl)) e52 (Arv.arh V_r1) E_r1 (g := (mkF m 4 #[.val (.ref a0)] [(.ref r1)])) rfl (by rw [hml]; rfl) rfl (hb hby d4_4) (by decide) (W := 0) (cap := 1) (by show 2 * 0 + _ ≤ _; exact Nat.le_of_eq rfl) (by decide) (by decide) (by decide) (by decide)
  obtain ⟨b54, g54⟩ : ∃ z, z = h0.size := ⟨_, rfl⟩
  rw [← g54] at A54 C54 st54
  have ne_a0_b54 : a0 ≠ b54 := Nat.ne_of_lt (Nat.lt_of_lt_of_le (F_route_a0).lt (Nat.le_of_eq g54.symm))
  have ne_r1_b54 : r1 ≠ b54 := Nat.ne_of_lt (Nat.lt_of_lt_of_le (V_r1).lt (Nat.le_of_eq g54.symm))
  have g_b54 : n0 ≤ b54 := Nat.le_trans Z0 (Nat.le_of_eq g54.symm)
  have sz_b54 : h0.size ≤ b54 := Nat.le_trans (Keep.refl h0 []).1 (Nat.le_of_eq g54.symm)
  have Z54 : n0 ≤ h54.size := Nat.le_trans Z0 E54.1
  have K54 : Keep h0 h54 [] := (Keep.refl h0 []).ext E54
  have Ff55 : Fld Z h54 a0 "com/example/timely_exodus/timelyexodus/plan/Vehicle" "route" "[I" (.ref r1) := (F_route_a0).ext E54
  have Vf56 : Arv Z h54 r1 k_r1 .int (1 : Int32) [(.int x0)] (.int (0 : Int32)) := (V_r1).ext E54
  have Ef57 : Exa Z h54 r1 "[I" := (E_r1).ext E54
  have V_b54 : Arv Z h54 b54 k_r1 .int (1 : Int32) [(.int x0)] (.int (0 : Int32)) := A54
  have pre58 : ∀ t, Steps p.tables e below (T54.setTop (mkF m 7 #[.val (.ref a0)] [(.ref b54)])) t → Steps p.tables e below (s₁.setTop (entryFrame m #[(.ref a0)] 1)) t := fun t k => pre53 t (st54 t k)
  obtain ⟨T59, X59, e59, st59⟩ := castY X54 hx hZ hown (hw _ (List.mem_of_getElem? (i := 22) rfl)) e54 (Ins.self C54) (g := (mkF m 7 #[.val (.ref a0)] [(.ref b54)])) rfl rfl (hb hby d4_7)
  have pre60 : ∀ t, Steps p.tables e below (T59.setTop (mkF m 10 #[.val (.ref a0)] [(.ref b54)])) t → Steps p.tables e below (s₁.setTop (entryFrame m #[(.ref a0)] 1)) t := fun t k => pre58 t (st59 t k)
  obtain ⟨fs, hr, hrun, hended, hW, hsame⟩ := X59.leave (v := some (.ref b54)) (fun h => by rw [Bd.returns] at h; cases h)
  refine ⟨_, _, pre60 _ ?_, hrun, hended, _, _, rfl, ?_, ⟨_, rfl⟩, hW, hsame.mono (by decide) (by decide)⟩
  · show Steps p.tables e below (T59.setTop (mkF m 10 #[.val (.ref a0)] [(.ref b54)])) _
    exact retOut X59 hx Bd.returns rfl (Or.inr (Or.inr (Or.inr (Or.inr ⟨rfl, rfl, rfl⟩)))) (hb hby d4_10) hr
  · show Q4_n1 Z a0 r1 k_r1 x0 h0 n0 _ T59.heap _
    rw [e59]
    exact ⟨b54, k_r1, rfl, N0, K54, sz_b54, V_b54, C54⟩
def Q1_n2 (Z : State) (a0 : Addr) (p1 : Int32) (p2 : Int32) (a3 : Addr) (k_a3 : ClassId) (x0 : Int32) (x1 : Int32) (w_departurePeriod_a0 : Int32) (w_route_a0 : Value) (w_number_a0 : Int32) (h0 : Heap) (n0 : Nat) (v : Option Value) (h : Heap) (L : List Loc) : Prop := ∃ (b : Addr) (k_b : ClassId), v = none ∧ Fr n0 L ∧ Keep h0 h [a0] ∧ Exa Z h a0 "com/example/timely_exodus/timelyexodus/plan/Vehicle" ∧ Fld Z h a0 "com/example/timely_exodus/timelyexodus/plan/Vehicle" "number" "I" (.int p1) ∧ Fld Z h a0 "com/example/timely_exodus/timelyexodus/plan/Vehicle" "departurePeriod" "I" (.int p2) ∧ Fld Z h a0 "com/example/timely_exodus/timelyexodus/plan/Vehicle" "route" "[I" (.ref b) ∧ h0.size ≤ b ∧ Arv Z h b k_b .int (2 : Int32) [(.int x0), (.int x1)] (.int (0 : Int32)) ∧ Exa Z h b "[I"
set_option maxRecDepth 65536 in
set_option maxHeartbeats 40000000 in
theorem rm1_n2 (l : Launch) (Z : State) (ar0 : Array Value) (hw : ∀ d ∈ tables_1, d.before ar0 Z = true) (ws : List Jvm.Cond) (a0 : Addr) (p1 : Int32) (p2 : Int32) (a3 : Addr) (k_a3 : ClassId) (x0 : Int32) (x1 : Int32) (w_departurePeriod_a0 : Int32) (w_route_a0 : Value) (w_number_a0 : Int32) (h0 : Heap) (n0 : Nat) (Z0 : n0 ≤ h0.size) (V_a3 : Arv Z h0 a3 k_a3 .int (2 : Int32) [(.int x0), (.int x1)] (.int (0 : Int32))) (E_a3 : Exa Z h0 a3 "[I") (F_departurePeriod_a0 : Fld Z h0 a0 "com/example/timely_exodus/timelyexodus/plan/Vehicle" "departurePeriod" "I" (.int w_departurePeriod_a0)) (F_route_a0 : Fld Z h0 a0 "com/example/timely_exodus/timelyexodus/plan/Vehicle" "route" "[I" w_route_a0) (hk6 : ¬ (p1 < (1 : Int32))) (hk11 : ¬ (p2 < (1 : Int32))) (E_a0 : Exa Z h0 a0 "com/example/timely_exodus/timelyexodus/plan/Vehicle") (F_number_a0 : Fld Z h0 a0 "com/example/timely_exodus/timelyexodus/plan/Vehicle" "number" "I" (.int w_number_a0)) (g_a0 : n0 ≤ a0) (ne_a3_a0 : a3 ≠ a0) :
    MetFree l (⟨"com/example/timely_exodus/timelyexodus/plan/Vehicle", "<init>", "(II[I)V"⟩ : MethodName) (head1 (Jvm.Cond.code (⟨"com/example/timely_exodus/timelyexodus/plan/Vehicle", "<init>", "(II[I)V"⟩ : MethodName) prog_38_method_1_code 4 none :: ws) ({ frames := 1, cells := 1, slots := 2, locals := 15 } : Room)) (fun a U => a = #[(.ref a0), (.int p1), (.int p2), (.ref a3)] ∧ Z.Warmed39 U.vm ∧ U.heap = h0) (fun _ _ _ _ _ => True) (fun _ U o U' => ∃ v L, o = .returned v ∧ Q1_n2 Z a0 p1 p2 a3 k_a3 x0 x1 w_departurePeriod_a0 w_route_a0 w_number_a0 h0 n0 v U'.heap L ∧ FrameEnd U o U' L ({ frames := 1, cells := 1, slots := 2, locals := 15 } : Room).cells ({ frames := 1, cells := 1, slots := 2, locals := 15 } : Room).slots) := by
  refine MetFree.of_bodySF (plainFor_of_name pn_0) hisR ?_
  intro p e s m args below meth c s₁ Bd hml0 hP hK
  obtain ⟨rfl, hZ, hh⟩ := hP
  have hx := Bd.exec
  have hby := Bd.bytes
  have hml : c.maxLocals = 4 := hml0
  have hown : s.vm.findClass "com/example/timely_exodus/timelyexodus/plan/Vehicle" = some m.cls := findClass_of_methodNamed Bd.named
  have hnm := (name_of_methodNamed Bd.named Bd.method).1
  have X0 : Stand p l e ({ frames := 1, cells := 1, slots := 2, locals := 15 } : Room) s m #[(.ref a0), (.int p1), (.int p2), (.ref a3)] below meth c s₁ [] 0 0 := Stand.of_body Bd
  have e0 : s₁.heap = h0 := by rw [← hh, Bd.state]; rfl
  have N0 := Fr.nil n0
  have pre0 : ∀ t, Steps p.tables e below (s₁.setTop (mkF m 0 #[.val (.ref a0), .val (.int p1), .val (.int p2), .val (.ref a3)] [])) t → Steps p.tables e below (s₁.setTop (entryFrame m #[(.ref a0), (.int p1), (.int p2), (.ref a3)] 4)) t := fun t k => castTop (ef_1 m a0 p1 p2 a3) k
  have pre61 : ∀ t, Steps p.tables e below (s₁.setTop (mkF m 1 #[.val (.ref a0), .val (.int p1), .val (.int p2), .val (.ref a3)] [(.ref a0)])) t → Steps p.tables e below (s₁.setTop (entryFrame m #[(.ref a0), (.int p1), (.int p2), (.ref a3)] 4)) t := by
    intro t k
    refine pre0 t ?_
    show Steps p.tables e below (s₁.setTop (mkF m 0 #[.val (.ref a0), .val (.int p1), .val (.int p2), .val (.ref a3)] [])) _
    refine XS.aloadN X0.here hx rfl (hb hby d1_0) rfl rfl ?_
    show Steps p.tables e below (s₁.setTop (mkF m 1 #[.val (.ref a0), .val (.int p1), .val (.int p2), .val (.ref a3)] [(.ref a0)])) _
    exact k
  obtain ⟨T62, X62, e62, st62⟩ := initO X0 hx hZ hown (hw _ (List.mem_of_getElem? (i := 8) rfl)) (hw _ (List.mem_of_getElem? (i := 9) rfl)) (hw _ (List.mem_of_getElem? (i := 10) rfl)) e0 (g := (mkF m 1 #[.val (.ref a0), .val (.int p1), .val (.int p2), .val (.ref a3)] [(.ref a0)])) rfl (by rw [hml]; rfl) rfl (hb hby d1_1) (by decide) (W := 0) (by show 2 * 0 + _ ≤ _; exact Nat.le_of_eq rfl) (by decide)
  have pre63 : ∀ t, Steps p.tables e below (T62.setTop (mkF m 4 #[.val (.ref a0), .val (.int p1), .val (.int p2), .val (.ref a3)] [])) t → Steps p.tables e below (s₁.setTop (entryFrame m #[(.ref a0), (.int p1), (.int p2), (.ref a3)] 4)) t := fun t k => pre61 t (st62 t k)
  have pre64 : ∀ t, Steps p.tables e below (T62.setTop (mkF m 15 #[.val (.ref a0), .val (.int p1), .val (.int p2), .val (.ref a3)] [(.ref a3)])) t → Steps p.tables e below (s₁.setTop (entryFrame m #[(.ref a0), (.int p1), (.int p2), (.ref a3)] 4)) t := by
    intro t k
    refine pre63 t ?_
    show Steps p.tables e below (T62.setTop (mkF m 4 #[.val (.ref a0), .val (.int p1), .val (.int p2), .val (.ref a3)] [])) _
    refine XS.iloadN X62.here hx rfl (hb hby d1_4) rfl ?_
    show Steps p.tables e below (T62.setTop (mkF m 5 #[.val (.ref a0), .val (.int p1), .val (.int p2), .val (.ref a3)] [(.int p1)])) _
    refine XS.iconst X62.here hx rfl (hb hby d1_5) ?_
    show Steps p.tables e below (T62.setTop (mkF m 6 #[.val (.ref a0), .val (.int p1), .val (.int p2), .val (.ref a3)] [(.int (1 : Int32)), (.int p1)])) _
    show Steps p.tables e below (T62.setTop (mkF m 6 #[.val (.ref a0), .val (.int p1), .val (.int p2), .val (.ref a3)] [(.int (1 : Int32)), (.int p1)])) _
    refine XS.icmpNo X62.here hx rfl (hb hby d1_6) rfl (flt hk6).1 ?_
    show Steps p.tables e below (T62.setTop (mkF m 9 #[.val (.ref a0), .val (.int p1), .val (.int p2), .val (.ref a3)] [])) _
    refine XS.iloadN X62.here hx rfl (hb hby d1_9) rfl ?_
    show Steps p.tables e below (T62.setTop (mkF m 10 #[.val (.ref a0), .val (.int p1), .val (.int p2), .val (.ref a3)] [(.int p2)])) _
    refine XS.iconst X62.here hx rfl (hb hby d1_10) ?_
    show Steps p.tables e below (T62.setTop (mkF m 11 #[.val (.ref a0), .val (.int p1), .val (.int p2), .val (.ref a3)] [(.int (1 : Int32)), (.int p2)])) _
    show Steps p.tables e below (T62.setTop (mkF m 11 #[.val (.ref a0), .val (.int p1), .val (.int p2), .val (.ref a3)] [(.int (1 : Int32)), (.int p2)])) _
    refine XS.icmpNo X62.here hx rfl (hb hby d1_11) rfl (flt hk11).1 ?_
    show Steps p.tables e below (T62.setTop (mkF m 14 #[.val (.ref a0), .val (.int p1), .val (.int p2), .val (.ref a3)] [])) _
    refine XS.aloadN X62.here hx rfl (hb hby d1_14) rfl rfl ?_
    show Steps p.tables e below (T62.setTop (mkF m 15 #[.val (.ref a0), .val (.int p1), .val (.int p2), .val (.ref a3)] [(.ref a3)])) _
    exact k
  obtain ⟨cl65, Ar65, q65, S65, M65, H65, G65⟩ := id V_a3
  have pre66 : ∀ t, Steps p.tables e below (T62.setTop (mkF m 31 #[.val (.ref a0), .val (.int p1), .val (.int p2), .val (.ref a3)] [(.int p1), (.ref a0)])) t → Steps p.tables e below (s₁.setTop (entryFrame m #[(.ref a0), (.int p1), (.int p2), (.ref a3)] 4)) t := by
    intro t k
    refine pre64 t ?_
    show Steps p.tables e below (T62.setTop (mkF m 15 #[.val (.ref a0), .val (.int p1), .val (.int p2), .val (.ref a3)] [(.ref a3)])) _
    refine X62.arraylength hx (by rw [e62]; exact Ar65.1) (State.isArrayOf_alike hZ.alike Ar65.2.1) (g := (mkF m 15 #[.val (.ref a0), .val (.int p1), .val (.int p2), .val (.ref a3)] [(.ref a3)])) rfl rfl (hb hby d1_15) _ ?_
    rw [len_of S65 M65]
    show Steps p.tables e below (T62.setTop (mkF m 16 #[.val (.ref a0), .val (.int p1), .val (.int p2), .val (.ref a3)] [(.int (2 : Int32))])) _
    show Steps p.tables e below (T62.setTop (mkF m 16 #[.val (.ref a0), .val (.int p1), .val (.int p2), .val (.ref a3)] [(.int (2 : Int32))])) _
    refine XS.ifYes X62.here hx rfl (pc0 := 16) (pc' := 29) rfl (hb hby d1_16) rfl ((if0 _ _).trans (feq (by decide : ¬ (2 : Int32) = (0 : Int32))).2) (by decide) (by decide) ?_
    show Steps p.tables e below (T62.setTop (mkF m 29 #[.val (.ref a0), .val (.int p1), .val (.int p2), .val (.ref a3)] [])) _
    refine XS.aloadN X62.here hx rfl (hb hby d1_29) rfl rfl ?_
    show Steps p.tables e below (T62.setTop (mkF m 30 #[.val (.ref a0), .val (.int p1), .val (.int p2), .val (.ref a3)] [(.ref a0)])) _
    refine XS.iloadN X62.here hx rfl (hb hby d1_30) rfl ?_
    show Steps p.tables e below (T62.setTop (mkF m 31 #[.val (.ref a0), .val (.int p1), .val (.int p2), .val (.ref a3)] [(.int p1), (.ref a0)])) _
    exact k
  obtain ⟨T67, h67, X67, e67, W67, st67⟩ := putF X62 hx hZ hown (host := "") (Or.inl (hw _ (List.mem_of_getElem? (i := 11) rfl))) Via.refl e62 F_number_a0 E_a0 (Or.inr ⟨(hw _ (List.mem_of_getElem? (i := 12) rfl)), rfl, hnm⟩) (hw _ (List.mem_of_getElem? (i := 3) rfl)) (ty := .int) (by decide) rfl rfl (g := (mkF m 31 #[.val (.ref a0), .val (.int p1), .val (.int p2), .val (.ref a3)] [(.int p1), (.ref a0)])) rfl rfl (hb hby d1_31)
  have Z67 : n0 ≤ h67.size := Nat.le_trans Z0 (Keep.of_wr W67).1
  have K67 : Keep h0 h67 [a0] := (Keep.refl h0 [a0]).wr W67 (Or.inl (List.mem_of_getElem? (i := 0) rfl))
  have N67 := Fr.snoc X67 N0 g_a0
  have Vf68 : Arv Z h67 a3 k_a3 .int (2 : Int32) [(.int x0), (.int x1)] (.int (0 : Int32)) := (V_a3).other W67 ne_a3_a0
  have Ef69 : Exa Z h67 a3 "[I" := (E_a3).wr W67
  have Ff70 : Fld Z h67 a0 "com/example/timely_exodus/timelyexodus/plan/Vehicle" "departurePeriod" "I" (.int w_departurePeriod_a0) := (F_departurePeriod_a0).other W67 (Or.inr (slot_ne (Or.inr (hw _ (List.mem_of_getElem? (i := 14) rfl))) (Or.inr (hw _ (List.mem_of_getElem? (i := 12) rfl))) (by decide) (t := .int) (t' := .int) (by decide) (by decide)))
  have Ff71 : Fld Z h67 a0 "com/example/timely_exodus/timelyexodus/plan/Vehicle" "route" "[I" w_route_a0 := (F_route_a0).other W67 (Or.inr (slot_ne (Or.inr (hw _ (List.mem_of_getElem? (i := 25) rfl))) (Or.inr (hw _ (List.mem_of_getElem? (i := 12) rfl))) (by decide) (t := (.array .int)) (t' := .int) (by decide) (by decide)))
  have Ef72 : Exa Z h67 a0 "com/example/timely_exodus/timelyexodus/plan/Vehicle" := (E_a0).wr W67
  have Fw67 : Fld Z h67 a0 "com/example/timely_exodus/timelyexodus/plan/Vehicle" "number" "I" (.int p1) := (F_number_a0).same W67
  have pre73 : ∀ t, Steps p.tables e below (T67.setTop (mkF m 34 #[.val (.ref a0), .val (.int p1), .val (.int p2), .val (.ref a3)] [])) t → Steps p.tables e below (s₁.setTop (entryFrame m #[(.ref a0), (.int p1), (.int p2), (.ref a3)] 4)) t := fun t k => pre66 t (st67 t k)
  have pre74 : ∀ t, Steps p.tables e below (T67.setTop (mkF m 36 #[.val (.ref a0), .val (.int p1), .val (.int p2), .val (.ref a3)] [(.int p2), (.ref a0)])) t → Steps p.tables e below (s₁.setTop (entryFrame m #[(.ref a0), (.int p1), (.int p2), (.ref a3)] 4)) t := by
    intro t k
    refine pre73 t ?_
    show Steps p.tables e below (T67.setTop (mkF m 34 #[.val (.ref a0), .val (.int p1), .val (.int p2), .val (.ref a3)] [])) _
    refine XS.aloadN X67.here hx rfl (hb hby d1_34) rfl rfl ?_
    show Steps p.tables e below (T67.setTop (mkF m 35 #[.val (.ref a0), .val (.int p1), .val (.int p2), .val (.ref a3)] [(.ref a0)])) _
    refine XS.iloadN X67.here hx rfl (hb hby d1_35) rfl ?_
    show Steps p.tables e below (T67.setTop (mkF m 36 #[.val (.ref a0), .val (.int p1), .val (.int p2), .val (.ref a3)] [(.int p2), (.ref a0)])) _
    exact k
  obtain ⟨T75, h75, X75, e75, W75, st75⟩ := putF X67 hx hZ hown (host := "") (Or.inl (hw _ (List.mem_of_getElem? (i := 13) rfl))) Via.refl e67 Ff70 Ef72 (Or.inr ⟨(hw _ (List.mem_of_getElem? (i := 14) rfl)), rfl, hnm⟩) (hw _ (List.mem_of_getElem? (i := 3) rfl)) (ty := .int) (by decide) rfl rfl (g := (mkF m 36 #[.val (.ref a0), .val (.int p1), .val (.int p2), .val (.ref a3)] [(.int p2), (.ref a0)])) rfl rfl (hb hby d1_36)
  have Z75 : n0 ≤ h75.size := Nat.le_trans Z67 (Keep.of_wr W75).1
  have K75 : Keep h0 h75 [a0] := K67.wr W75 (Or.inl (List.mem_of_getElem? (i := 0) rfl))
  have N75 := Fr.snoc X75 N67 g_a0
  have Vf76 : Arv Z h75 a3 k_a3 .int (2 : Int32) [(.int x0), (.int x1)] (.int (0 : Int32)) := (Vf68).other W75 ne_a3_a0
  have Ef77 : Exa Z h75 a3 "[I" := (Ef69).wr W75
  have Ff78 : Fld Z h75 a0 "com/example/timely_exodus/timelyexodus/plan/Vehicle" "route" "[I" w_route_a0 := (Ff71).other W75 (Or.inr (slot_ne (Or.inr (hw _ (List.mem_of_getElem? (i := 25) rfl))) (Or.inr (hw _ (List.mem_of_getElem? (i := 14) rfl))) (by decide) (t := (.array .int)) (t' := .int) (by decide) (by decide)))
  have Ef79 : Exa Z h75 a0 "com/example/timely_exodus/timelyexodus/plan/Vehicle" := (Ef72).wr W75
  have Ff80 : Fld Z h75 a0 "com/example/timely_exodus/timelyexodus/plan/Vehicle" "number" "I" (.int p1) := (Fw67).other W75 (Or.inr (slot_ne (Or.inr (hw _ (List.mem_of_getElem? (i := 12) rfl))) (Or.inr (hw _ (List.mem_of_getElem? (i := 14) rfl))) (by decide) (t := .int) (t' := .int) (by decide) (by decide)))
  have Fw75 : Fld Z h75 a0 "com/example/timely_exodus/timelyexodus/plan/Vehicle" "departurePeriod" "I" (.int p2) := (Ff70).same W75
  have pre81 : ∀ t, Steps p.tables e below (T75.setTop (mkF m 39 #[.val (.ref a0), .val (.int p1), .val (.int p2), .val (.ref a3)] [])) t → Steps p.tables e below (s₁.setTop (entryFrame m #[(.ref a0), (.int p1), (.int p2), (.ref a3)] 4)) t := fun t k => pre74 t (st75 t k)
  have pre82 : ∀ t, Steps p.tables e below (T75.setTop (mkF m 41 #[.val (.ref a0), .val (.int p1), .val (.int p2), .val (.ref a3)] [(.ref a3), (.ref a0)])) t → Steps p.tables e below (s₁.setTop (entryFrame m #[(.ref a0), (.int p1), (.int p2), (.ref a3)] 4)) t := by
    intro t k
    refine pre81 t ?_
    show Steps p.tables e below (T75.setTop (mkF m 39 #[.val (.ref a0), .val (.int p1), .val (.int p2), .val (.ref a3)] [])) _
    refine XS.aloadN X75.here hx rfl (hb hby d1_39) rfl rfl ?_
    show Steps p.tables e below (T75.setTop (mkF m 40 #[.val (.ref a0), .val (.int p1), .val (.int p2), .val (.ref a3)] [(.ref a0)])) _
    refine XS.aloadN X75.here hx rfl (hb hby d1_40) rfl rfl ?_
    show Steps p.tables e below (T75.setTop (mkF m 41 #[.val (.ref a0), .val (.int p1), .val (.int p2), .val (.ref a3)] [(.ref a3), (.ref a0)])) _
    exact k
  obtain ⟨T83, h83, X83, e83, E83, A83, C83, st83⟩ := cloneH X75 hx hZ hown (hw _ (List.mem_of_getElem? (i := 15) rfl)) (hw _ (List.mem_of_getElem? (i := 16) rfl)) (hw _ (List.mem_of_getElem? (i := 20) rfl)) (hw _ (List.mem_of_getElem? (i := 18) rfl)) (hw _ (List.mem_of_getElem? (i := 19) rfl)) (hw _ (List.mem_of_getElem? (i := 21) rfl)) e75 (Arv.arh Vf76) Ef77 (g := (mkF m 41 #[.val (.ref a0), .val (.int p1), .val (.int p2), .val (.ref a3)] [(.ref a3), (.ref a0)])) rfl (by rw [hml]; rfl) rfl (hb hby d1_41) (by decide) (W := 1) (cap := 2) (by show 2 * 0 + _ ≤ _; exact Nat.le_of_eq rfl) (by decide) (by decide) (by decide) (by decide)
  obtain ⟨b83, g83⟩ : ∃ z, z = h75.size := ⟨_, rfl⟩
  rw [← g83] at A83 C83 st83
  have ne_a3_b83 : a3 ≠ b83 := Nat.ne_of_lt (Nat.lt_of_lt_of_le (Vf76).lt (Nat.le_of_eq g83.symm))
  have ne_a0_b83 : a0 ≠ b83 := Nat.ne_of_lt (Nat.lt_of_lt_of_le (Ff78).lt (Nat.le_of_eq g83.symm))
  have g_b83 : n0 ≤ b83 := Nat.le_trans Z75 (Nat.le_of_eq g83.symm)
  have sz_b83 : h0.size ≤ b83 := Nat.le_trans K75.1 (Nat.le_of_eq g83.symm)
  have Z83 : n0 ≤ h83.size := Nat.le_trans Z75 E83.1
  have K83 : Keep h0 h83 [a0] := K75.ext E83
  have Vf84 : Arv Z h83 a3 k_a3 .int (2 : Int32) [(.int x0), (.int x1)] (.int (0 : Int32)) := (Vf76).ext E83
  have Ef85 : Exa Z h83 a3 "[I" := (Ef77).ext E83
  have Ff86 : Fld Z h83 a0 "com/example/timely_exodus/timelyexodus/plan/Vehicle" "route" "[I" w_route_a0 := (Ff78).ext E83
  have Ef87 : Exa Z h83 a0 "com/example/timely_exodus/timelyexodus/plan/Vehicle" := (Ef79).ext E83
  have Ff88 : Fld Z h83 a0 "com/example/timely_exodus/timelyexodus/plan/Vehicle" "number" "I" (.int p1) := (Ff80).ext E83
  have Ff89 : Fld Z h83 a0 "com/example/timely_exodus/timelyexodus/plan/Vehicle" "departurePeriod" "I" (.int p2) := (Fw75).ext E83
  have V_b83 : Arv Z h83 b83 k_a3 .int (2 : Int32) [(.int x0), (.int x1)] (.int (0 : Int32)) := A83
  have pre90 : ∀ t, Steps p.tables e below (T83.setTop (mkF m 44 #[.val (.ref a0), .val (.int p1), .val (.int p2), .val (.ref a3)] [(.ref b83), (.ref a0)])) t → Steps p.tables e below (s₁.setTop (entryFrame m #[(.ref a0), (.int p1), (.int p2), (.ref a3)] 4)) t := fun t k => pre82 t (st83 t k)
  obtain ⟨T91, X91, e91, st91⟩ := castY X83 hx hZ hown (hw _ (List.mem_of_getElem? (i := 22) rfl)) e83 (Ins.self C83) (g := (mkF m 44 #[.val (.ref a0), .val (.int p1), .val (.int p2), .val (.ref a3)] [(.ref b83), (.ref a0)])) rfl rfl (hb hby d1_44)
  have pre92 : ∀ t, Steps p.tables e below (T91.setTop (mkF m 47 #[.val (.ref a0), .val (.int p1), .val (.int p2), .val (.ref a3)] [(.ref b83), (.ref a0)])) t → Steps p.tables e below (s₁.setTop (entryFrame m #[(.ref a0), (.int p1), (.int p2), (.ref a3)] 4)) t := fun t k => pre90 t (st91 t k)
  obtain ⟨T93, h93, X93, e93, W93, st93⟩ := putF X91 hx hZ hown (host := "") (Or.inl (hw _ (List.mem_of_getElem? (i := 24) rfl))) Via.refl e91 Ff86 Ef87 (Or.inr ⟨(hw _ (List.mem_of_getElem? (i := 25) rfl)), rfl, hnm⟩) (hw _ (List.mem_of_getElem? (i := 3) rfl)) (ty := (.array .int)) (by decide) rfl rfl (g := (mkF m 47 #[.val (.ref a0), .val (.int p1), .val (.int p2), .val (.ref a3)] [(.ref b83), (.ref a0)])) rfl rfl (hb hby d1_47)
  have Z93 : n0 ≤ h93.size := Nat.le_trans Z83 (Keep.of_wr W93).1
  have K93 : Keep h0 h93 [a0] := K83.wr W93 (Or.inl (List.mem_of_getElem? (i := 0) rfl))
  have N93 := Fr.snoc X93 N75 g_a0
  have Vf94 : Arv Z h93 a3 k_a3 .int (2 : Int32) [(.int x0), (.int x1)] (.int (0 : Int32)) := (Vf84).other W93 ne_a3_a0
  have Ef95 : Exa Z h93 a3 "[I" := (Ef85).wr W93
  have Ef96 : Exa Z h93 a0 "com/example/timely_exodus/timelyexodus/plan/Vehicle" := (Ef87).wr W93
  have Ff97 : Fld Z h93 a0 "com/example/timely_exodus/timelyexodus/plan/Vehicle" "number" "I" (.int p1) := (Ff88).other W93 (Or.inr (slot_ne (Or.inr (hw _ (List.mem_of_getElem? (i := 12) rfl))) (Or.inr (hw _ (List.mem_of_getElem? (i := 25) rfl))) (by decide) (t := .int) (t' := (.array .int)) (by decide) (by decide)))
  have Ff98 : Fld Z h93 a0 "com/example/timely_exodus/timelyexodus/plan/Vehicle" "departurePeriod" "I" (.int p2) := (Ff89).other W93 (Or.inr (slot_ne (Or.inr (hw _ (List.mem_of_getElem? (i := 14) rfl))) (Or.inr (hw _ (List.mem_of_getElem? (i := 25) rfl))) (by decide) (t := .int) (t' := (.array .int)) (by decide) (by decide)))
  have Vf99 : Arv Z h93 b83 k_a3 .int (2 : Int32) [(.int x0), (.int x1)] (.int (0 : Int32)) := (V_b83).other W93 ne_a0_b83.symm
  have Ef100 : Exa Z h93 b83 "[I" := (C83).wr W93
  have Fw93 : Fld Z h93 a0 "com/example/timely_exodus/timelyexodus/plan/Vehicle" "route" "[I" (.ref b83) := (Ff86).same W93
  have pre101 : ∀ t, Steps p.tables e below (T93.setTop (mkF m 50 #[.val (.ref a0), .val (.int p1), .val (.int p2), .val (.ref a3)] [])) t → Steps p.tables e below (s₁.setTop (entryFrame m #[(.ref a0), (.int p1), (.int p2), (.ref a3)] 4)) t := fun t k => pre92 t (st93 t k)
  obtain ⟨fs, hr, hrun, hended, hW, hsame⟩ := X93.leave (v := none) (fun _ => rfl)
  refine ⟨_, _, pre101 _ ?_, hrun, hended, _, _, rfl, ?_, ⟨_, rfl⟩, hW, hsame.mono (by decide) (by decide)⟩
  · show Steps p.tables e below (T93.setTop (mkF m 50 #[.val (.ref a0), .val (.int p1), .val (.int p2), .val (.ref a3)] [])) _
    exact X93.returnOut hx Bd.returns (hb hby d1_50) hr
  · show Q1_n2 Z a0 p1 p2 a3 k_a3 x0 x1 w_departurePeriod_a0 w_route_a0 w_number_a0 h0 n0 _ T93.heap _
    rw [e93]
    exact ⟨b83, k_a3, rfl, N93, K93, Ef96, Ff97, Ff98, Fw93, sz_b83, Vf99, Ef100⟩
def Q3_n2 (Z : State) (a0 : Addr) (r1 : Addr) (k_r1 : ClassId) (x0 : Int32) (x1 : Int32) (h0 : Heap) (n0 : Nat) (v : Option Value) (h : Heap) (L : List Loc) : Prop := v = some (.int x1) ∧ Fr n0 L ∧ h = h0
set_option maxRecDepth 65536 in
set_option maxHeartbeats 40000000 in
theorem rm3_n2 (l : Launch) (Z : State) (ar0 : Array Value) (hw : ∀ d ∈ tables_1, d.before ar0 Z = true) (ws : List Jvm.Cond) (a0 : Addr) (r1 : Addr) (k_r1 : ClassId) (x0 : Int32) (x1 : Int32) (h0 : Heap) (n0 : Nat) (Z0 : n0 ≤ h0.size) (F_route_a0 : Fld Z h0 a0 "com/example/timely_exodus/timelyexodus/plan/Vehicle" "route" "[I" (.ref r1)) (V_r1 : Arv Z h0 r1 k_r1 .int (2 : Int32) [(.int x0), (.int x1)] (.int (0 : Int32))) :
    MetFree l (⟨"com/example/timely_exodus/timelyexodus/plan/Vehicle", "getExitCell", "()I"⟩ : MethodName) (head1 (Jvm.Cond.code (⟨"com/example/timely_exodus/timelyexodus/plan/Vehicle", "getExitCell", "()I"⟩ : MethodName) prog_38_method_5_code 1 (some .int) :: ws) ({ frames := 0, cells := 0, slots := 0, locals := 0 } : Room)) (fun a U => a = #[(.ref a0)] ∧ Z.Warmed39 U.vm ∧ U.heap = h0) (fun _ _ _ _ _ => True) (fun _ U o U' => ∃ v L, o = .returned v ∧ Q3_n2 Z a0 r1 k_r1 x0 x1 h0 n0 v U'.heap L ∧ FrameEnd U o U' L ({ frames := 0, cells := 0, slots := 0, locals := 0 } : Room).cells ({ frames := 0, cells := 0, slots := 0, locals := 0 } : Room).slots) := by
  refine MetFree.of_bodySF (plainFor_of_name pn_0) hisR ?_
  intro p e s m args below meth c s₁ Bd hml0 hP hK
  obtain ⟨rfl, hZ, hh⟩ := hP
  have hx := Bd.exec
  have hby := Bd.bytes
  have hml : c.maxLocals = 1 := hml0
  have hown : s.vm.findClass "com/example/timely_exodus/timelyexodus/plan/Vehicle" = some m.cls := findClass_of_methodNamed Bd.named
  have hnm := (name_of_methodNamed Bd.named Bd.method).1
  have X0 : Stand p l e ({ frames := 0, cells := 0, slots := 0, locals := 0 } : Room) s m #[(.ref a0)] below meth c s₁ [] 0 0 := Stand.of_body Bd
  have e0 : s₁.heap = h0 := by rw [← hh, Bd.state]; rfl
  have N0 := Fr.nil n0
  have pre0 : ∀ t, Steps p.tables e below (s₁.setTop (mkF m 0 #[.val (.ref a0)] [])) t → Steps p.tables e below (s₁.setTop (entryFrame m #[(.ref a0)] 1)) t := fun t k => castTop (ef_3 m a0) k
  have pre102 : ∀ t, Steps p.tables e below (s₁.setTop (mkF m 1 #[.val (.ref a0)] [(.ref a0)])) t → Steps p.tables e below (s₁.setTop (entryFrame m #[(.ref a0)] 1)) t := by
    intro t k
    refine pre0 t ?_
    show Steps p.tables e below (s₁.setTop (mkF m 0 #[.val (.ref a0)] [])) _
    refine XS.aloadN X0.here hx rfl (hb hby d3_0) rfl rfl ?_
    show Steps p.tables e below (s₁.setTop (mkF m 1 #[.val (.ref a0)] [(.ref a0)])) _
    exact k
  obtain ⟨T103, X103, e103, st103⟩ := getF X0 hx hZ hown (host := "") (Or.inl (hw _ (List.mem_of_getElem? (i := 24) rfl))) Via.refl e0 F_route_a0 (g := (mkF m 1 #[.val (.ref a0)] [(.ref a0)])) rfl rfl (hb hby d3_1)
  have pre104 : ∀ t, Steps p.tables e below (T103.setTop (mkF m 4 #[.val (.ref a0)] [(.ref r1)])) t → Steps p.tables e below (s₁.setTop (entryFrame m #[(.ref a0)] 1)) t := fun t k => pre102 t (st103 t k)
  have pre105 : ∀ t, Steps p.tables e below (T103.setTop (mkF m 5 #[.val (.ref a0)] [(.ref a0), (.ref r1)])) t → Steps p.tables e below (s₁.setTop (entryFrame m #[(.ref a0)] 1)) t := by
    intro t k
    refine pre104 t ?_
    show Steps p.tables e below (T103.setTop (mkF m 4 #[.val (.ref a0)] [(.ref r1)])) _
    refine XS.aloadN X103.here hx rfl (hb hby d3_4) rfl rfl ?_
    show Steps p.tables e below (T103.setTop (mkF m 5 #[.val (.ref a0)] [(.ref a0), (.ref r1)])) _
    exact k
  obtain ⟨T106, X106, e106, st106⟩ := getF X103 hx hZ hown (host := "") (Or.inl (hw _ (List.mem_of_getElem? (i := 24) rfl))) Via.refl e103 F_route_a0 (g := (mkF m 5 #[.val (.ref a0)] [(.ref a0), (.ref r1)])) rfl rfl (hb hby d3_5)
  have pre107 : ∀ t, Steps p.tables e below (T106.setTop (mkF m 8 #[.val (.ref a0)] [(.ref r1), (.ref r1)])) t → Steps p.tables e below (s₁.setTop (entryFrame m #[(.ref a0)] 1)) t := fun t k => pre105 t (st106 t k)
  obtain ⟨cl108, Ar108, q108, S108, M108, H108, G108⟩ := id V_r1
  have pre109 : ∀ t, Steps p.tables e below (T106.setTop (mkF m 11 #[.val (.ref a0)] [(.int (1 : Int32)), (.ref r1)])) t → Steps p.tables e below (s₁.setTop (entryFrame m #[(.ref a0)] 1)) t := by
    intro t k
    refine pre107 t ?_
    show Steps p.tables e below (T106.setTop (mkF m 8 #[.val (.ref a0)] [(.ref r1), (.ref r1)])) _
    refine X106.arraylength hx (by rw [e106]; exact Ar108.1) (State.isArrayOf_alike hZ.alike Ar108.2.1) (g := (mkF m 8 #[.val (.ref a0)] [(.ref r1), (.ref r1)])) rfl rfl (hb hby d3_8) _ ?_
    rw [len_of S108 M108]
    show Steps p.tables e below (T106.setTop (mkF m 9 #[.val (.ref a0)] [(.int (2 : Int32)), (.ref r1)])) _
    refine XS.iconst X106.here hx rfl (hb hby d3_9) ?_
    show Steps p.tables e below (T106.setTop (mkF m 10 #[.val (.ref a0)] [(.int (1 : Int32)), (.int (2 : Int32)), (.ref r1)])) _
    refine XS.isub X106.here hx rfl (hb hby d3_10) rfl ?_
    show Steps p.tables e below (T106.setTop (mkF m 11 #[.val (.ref a0)] [(.int (1 : Int32)), (.ref r1)])) _
    exact k
  obtain ⟨cl110, Ar110, q110, S110, M110, H110, G110⟩ := id V_r1
  have hin110 : ¬ ((1 : Int32) < 0 ∨ cl110.slots.size ≤ ((1 : Int32)).toNatClampNeg) := inb_of S110 ⟨by decide, by decide⟩
  have hat110 : cl110.slots[((1 : Int32)).toNatClampNeg]? = some (.int x1) := H110.at hin110 rfl
  obtain ⟨fs, hr, hrun, hended, hW, hsame⟩ := X106.leave (v := some (.int x1)) (fun h => by rw [Bd.returns] at h; cases h)
  refine ⟨_, _, pre109 _ ?_, hrun, hended, _, _, rfl, ?_, ⟨_, rfl⟩, hW, hsame.mono (by decide) (by decide)⟩
  · show Steps p.tables e below (T106.setTop (mkF m 11 #[.val (.ref a0)] [(.int (1 : Int32)), (.ref r1)])) _
    refine X106.iaload hx (j := (1 : Int32)) (v := (.int x1)) (by rw [e106]; exact Ar110.1) (State.isArrayOf_alike hZ.alike Ar110.2.1) Ar110.2.2 hin110 hat110 (g := (mkF m 11 #[.val (.ref a0)] [(.int (1 : Int32)), (.ref r1)])) rfl rfl (hb hby d3_11) _ ?_
    show Steps p.tables e below (T106.setTop (mkF m 12 #[.val (.ref a0)] [(.int x1)])) _
    exact retOut X106 hx Bd.returns rfl (Or.inl ⟨rfl, Or.inl rfl, _, rfl⟩) (hb hby d3_12) hr
  · show Q3_n2 Z a0 r1 k_r1 x0 x1 h0 n0 _ T106.heap _
    rw [e106]
    exact ⟨rfl, N0, rfl⟩
def Q4_n2 (Z : State) (a0 : Addr) (r1 : Addr) (k_r1 : ClassId) (x0 : Int32) (x1 : Int32) (h0 : Heap) (n0 : Nat) (v : Option Value) (h : Heap) (L : List Loc) : Prop := ∃ (b : Addr) (k_b : ClassId), v = some (.ref b) ∧ Fr n0 L ∧ Keep h0 h [] ∧ h0.size ≤ b ∧ Arv Z h b k_b .int (2 : Int32) [(.int x0), (.int x1)] (.int (0 : Int32)) ∧ Exa Z h b "[I"
set_option maxRecDepth 65536 in
set_option maxHeartbeats 40000000 in
theorem rm4_n2 (l : Launch) (Z : State) (ar0 : Array Value) (hw : ∀ d ∈ tables_1, d.before ar0 Z = true) (ws : List Jvm.Cond) (a0 : Addr) (r1 : Addr) (k_r1 : ClassId) (x0 : Int32) (x1 : Int32) (h0 : Heap) (n0 : Nat) (Z0 : n0 ≤ h0.size) (F_route_a0 : Fld Z h0 a0 "com/example/timely_exodus/timelyexodus/plan/Vehicle" "route" "[I" (.ref r1)) (V_r1 : Arv Z h0 r1 k_r1 .int (2 : Int32) [(.int x0), (.int x1)] (.int (0 : Int32))) (E_r1 : Exa Z h0 r1 "[I") :
    MetFree l (⟨"com/example/timely_exodus/timelyexodus/plan/Vehicle", "getRoute", "()[I"⟩ : MethodName) (head1 (Jvm.Cond.code (⟨"com/example/timely_exodus/timelyexodus/plan/Vehicle", "getRoute", "()[I"⟩ : MethodName) prog_38_method_6_code 1 (some (.array .int)) :: ws) ({ frames := 1, cells := 1, slots := 2, locals := 14 } : Room)) (fun a U => a = #[(.ref a0)] ∧ Z.Warmed39 U.vm ∧ U.heap = h0) (fun _ _ _ _ _ => True) (fun _ U o U' => ∃ v L, o = .returned v ∧ Q4_n2 Z a0 r1 k_r1 x0 x1 h0 n0 v U'.heap L ∧ FrameEnd U o U' L ({ frames := 1, cells := 1, slots := 2, locals := 14 } : Room).cells ({ frames := 1, cells := 1, slots := 2, locals := 14 } : Room).slots) := by
  refine MetFree.of_bodySF (plainFor_of_name pn_0) hisR ?_
  intro p e s m args below meth c s₁ Bd hml0 hP hK
  obtain ⟨rfl, hZ, hh⟩ := hP
  have hx := Bd.exec
  have hby := Bd.bytes
  have hml : c.maxLocals = 1 := hml0
  have hown : s.vm.findClass "com/example/timely_exodus/timelyexodus/plan/Vehicle" = some m.cls := findClass_of_methodNamed Bd.named
  have hnm := (name_of_methodNamed Bd.named Bd.method).1
  have X0 : Stand p l e ({ frames := 1, cells := 1, slots := 2, locals := 14 } : Room) s m #[(.ref a0)] below meth c s₁ [] 0 0 := Stand.of_body Bd
  have e0 : s₁.heap = h0 := by rw [← hh, Bd.state]; rfl
  have N0 := Fr.nil n0
  have pre0 : ∀ t, Steps p.tables e below (s₁.setTop (mkF m 0 #[.val (.ref a0)] [])) t → Steps p.tables e below (s₁.setTop (entryFrame m #[(.ref a0)] 1)) t := fun t k => castTop (ef_4 m a0) k
  have pre111 : ∀ t, Steps p.tables e below (s₁.setTop (mkF m 1 #[.val (.ref a0)] [(.ref a0)])) t → Steps p.tables e below (s₁.setTop (entryFrame m #[(.ref a0)] 1)) t := by
    intro t k
    refine pre0 t ?_
    show Steps p.tables e below (s₁.setTop (mkF m 0 #[.val (.ref a0)] [])) _
    refine XS.aloadN X0.here hx rfl (hb hby d4_0) rfl rfl ?_
    show Steps p.tables e below (s₁.setTop (mkF m 1 #[.val (.ref a0)] [(.ref a0)])) _
    exact k
  obtain ⟨T112, X112, e112, st112⟩ := getF X0 hx hZ hown (host := "") (Or.inl (hw _ (List.mem_of_getElem? (i := 24) rfl))) Via.refl e0 F_route_a0 (g := (mkF m 1 #[.val (.ref a0)] [(.ref a0)])) rfl rfl (hb hby d4_1)
  have pre113 : ∀ t, Steps p.tables e below (T112.setTop (mkF m 4 #[.val (.ref a0)] [(.ref r1)])) t → Steps p.tables e below (s₁.setTop (entryFrame m #[(.ref a0)] 1)) t := fun t k => pre111 t (st112 t k)
  obtain ⟨T114, h114, X114, e114, E114, A114, C114, st114⟩ := cloneH X112 hx hZ hown (hw _ (List.mem_of_getElem? (i := 15) rfl)) (hw _ (List.mem_of_getElem? (i := 16) rfl)) (hw _ (List.mem_of_getElem? (i := 20) rfl)) (hw _ (List.mem_of_getElem? (i := 18) rfl)) (hw _ (List.mem_of_getElem? (i := 19) rfl)) (hw _ (List.mem_of_getElem? (i := 21) rfl)) e112 (Arv.arh V_r1) E_r1 (g := (mkF m 4 #[.val (.ref a0)] [(.ref r1)])) rfl (by rw [hml]; rfl) rfl (hb hby d4_4) (by decide) (W := 0) (cap := 2) (by show 2 * 0 + _ ≤ _; exact Nat.le_of_eq rfl) (by decide) (by decide) (by decide) (by decide)
  obtain ⟨b114, g114⟩ : ∃ z, z = h0.size := ⟨_, rfl⟩
  rw [← g114] at A114 C114 st114
  have ne_a0_b114 : a0 ≠ b114 := Nat.ne_of_lt (Nat.lt_of_lt_of_le (F_route_a0).lt (Nat.le_of_eq g114.symm))
  have ne_r1_b114 : r1 ≠ b114 := Nat.ne_of_lt (Nat.lt_of_lt_of_le (V_r1).lt (Nat.le_of_eq g114.symm))
  have g_b114 : n0 ≤ b114 := Nat.le_trans Z0 (Nat.le_of_eq g114.symm)
  have sz_b114 : h0.size ≤ b114 := Nat.le_trans (Keep.refl h0 []).1 (Nat.le_of_eq g114.symm)
  have Z114 : n0 ≤ h114.size := Nat.le_trans Z0 E114.1
  have K114 : Keep h0 h114 [] := (Keep.refl h0 []).ext E114
  have Ff115 : Fld Z h114 a0 "com/example/timely_exodus/timelyexodus/plan/Vehicle" "route" "[I" (.ref r1) := (F_route_a0).ext E114
  have Vf116 : Arv Z h114 r1 k_r1 .int (2 : Int32) [(.int x0), (.int x1)] (.int (0 : Int32)) := (V_r1).ext E114
  have Ef117 : Exa Z h114 r1 "[I" := (E_r1).ext E114
  have V_b114 : Arv Z h114 b114 k_r1 .int (2 : Int32) [(.int x0), (.int x1)] (.int (0 : Int32)) := A114
  have pre118 : ∀ t, Steps p.tables e below (T114.setTop (mkF m 7 #[.val (.ref a0)] [(.ref b114)])) t → Steps p.tables e below (s₁.setTop (entryFrame m #[(.ref a0)] 1)) t := fun t k => pre113 t (st114 t k)
  obtain ⟨T119, X119, e119, st119⟩ := castY X114 hx hZ hown (hw _ (List.mem_of_getElem? (i := 22) rfl)) e114 (Ins.self C114) (g := (mkF m 7 #[.val (.ref a0)] [(.ref b114)])) rfl rfl (hb hby d4_7)
  have pre120 : ∀ t, Steps p.tables e below (T119.setTop (mkF m 10 #[.val (.ref a0)] [(.ref b114)])) t → Steps p.tables e below (s₁.setTop (entryFrame m #[(.ref a0)] 1)) t := fun t k => pre118 t (st119 t k)
  obtain ⟨fs, hr, hrun, hended, hW, hsame⟩ := X119.leave (v := some (.ref b114)) (fun h => by rw [Bd.returns] at h; cases h)
  refine ⟨_, _, pre120 _ ?_, hrun, hended, _, _, rfl, ?_, ⟨_, rfl⟩, hW, hsame.mono (by decide) (by decide)⟩
  · show Steps p.tables e below (T119.setTop (mkF m 10 #[.val (.ref a0)] [(.ref b114)])) _
    exact retOut X119 hx Bd.returns rfl (Or.inr (Or.inr (Or.inr (Or.inr ⟨rfl, rfl, rfl⟩)))) (hb hby d4_10) hr
  · show Q4_n2 Z a0 r1 k_r1 x0 x1 h0 n0 _ T119.heap _
    rw [e119]
    exact ⟨b114, k_r1, rfl, N0, K114, sz_b114, V_b114, C114⟩
def Q1_n3 (Z : State) (a0 : Addr) (p1 : Int32) (p2 : Int32) (a3 : Addr) (k_a3 : ClassId) (x0 : Int32) (x1 : Int32) (x2 : Int32) (w_departurePeriod_a0 : Int32) (w_route_a0 : Value) (w_number_a0 : Int32) (h0 : Heap) (n0 : Nat) (v : Option Value) (h : Heap) (L : List Loc) : Prop := ∃ (b : Addr) (k_b : ClassId), v = none ∧ Fr n0 L ∧ Keep h0 h [a0] ∧ Exa Z h a0 "com/example/timely_exodus/timelyexodus/plan/Vehicle" ∧ Fld Z h a0 "com/example/timely_exodus/timelyexodus/plan/Vehicle" "number" "I" (.int p1) ∧ Fld Z h a0 "com/example/timely_exodus/timelyexodus/plan/Vehicle" "departurePeriod" "I" (.int p2) ∧ Fld Z h a0 "com/example/timely_exodus/timelyexodus/plan/Vehicle" "route" "[I" (.ref b) ∧ h0.size ≤ b ∧ Arv Z h b k_b .int (3 : Int32) [(.int x0), (.int x1), (.int x2)] (.int (0 : Int32)) ∧ Exa Z h b "[I"
set_option maxRecDepth 65536 in
set_option maxHeartbeats 40000000 in
theorem rm1_n3 (l : Launch) (Z : State) (ar0 : Array Value) (hw : ∀ d ∈ tables_1, d.before ar0 Z = true) (ws : List Jvm.Cond) (a0 : Addr) (p1 : Int32) (p2 : Int32) (a3 : Addr) (k_a3 : ClassId) (x0 : Int32) (x1 : Int32) (x2 : Int32) (w_departurePeriod_a0 : Int32) (w_route_a0 : Value) (w_number_a0 : Int32) (h0 : Heap) (n0 : Nat) (Z0 : n0 ≤ h0.size) (V_a3 : Arv Z h0 a3 k_a3 .int (3 : Int32) [(.int x0), (.int x1), (.int x2)] (.int (0 : Int32))) (E_a3 : Exa Z h0 a3 "[I") (F_departurePeriod_a0 : Fld Z h0 a0 "com/example/timely_exodus/timelyexodus/plan/Vehicle" "departurePeriod" "I" (.int w_departurePeriod_a0)) (F_route_a0 : Fld Z h0 a0 "com/example/timely_exodus/timelyexodus/plan/Vehicle" "route" "[I" w_route_a0) (hk6 : ¬ (p1 < (1 : Int32))) (hk11 : ¬ (p2 < (1 : Int32))) (E_a0 : Exa Z h0 a0 "com/example/timely_exodus/timelyexodus/plan/Vehicle") (F_number_a0 : Fld Z h0 a0 "com/example/timely_exodus/timelyexodus/plan/Vehicle" "number" "I" (.int w_number_a0)) (g_a0 : n0 ≤ a0) (ne_a3_a0 : a3 ≠ a0) :
    MetFree l (⟨"com/example/timely_exodus/timelyexodus/plan/Vehicle", "<init>", "(II[I)V"⟩ : MethodName) (head1 (Jvm.Cond.code (⟨"com/example/timely_exodus/timelyexodus/plan/Vehicle", "<init>", "(II[I)V"⟩ : MethodName) prog_38_method_1_code 4 none :: ws) ({ frames := 1, cells := 1, slots := 3, locals := 15 } : Room)) (fun a U => a = #[(.ref a0), (.int p1), (.int p2), (.ref a3)] ∧ Z.Warmed39 U.vm ∧ U.heap = h0) (fun _ _ _ _ _ => True) (fun _ U o U' => ∃ v L, o = .returned v ∧ Q1_n3 Z a0 p1 p2 a3 k_a3 x0 x1 x2 w_departurePeriod_a0 w_route_a0 w_number_a0 h0 n0 v U'.heap L ∧ FrameEnd U o U' L ({ frames := 1, cells := 1, slots := 3, locals := 15 } : Room).cells ({ frames := 1, cells := 1, slots := 3, locals := 15 } : Room).slots) := by
  refine MetFree.of_bodySF (plainFor_of_name pn_0) hisR ?_
  intro p e s m args below meth c s₁ Bd hml0 hP hK
  obtain ⟨rfl, hZ, hh⟩ := hP
  have hx := Bd.exec
  have hby := Bd.bytes
  have hml : c.maxLocals = 4 := hml0
  have hown : s.vm.findClass "com/example/timely_exodus/timelyexodus/plan/Vehicle" = some m.cls := findClass_of_methodNamed Bd.named
  have hnm := (name_of_methodNamed Bd.named Bd.method).1
  have X0 : Stand p l e ({ frames := 1, cells := 1, slots := 3, locals := 15 } : Room) s m #[(.ref a0), (.int p1), (.int p2), (.ref a3)] below meth c s₁ [] 0 0 := Stand.of_body Bd
  have e0 : s₁.heap = h0 := by rw [← hh, Bd.state]; rfl
  have N0 := Fr.nil n0
  have pre0 : ∀ t, Steps p.tables e below (s₁.setTop (mkF m 0 #[.val (.ref a0), .val (.int p1), .val (.int p2), .val (.ref a3)] [])) t → Steps p.tables e below (s₁.setTop (entryFrame m #[(.ref a0), (.int p1), (.int p2), (.ref a3)] 4)) t := fun t k => castTop (ef_1 m a0 p1 p2 a3) k
  have pre121 : ∀ t, Steps p.tables e below (s₁.setTop (mkF m 1 #[.val (.ref a0), .val (.int p1), .val (.int p2), .val (.ref a3)] [(.ref a0)])) t → Steps p.tables e below (s₁.setTop (entryFrame m #[(.ref a0), (.int p1), (.int p2), (.ref a3)] 4)) t := by
    intro t k
    refine pre0 t ?_
    show Steps p.tables e below (s₁.setTop (mkF m 0 #[.val (.ref a0), .val (.int p1), .val (.int p2), .val (.ref a3)] [])) _
    refine XS.aloadN X0.here hx rfl (hb hby d1_0) rfl rfl ?_
    show Steps p.tables e below (s₁.setTop (mkF m 1 #[.val (.ref a0), .val (.int p1), .val (.int p2), .val (.ref a3)] [(.ref a0)])) _
    exact k
  obtain ⟨T122, X122, e122, st122⟩ := initO X0 hx hZ hown (hw _ (List.mem_of_getElem? (i := 8) rfl)) (hw _ (List.mem_of_getElem? (i := 9) rfl)) (hw _ (List.mem_of_getElem? (i := 10) rfl)) e0 (g := (mkF m 1 #[.val (.ref a0), .val (.int p1), .val (.int p2), .val (.ref a3)] [(.ref a0)])) rfl (by rw [hml]; rfl) rfl (hb hby d1_1) (by decide) (W := 0) (by show 2 * 0 + _ ≤ _; exact Nat.le_of_eq rfl) (by decide)
  have pre123 : ∀ t, Steps p.tables e below (T122.setTop (mkF m 4 #[.val (.ref a0), .val (.int p1), .val (.int p2), .val (.ref a3)] [])) t → Steps p.tables e below (s₁.setTop (entryFrame m #[(.ref a0), (.int p1), (.int p2), (.ref a3)] 4)) t := fun t k => pre121 t (st122 t k)
  have pre124 : ∀ t, Steps p.tables e below (T122.setTop (mkF m 15 #[.val (.ref a0), .val (.int p1), .val (.int p2), .val (.ref a3)] [(.ref a3)])) t → Steps p.tables e below (s₁.setTop (entryFrame m #[(.ref a0), (.int p1), (.int p2), (.ref a3)] 4)) t := by
    intro t k
    refine pre123 t ?_
    show Steps p.tables e below (T122.setTop (mkF m 4 #[.val (.ref a0), .val (.int p1), .val (.int p2), .val (.ref a3)] [])) _
    refine XS.iloadN X122.here hx rfl (hb hby d1_4) rfl ?_
    show Steps p.tables e below (T122.setTop (mkF m 5 #[.val (.ref a0), .val (.int p1), .val (.int p2), .val (.ref a3)] [(.int p1)])) _
    refine XS.iconst X122.here hx rfl (hb hby d1_5) ?_
    show Steps p.tables e below (T122.setTop (mkF m 6 #[.val (.ref a0), .val (.int p1), .val (.int p2), .val (.ref a3)] [(.int (1 : Int32)), (.int p1)])) _
    show Steps p.tables e below (T122.setTop (mkF m 6 #[.val (.ref a0), .val (.int p1), .val (.int p2), .val (.ref a3)] [(.int (1 : Int32)), (.int p1)])) _
    refine XS.icmpNo X122.here hx rfl (hb hby d1_6) rfl (flt hk6).1 ?_
    show Steps p.tables e below (T122.setTop (mkF m 9 #[.val (.ref a0), .val (.int p1), .val (.int p2), .val (.ref a3)] [])) _
    refine XS.iloadN X122.here hx rfl (hb hby d1_9) rfl ?_
    show Steps p.tables e below (T122.setTop (mkF m 10 #[.val (.ref a0), .val (.int p1), .val (.int p2), .val (.ref a3)] [(.int p2)])) _
    refine XS.iconst X122.here hx rfl (hb hby d1_10) ?_
    show Steps p.tables e below (T122.setTop (mkF m 11 #[.val (.ref a0), .val (.int p1), .val (.int p2), .val (.ref a3)] [(.int (1 : Int32)), (.int p2)])) _
    show Steps p.tables e below (T122.setTop (mkF m 11 #[.val (.ref a0), .val (.int p1), .val (.int p2), .val (.ref a3)] [(.int (1 : Int32)), (.int p2)])) _
    refine XS.icmpNo X122.here hx rfl (hb hby d1_11) rfl (flt hk11).1 ?_
    show Steps p.tables e below (T122.setTop (mkF m 14 #[.val (.ref a0), .val (.int p1), .val (.int p2), .val (.ref a3)] [])) _
    refine XS.aloadN X122.here hx rfl (hb hby d1_14) rfl rfl ?_
    show Steps p.tables e below (T122.setTop (mkF m 15 #[.val (.ref a0), .val (.int p1), .val (.int p2), .val (.ref a3)] [(.ref a3)])) _
    exact k
  obtain ⟨cl125, Ar125, q125, S125, M125, H125, G125⟩ := id V_a3
  have pre126 : ∀ t, Steps p.tables e below (T122.setTop (mkF m 31 #[.val (.ref a0), .val (.int p1), .val (.int p2), .val (.ref a3)] [(.int p1), (.ref a0)])) t → Steps p.tables e below (s₁.setTop (entryFrame m #[(.ref a0), (.int p1), (.int p2), (.ref a3)] 4)) t := by
    intro t k
    refine pre124 t ?_
    show Steps p.tables e below (T122.setTop (mkF m 15 #[.val (.ref a0), .val (.int p1), .val (.int p2), .val (.ref a3)] [(.ref a3)])) _
    refine X122.arraylength hx (by rw [e122]; exact Ar125.1) (State.isArrayOf_alike hZ.alike Ar125.2.1) (g := (mkF m 15 #[.val (.ref a0), .val (.int p1), .val (.int p2), .val (.ref a3)] [(.ref a3)])) rfl rfl (hb hby d1_15) _ ?_
    rw [len_of S125 M125]
    show Steps p.tables e below (T122.setTop (mkF m 16 #[.val (.ref a0), .val (.int p1), .val (.int p2), .val (.ref a3)] [(.int (3 : Int32))])) _
    show Steps p.tables e below (T122.setTop (mkF m 16 #[.val (.ref a0), .val (.int p1), .val (.int p2), .val (.ref a3)] [(.int (3 : Int32))])) _
    refine XS.ifYes X122.here hx rfl (pc0 := 16) (pc' := 29) rfl (hb hby d1_16) rfl ((if0 _ _).trans (feq (by decide : ¬ (3 : Int32) = (0 : Int32))).2) (by decide) (by decide) ?_
    show Steps p.tables e below (T122.setTop (mkF m 29 #[.val (.ref a0), .val (.int p1), .val (.int p2), .val (.ref a3)] [])) _
    refine XS.aloadN X122.here hx rfl (hb hby d1_29) rfl rfl ?_
    show Steps p.tables e below (T122.setTop (mkF m 30 #[.val (.ref a0), .val (.int p1), .val (.int p2), .val (.ref a3)] [(.ref a0)])) _
    refine XS.iloadN X122.here hx rfl (hb hby d1_30) rfl ?_
    show Steps p.tables e below (T122.setTop (mkF m 31 #[.val (.ref a0), .val (.int p1), .val (.int p2), .val (.ref a3)] [(.int p1), (.ref a0)])) _
    exact k
  obtain ⟨T127, h127, X127, e127, W127, st127⟩ := putF X122 hx hZ hown (host := "") (Or.inl (hw _ (List.mem_of_getElem? (i := 11) rfl))) Via.refl e122 F_number_a0 E_a0 (Or.inr ⟨(hw _ (List.mem_of_getElem? (i := 12) rfl)), rfl, hnm⟩) (hw _ (List.mem_of_getElem? (i := 3) rfl)) (ty := .int) (by decide) rfl rfl (g := (mkF m 31 #[.val (.ref a0), .val (.int p1), .val (.int p2), .val (.ref a3)] [(.int p1), (.ref a0)])) rfl rfl (hb hby d1_31)
  have Z127 : n0 ≤ h127.size := Nat.le_trans Z0 (Keep.of_wr W127).1
  have K127 : Keep h0 h127 [a0] := (Keep.refl h0 [a0]).wr W127 (Or.inl (List.mem_of_getElem? (i := 0) rfl))
  have N127 := Fr.snoc X127 N0 g_a0
  have Vf128 : Arv Z h127 a3 k_a3 .int (3 : Int32) [(.int x0), (.int x1), (.int x2)] (.int (0 : Int32)) := (V_a3).other W127 ne_a3_a0
  have Ef129 : Exa Z h127 a3 "[I" := (E_a3).wr W127
  have Ff130 : Fld Z h127 a0 "com/example/timely_exodus/timelyexodus/plan/Vehicle" "departurePeriod" "I" (.int w_departurePeriod_a0) := (F_departurePeriod_a0).other W127 (Or.inr (slot_ne (Or.inr (hw _ (List.mem_of_getElem? (i := 14) rfl))) (Or.inr (hw _ (List.mem_of_getElem? (i := 12) rfl))) (by decide) (t := .int) (t' := .int) (by decide) (by decide)))
  have Ff131 : Fld Z h127 a0 "com/example/timely_exodus/timelyexodus/plan/Vehicle" "route" "[I" w_route_a0 := (F_route_a0).other W127 (Or.inr (slot_ne (Or.inr (hw _ (List.mem_of_getElem? (i := 25) rfl))) (Or.inr (hw _ (List.mem_of_getElem? (i := 12) rfl))) (by decide) (t := (.array .int)) (t' := .int) (by decide) (by decide)))
  have Ef132 : Exa Z h127 a0 "com/example/timely_exodus/timelyexodus/plan/Vehicle" := (E_a0).wr W127
  have Fw127 : Fld Z h127 a0 "com/example/timely_exodus/timelyexodus/plan/Vehicle" "number" "I" (.int p1) := (F_number_a0).same W127
  have pre133 : ∀ t, Steps p.tables e below (T127.setTop (mkF m 34 #[.val (.ref a0), .val (.int p1), .val (.int p2), .val (.ref a3)] [])) t → Steps p.tables e below (s₁.setTop (entryFrame m #[(.ref a0), (.int p1), (.int p2), (.ref a3)] 4)) t := fun t k => pre126 t (st127 t k)
  have pre134 : ∀ t, Steps p.tables e below (T127.setTop (mkF m 36 #[.val (.ref a0), .val (.int p1), .val (.int p2), .val (.ref a3)] [(.int p2), (.ref a0)])) t → Steps p.tables e below (s₁.setTop (entryFrame m #[(.ref a0), (.int p1), (.int p2), (.ref a3)] 4)) t := by
    intro t k
    refine pre133 t ?_
    show Steps p.tables e below (T127.setTop (mkF m 34 #[.val (.ref a0), .val (.int p1), .val (.int p2), .val (.ref a3)] [])) _
    refine XS.aloadN X127.here hx rfl (hb hby d1_34) rfl rfl ?_
    show Steps p.tables e below (T127.setTop (mkF m 35 #[.val (.ref a0), .val (.int p1), .val (.int p2), .val (.ref a3)] [(.ref a0)])) _
    refine XS.iloadN X127.here hx rfl (hb hby d1_35) rfl ?_
    show Steps p.tables e below (T127.setTop (mkF m 36 #[.val (.ref a0), .val (.int p1), .val (.int p2), .val (.ref a3)] [(.int p2), (.ref a0)])) _
    exact k
  obtain ⟨T135, h135, X135, e135, W135, st135⟩ := putF X127 hx hZ hown (host := "") (Or.inl (hw _ (List.mem_of_getElem? (i := 13) rfl))) Via.refl e127 Ff130 Ef132 (Or.inr ⟨(hw _ (List.mem_of_getElem? (i := 14) rfl)), rfl, hnm⟩) (hw _ (List.mem_of_getElem? (i := 3) rfl)) (ty := .int) (by decide) rfl rfl (g := (mkF m 36 #[.val (.ref a0), .val (.int p1), .val (.int p2), .val (.ref a3)] [(.int p2), (.ref a0)])) rfl rfl (hb hby d1_36)
  have Z135 : n0 ≤ h135.size := Nat.le_trans Z127 (Keep.of_wr W135).1
  have K135 : Keep h0 h135 [a0] := K127.wr W135 (Or.inl (List.mem_of_getElem? (i := 0) rfl))
  have N135 := Fr.snoc X135 N127 g_a0
  have Vf136 : Arv Z h135 a3 k_a3 .int (3 : Int32) [(.int x0), (.int x1), (.int x2)] (.int (0 : Int32)) := (Vf128).other W135 ne_a3_a0
  have Ef137 : Exa Z h135 a3 "[I" := (Ef129).wr W135
  have Ff138 : Fld Z h135 a0 "com/example/timely_exodus/timelyexodus/plan/Vehicle" "route" "[I" w_route_a0 := (Ff131).other W135 (Or.inr (slot_ne (Or.inr (hw _ (List.mem_of_getElem? (i := 25) rfl))) (Or.inr (hw _ (List.mem_of_getElem? (i := 14) rfl))) (by decide) (t := (.array .int)) (t' := .int) (by decide) (by decide)))
  have Ef139 : Exa Z h135 a0 "com/example/timely_exodus/timelyexodus/plan/Vehicle" := (Ef132).wr W135
  have Ff140 : Fld Z h135 a0 "com/example/timely_exodus/timelyexodus/plan/Vehicle" "number" "I" (.int p1) := (Fw127).other W135 (Or.inr (slot_ne (Or.inr (hw _ (List.mem_of_getElem? (i := 12) rfl))) (Or.inr (hw _ (List.mem_of_getElem? (i := 14) rfl))) (by decide) (t := .int) (t' := .int) (by decide) (by decide)))
  have Fw135 : Fld Z h135 a0 "com/example/timely_exodus/timelyexodus/plan/Vehicle" "departurePeriod" "I" (.int p2) := (Ff130).same W135
  have pre141 : ∀ t, Steps p.tables e below (T135.setTop (mkF m 39 #[.val (.ref a0), .val (.int p1), .val (.int p2), .val (.ref a3)] [])) t → Steps p.tables e below (s₁.setTop (entryFrame m #[(.ref a0), (.int p1), (.int p2), (.ref a3)] 4)) t := fun t k => pre134 t (st135 t k)
  have pre142 : ∀ t, Steps p.tables e below (T135.setTop (mkF m 41 #[.val (.ref a0), .val (.int p1), .val (.int p2), .val (.ref a3)] [(.ref a3), (.ref a0)])) t → Steps p.tables e below (s₁.setTop (entryFrame m #[(.ref a0), (.int p1), (.int p2), (.ref a3)] 4)) t := by
    intro t k
    refine pre141 t ?_
    show Steps p.tables e below (T135.setTop (mkF m 39 #[.val (.ref a0), .val (.int p1), .val (.int p2), .val (.ref a3)] [])) _
    refine XS.aloadN X135.here hx rfl (hb hby d1_39) rfl rfl ?_
    show Steps p.tables e below (T135.setTop (mkF m 40 #[.val (.ref a0), .val (.int p1), .val (.int p2), .val (.ref a3)] [(.ref a0)])) _
    refine XS.aloadN X135.here hx rfl (hb hby d1_40) rfl rfl ?_
    show Steps p.tables e below (T135.setTop (mkF m 41 #[.val (.ref a0), .val (.int p1), .val (.int p2), .val (.ref a3)] [(.ref a3), (.ref a0)])) _
    exact k
  obtain ⟨T143, h143, X143, e143, E143, A143, C143, st143⟩ := cloneH X135 hx hZ hown (hw _ (List.mem_of_getElem? (i := 15) rfl)) (hw _ (List.mem_of_getElem? (i := 16) rfl)) (hw _ (List.mem_of_getElem? (i := 20) rfl)) (hw _ (List.mem_of_getElem? (i := 18) rfl)) (hw _ (List.mem_of_getElem? (i := 19) rfl)) (hw _ (List.mem_of_getElem? (i := 21) rfl)) e135 (Arv.arh Vf136) Ef137 (g := (mkF m 41 #[.val (.ref a0), .val (.int p1), .val (.int p2), .val (.ref a3)] [(.ref a3), (.ref a0)])) rfl (by rw [hml]; rfl) rfl (hb hby d1_41) (by decide) (W := 1) (cap := 3) (by show 2 * 0 + _ ≤ _; exact Nat.le_of_eq rfl) (by decide) (by decide) (by decide) (by decide)
  obtain ⟨b143, g143⟩ : ∃ z, z = h135.size := ⟨_, rfl⟩
  rw [← g143] at A143 C143 st143
  have ne_a3_b143 : a3 ≠ b143 := Nat.ne_of_lt (Nat.lt_of_lt_of_le (Vf136).lt (Nat.le_of_eq g143.symm))
  have ne_a0_b143 : a0 ≠ b143 := Nat.ne_of_lt (Nat.lt_of_lt_of_le (Ff138).lt (Nat.le_of_eq g143.symm))
  have g_b143 : n0 ≤ b143 := Nat.le_trans Z135 (Nat.le_of_eq g143.symm)
  have sz_b143 : h0.size ≤ b143 := Nat.le_trans K135.1 (Nat.le_of_eq g143.symm)
  have Z143 : n0 ≤ h143.size := Nat.le_trans Z135 E143.1
  have K143 : Keep h0 h143 [a0] := K135.ext E143
  have Vf144 : Arv Z h143 a3 k_a3 .int (3 : Int32) [(.int x0), (.int x1), (.int x2)] (.int (0 : Int32)) := (Vf136).ext E143
  have Ef145 : Exa Z h143 a3 "[I" := (Ef137).ext E143
  have Ff146 : Fld Z h143 a0 "com/example/timely_exodus/timelyexodus/plan/Vehicle" "route" "[I" w_route_a0 := (Ff138).ext E143
  have Ef147 : Exa Z h143 a0 "com/example/timely_exodus/timelyexodus/plan/Vehicle" := (Ef139).ext E143
  have Ff148 : Fld Z h143 a0 "com/example/timely_exodus/timelyexodus/plan/Vehicle" "number" "I" (.int p1) := (Ff140).ext E143
  have Ff149 : Fld Z h143 a0 "com/example/timely_exodus/timelyexodus/plan/Vehicle" "departurePeriod" "I" (.int p2) := (Fw135).ext E143
  have V_b143 : Arv Z h143 b143 k_a3 .int (3 : Int32) [(.int x0), (.int x1), (.int x2)] (.int (0 : Int32)) := A143
  have pre150 : ∀ t, Steps p.tables e below (T143.setTop (mkF m 44 #[.val (.ref a0), .val (.int p1), .val (.int p2), .val (.ref a3)] [(.ref b143), (.ref a0)])) t → Steps p.tables e below (s₁.setTop (entryFrame m #[(.ref a0), (.int p1), (.int p2), (.ref a3)] 4)) t := fun t k => pre142 t (st143 t k)
  obtain ⟨T151, X151, e151, st151⟩ := castY X143 hx hZ hown (hw _ (List.mem_of_getElem? (i := 22) rfl)) e143 (Ins.self C143) (g := (mkF m 44 #[.val (.ref a0), .val (.int p1), .val (.int p2), .val (.ref a3)] [(.ref b143), (.ref a0)])) rfl rfl (hb hby d1_44)
  have pre152 : ∀ t, Steps p.tables e below (T151.setTop (mkF m 47 #[.val (.ref a0), .val (.int p1), .val (.int p2), .val (.ref a3)] [(.ref b143), (.ref a0)])) t → Steps p.tables e below (s₁.setTop (entryFrame m #[(.ref a0), (.int p1), (.int p2), (.ref a3)] 4)) t := fun t k => pre150 t (st151 t k)
  obtain ⟨T153, h153, X153, e153, W153, st153⟩ := putF X151 hx hZ hown (host := "") (Or.inl (hw _ (List.mem_of_getElem? (i := 24) rfl))) Via.refl e151 Ff146 Ef147 (Or.inr ⟨(hw _ (List.mem_of_getElem? (i := 25) rfl)), rfl, hnm⟩) (hw _ (List.mem_of_getElem? (i := 3) rfl)) (ty := (.array .int)) (by decide) rfl rfl (g := (mkF m 47 #[.val (.ref a0), .val (.int p1), .val (.int p2), .val (.ref a3)] [(.ref b143), (.ref a0)])) rfl rfl (hb hby d1_47)
  have Z153 : n0 ≤ h153.size := Nat.le_trans Z143 (Keep.of_wr W153).1
  have K153 : Keep h0 h153 [a0] := K143.wr W153 (Or.inl (List.mem_of_getElem? (i := 0) rfl))
  have N153 := Fr.snoc X153 N135 g_a0
  have Vf154 : Arv Z h153 a3 k_a3 .int (3 : Int32) [(.int x0), (.int x1), (.int x2)] (.int (0 : Int32)) := (Vf144).other W153 ne_a3_a0
  have Ef155 : Exa Z h153 a3 "[I" := (Ef145).wr W153
  have Ef156 : Exa Z h153 a0 "com/example/timely_exodus/timelyexodus/plan/Vehicle" := (Ef147).wr W153
  have Ff157 : Fld Z h153 a0 "com/example/timely_exodus/timelyexodus/plan/Vehicle" "number" "I" (.int p1) := (Ff148).other W153 (Or.inr (slot_ne (Or.inr (hw _ (List.mem_of_getElem? (i := 12) rfl))) (Or.inr (hw _ (List.mem_of_getElem? (i := 25) rfl))) (by decide) (t := .int) (t' := (.array .int)) (by decide) (by decide)))
  have Ff158 : Fld Z h153 a0 "com/example/timely_exodus/timelyexodus/plan/Vehicle" "departurePeriod" "I" (.int p2) := (Ff149).other W153 (Or.inr (slot_ne (Or.inr (hw _ (List.mem_of_getElem? (i := 14) rfl))) (Or.inr (hw _ (List.mem_of_getElem? (i := 25) rfl))) (by decide) (t := .int) (t' := (.array .int)) (by decide) (by decide)))
  have Vf159 : Arv Z h153 b143 k_a3 .int (3 : Int32) [(.int x0), (.int x1), (.int x2)] (.int (0 : Int32)) := (V_b143).other W153 ne_a0_b143.symm
  have Ef160 : Exa Z h153 b143 "[I" := (C143).wr W153
  have Fw153 : Fld Z h153 a0 "com/example/timely_exodus/timelyexodus/plan/Vehicle" "route" "[I" (.ref b143) := (Ff146).same W153
  have pre161 : ∀ t, Steps p.tables e below (T153.setTop (mkF m 50 #[.val (.ref a0), .val (.int p1), .val (.int p2), .val (.ref a3)] [])) t → Steps p.tables e below (s₁.setTop (entryFrame m #[(.ref a0), (.int p1), (.int p2), (.ref a3)] 4)) t := fun t k => pre152 t (st153 t k)
  obtain ⟨fs, hr, hrun, hended, hW, hsame⟩ := X153.leave (v := none) (fun _ => rfl)
  refine ⟨_, _, pre161 _ ?_, hrun, hended, _, _, rfl, ?_, ⟨_, rfl⟩, hW, hsame.mono (by decide) (by decide)⟩
  · show Steps p.tables e below (T153.setTop (mkF m 50 #[.val (.ref a0), .val (.int p1), .val (.int p2), .val (.ref a3)] [])) _
    exact X153.returnOut hx Bd.returns (hb hby d1_50) hr
  · show Q1_n3 Z a0 p1 p2 a3 k_a3 x0 x1 x2 w_departurePeriod_a0 w_route_a0 w_number_a0 h0 n0 _ T153.heap _
    rw [e153]
    exact ⟨b143, k_a3, rfl, N153, K153, Ef156, Ff157, Ff158, Fw153, sz_b143, Vf159, Ef160⟩
def Q3_n3 (Z : State) (a0 : Addr) (r1 : Addr) (k_r1 : ClassId) (x0 : Int32) (x1 : Int32) (x2 : Int32) (h0 : Heap) (n0 : Nat) (v : Option Value) (h : Heap) (L : List Loc) : Prop := v = some (.int x2) ∧ Fr n0 L ∧ h = h0
set_option maxRecDepth 65536 in
set_option maxHeartbeats 40000000 in
theorem rm3_n3 (l : Launch) (Z : State) (ar0 : Array Value) (hw : ∀ d ∈ tables_1, d.before ar0 Z = true) (ws : List Jvm.Cond) (a0 : Addr) (r1 : Addr) (k_r1 : ClassId) (x0 : Int32) (x1 : Int32) (x2 : Int32) (h0 : Heap) (n0 : Nat) (Z0 : n0 ≤ h0.size) (F_route_a0 : Fld Z h0 a0 "com/example/timely_exodus/timelyexodus/plan/Vehicle" "route" "[I" (.ref r1)) (V_r1 : Arv Z h0 r1 k_r1 .int (3 : Int32) [(.int x0), (.int x1), (.int x2)] (.int (0 : Int32))) :
    MetFree l (⟨"com/example/timely_exodus/timelyexodus/plan/Vehicle", "getExitCell", "()I"⟩ : MethodName) (head1 (Jvm.Cond.code (⟨"com/example/timely_exodus/timelyexodus/plan/Vehicle", "getExitCell", "()I"⟩ : MethodName) prog_38_method_5_code 1 (some .int) :: ws) ({ frames := 0, cells := 0, slots := 0, locals := 0 } : Room)) (fun a U => a = #[(.ref a0)] ∧ Z.Warmed39 U.vm ∧ U.heap = h0) (fun _ _ _ _ _ => True) (fun _ U o U' => ∃ v L, o = .returned v ∧ Q3_n3 Z a0 r1 k_r1 x0 x1 x2 h0 n0 v U'.heap L ∧ FrameEnd U o U' L ({ frames := 0, cells := 0, slots := 0, locals := 0 } : Room).cells ({ frames := 0, cells := 0, slots := 0, locals := 0 } : Room).slots) := by
  refine MetFree.of_bodySF (plainFor_of_name pn_0) hisR ?_
  intro p e s m args below meth c s₁ Bd hml0 hP hK
  obtain ⟨rfl, hZ, hh⟩ := hP
  have hx := Bd.exec
  have hby := Bd.bytes
  have hml : c.maxLocals = 1 := hml0
  have hown : s.vm.findClass "com/example/timely_exodus/timelyexodus/plan/Vehicle" = some m.cls := findClass_of_methodNamed Bd.named
  have hnm := (name_of_methodNamed Bd.named Bd.method).1
  have X0 : Stand p l e ({ frames := 0, cells := 0, slots := 0, locals := 0 } : Room) s m #[(.ref a0)] below meth c s₁ [] 0 0 := Stand.of_body Bd
  have e0 : s₁.heap = h0 := by rw [← hh, Bd.state]; rfl
  have N0 := Fr.nil n0
  have pre0 : ∀ t, Steps p.tables e below (s₁.setTop (mkF m 0 #[.val (.ref a0)] [])) t → Steps p.tables e below (s₁.setTop (entryFrame m #[(.ref a0)] 1)) t := fun t k => castTop (ef_3 m a0) k
  have pre162 : ∀ t, Steps p.tables e below (s₁.setTop (mkF m 1 #[.val (.ref a0)] [(.ref a0)])) t → Steps p.tables e below (s₁.setTop (entryFrame m #[(.ref a0)] 1)) t := by
    intro t k
    refine pre0 t ?_
    show Steps p.tables e below (s₁.setTop (mkF m 0 #[.val (.ref a0)] [])) _
    refine XS.aloadN X0.here hx rfl (hb hby d3_0) rfl rfl ?_
    show Steps p.tables e below (s₁.setTop (mkF m 1 #[.val (.ref a0)] [(.ref a0)])) _
    exact k
  obtain ⟨T163, X163, e163, st163⟩ := getF X0 hx hZ hown (host := "") (Or.inl (hw _ (List.mem_of_getElem? (i := 24) rfl))) Via.refl e0 F_route_a0 (g := (mkF m 1 #[.val (.ref a0)] [(.ref a0)])) rfl rfl (hb hby d3_1)
  have pre164 : ∀ t, Steps p.tables e below (T163.setTop (mkF m 4 #[.val (.ref a0)] [(.ref r1)])) t → Steps p.tables e below (s₁.setTop (entryFrame m #[(.ref a0)] 1)) t := fun t k => pre162 t (st163 t k)
  have pre165 : ∀ t, Steps p.tables e below (T163.setTop (mkF m 5 #[.val (.ref a0)] [(.ref a0), (.ref r1)])) t → Steps p.tables e below (s₁.setTop (entryFrame m #[(.ref a0)] 1)) t := by
    intro t k
    refine pre164 t ?_
    show Steps p.tables e below (T163.setTop (mkF m 4 #[.val (.ref a0)] [(.ref r1)])) _
    refine XS.aloadN X163.here hx rfl (hb hby d3_4) rfl rfl ?_
    show Steps p.tables e below (T163.setTop (mkF m 5 #[.val (.ref a0)] [(.ref a0), (.ref r1)])) _
    exact k
  obtain ⟨T166, X166, e166, st166⟩ := getF X163 hx hZ hown (host := "") (Or.inl (hw _ (List.mem_of_getElem? (i := 24) rfl))) Via.refl e163 F_route_a0 (g := (mkF m 5 #[.val (.ref a0)] [(.ref a0), (.ref r1)])) rfl rfl (hb hby d3_5)
  have pre167 : ∀ t, Steps p.tables e below (T166.setTop (mkF m 8 #[.val (.ref a0)] [(.ref r1), (.ref r1)])) t → Steps p.tables e below (s₁.setTop (entryFrame m #[(.ref a0)] 1)) t := fun t k => pre165 t (st166 t k)
  obtain ⟨cl168, Ar168, q168, S168, M168, H168, G168⟩ := id V_r1
  have pre169 : ∀ t, Steps p.tables e below (T166.setTop (mkF m 11 #[.val (.ref a0)] [(.int (2 : Int32)), (.ref r1)])) t → Steps p.tables e below (s₁.setTop (entryFrame m #[(.ref a0)] 1)) t := by
    intro t k
    refine pre167 t ?_
    show Steps p.tables e below (T166.setTop (mkF m 8 #[.val (.ref a0)] [(.ref r1), (.ref r1)])) _
    refine X166.arraylength hx (by rw [e166]; exact Ar168.1) (State.isArrayOf_alike hZ.alike Ar168.2.1) (g := (mkF m 8 #[.val (.ref a0)] [(.ref r1), (.ref r1)])) rfl rfl (hb hby d3_8) _ ?_
    rw [len_of S168 M168]
    show Steps p.tables e below (T166.setTop (mkF m 9 #[.val (.ref a0)] [(.int (3 : Int32)), (.ref r1)])) _
    refine XS.iconst X166.here hx rfl (hb hby d3_9) ?_
    show Steps p.tables e below (T166.setTop (mkF m 10 #[.val (.ref a0)] [(.int (1 : Int32)), (.int (3 : Int32)), (.ref r1)])) _
    refine XS.isub X166.here hx rfl (hb hby d3_10) rfl ?_
    show Steps p.tables e below (T166.setTop (mkF m 11 #[.val (.ref a0)] [(.int (2 : Int32)), (.ref r1)])) _
    exact k
  obtain ⟨cl170, Ar170, q170, S170, M170, H170, G170⟩ := id V_r1
  have hin170 : ¬ ((2 : Int32) < 0 ∨ cl170.slots.size ≤ ((2 : Int32)).toNatClampNeg) := inb_of S170 ⟨by decide, by decide⟩
  have hat170 : cl170.slots[((2 : Int32)).toNatClampNeg]? = some (.int x2) := H170.at hin170 rfl
  obtain ⟨fs, hr, hrun, hended, hW, hsame⟩ := X166.leave (v := some (.int x2)) (fun h => by rw [Bd.returns] at h; cases h)
  refine ⟨_, _, pre169 _ ?_, hrun, hended, _, _, rfl, ?_, ⟨_, rfl⟩, hW, hsame.mono (by decide) (by decide)⟩
  · show Steps p.tables e below (T166.setTop (mkF m 11 #[.val (.ref a0)] [(.int (2 : Int32)), (.ref r1)])) _
    refine X166.iaload hx (j := (2 : Int32)) (v := (.int x2)) (by rw [e166]; exact Ar170.1) (State.isArrayOf_alike hZ.alike Ar170.2.1) Ar170.2.2 hin170 hat170 (g := (mkF m 11 #[.val (.ref a0)] [(.int (2 : Int32)), (.ref r1)])) rfl rfl (hb hby d3_11) _ ?_
    show Steps p.tables e below (T166.setTop (mkF m 12 #[.val (.ref a0)] [(.int x2)])) _
    exact retOut X166 hx Bd.returns rfl (Or.inl ⟨rfl, Or.inl rfl, _, rfl⟩) (hb hby d3_12) hr
  · show Q3_n3 Z a0 r1 k_r1 x0 x1 x2 h0 n0 _ T166.heap _
    rw [e166]
    exact ⟨rfl, N0, rfl⟩
def Q4_n3 (Z : State) (a0 : Addr) (r1 : Addr) (k_r1 : ClassId) (x0 : Int32) (x1 : Int32) (x2 : Int32) (h0 : Heap) (n0 : Nat) (v : Option Value) (h : Heap) (L : List Loc) : Prop := ∃ (b : Addr) (k_b : ClassId), v = some (.ref b) ∧ Fr n0 L ∧ Keep h0 h [] ∧ h0.size ≤ b ∧ Arv Z h b k_b .int (3 : Int32) [(.int x0), (.int x1), (.int x2)] (.int (0 : Int32)) ∧ Exa Z h b "[I"
set_option maxRecDepth 65536 in
set_option maxHeartbeats 40000000 in
theorem rm4_n3 (l : Launch) (Z : State) (ar0 : Array Value) (hw : ∀ d ∈ tables_1, d.before ar0 Z = true) (ws : List Jvm.Cond) (a0 : Addr) (r1 : Addr) (k_r1 : ClassId) (x0 : Int32) (x1 : Int32) (x2 : Int32) (h0 : Heap) (n0 : Nat) (Z0 : n0 ≤ h0.size) (F_route_a0 : Fld Z h0 a0 "com/example/timely_exodus/timelyexodus/plan/Vehicle" "route" "[I" (.ref r1)) (V_r1 : Arv Z h0 r1 k_r1 .int (3 : Int32) [(.int x0), (.int x1), (.int x2)] (.int (0 : Int32))) (E_r1 : Exa Z h0 r1 "[I") :
    MetFree l (⟨"com/example/timely_exodus/timelyexodus/plan/Vehicle", "getRoute", "()[I"⟩ : MethodName) (head1 (Jvm.Cond.code (⟨"com/example/timely_exodus/timelyexodus/plan/Vehicle", "getRoute", "()[I"⟩ : MethodName) prog_38_method_6_code 1 (some (.array .int)) :: ws) ({ frames := 1, cells := 1, slots := 3, locals := 14 } : Room)) (fun a U => a = #[(.ref a0)] ∧ Z.Warmed39 U.vm ∧ U.heap = h0) (fun _ _ _ _ _ => True) (fun _ U o U' => ∃ v L, o = .returned v ∧ Q4_n3 Z a0 r1 k_r1 x0 x1 x2 h0 n0 v U'.heap L ∧ FrameEnd U o U' L ({ frames := 1, cells := 1, slots := 3, locals := 14 } : Room).cells ({ frames := 1, cells := 1, slots := 3, locals := 14 } : Room).slots) := by
  refine MetFree.of_bodySF (plainFor_of_name pn_0) hisR ?_
  intro p e s m args below meth c s₁ Bd hml0 hP hK
  obtain ⟨rfl, hZ, hh⟩ := hP
  have hx := Bd.exec
  have hby := Bd.bytes
  have hml : c.maxLocals = 1 := hml0
  have hown : s.vm.findClass "com/example/timely_exodus/timelyexodus/plan/Vehicle" = some m.cls := findClass_of_methodNamed Bd.named
  have hnm := (name_of_methodNamed Bd.named Bd.method).1
  have X0 : Stand p l e ({ frames := 1, cells := 1, slots := 3, locals := 14 } : Room) s m #[(.ref a0)] below meth c s₁ [] 0 0 := Stand.of_body Bd
  have e0 : s₁.heap = h0 := by rw [← hh, Bd.state]; rfl
  have N0 := Fr.nil n0
  have pre0 : ∀ t, Steps p.tables e below (s₁.setTop (mkF m 0 #[.val (.ref a0)] [])) t → Steps p.tables e below (s₁.setTop (entryFrame m #[(.ref a0)] 1)) t := fun t k => castTop (ef_4 m a0) k
  have pre171 : ∀ t, Steps p.tables e below (s₁.setTop (mkF m 1 #[.val (.ref a0)] [(.ref a0)])) t → Steps p.tables e below (s₁.setTop (entryFrame m #[(.ref a0)] 1)) t := by
    intro t k
    refine pre0 t ?_
    show Steps p.tables e below (s₁.setTop (mkF m 0 #[.val (.ref a0)] [])) _
    refine XS.aloadN X0.here hx rfl (hb hby d4_0) rfl rfl ?_
    show Steps p.tables e below (s₁.setTop (mkF m 1 #[.val (.ref a0)] [(.ref a0)])) _
    exact k
  obtain ⟨T172, X172, e172, st172⟩ := getF X0 hx hZ hown (host := "") (Or.inl (hw _ (List.mem_of_getElem? (i := 24) rfl))) Via.refl e0 F_route_a0 (g := (mkF m 1 #[.val (.ref a0)] [(.ref a0)])) rfl rfl (hb hby d4_1)
  have pre173 : ∀ t, Steps p.tables e below (T172.setTop (mkF m 4 #[.val (.ref a0)] [(.ref r1)])) t → Steps p.tables e below (s₁.setTop (entryFrame m #[(.ref a0)] 1)) t := fun t k => pre171 t (st172 t k)
  obtain ⟨T174, h174, X174, e174, E174, A174, C174, st174⟩ := cloneH X172 hx hZ hown (hw _ (List.mem_of_getElem? (i := 15) rfl)) (hw _ (List.mem_of_getElem? (i := 16) rfl)) (hw _ (List.mem_of_getElem? (i := 20) rfl)) (hw _ (List.mem_of_getElem? (i := 18) rfl)) (hw _ (List.mem_of_getElem? (i := 19) rfl)) (hw _ (List.mem_of_getElem? (i := 21) rfl)) e172 (Arv.arh V_r1) E_r1 (g := (mkF m 4 #[.val (.ref a0)] [(.ref r1)])) rfl (by rw [hml]; rfl) rfl (hb hby d4_4) (by decide) (W := 0) (cap := 3) (by show 2 * 0 + _ ≤ _; exact Nat.le_of_eq rfl) (by decide) (by decide) (by decide) (by decide)
  obtain ⟨b174, g174⟩ : ∃ z, z = h0.size := ⟨_, rfl⟩
  rw [← g174] at A174 C174 st174
  have ne_a0_b174 : a0 ≠ b174 := Nat.ne_of_lt (Nat.lt_of_lt_of_le (F_route_a0).lt (Nat.le_of_eq g174.symm))
  have ne_r1_b174 : r1 ≠ b174 := Nat.ne_of_lt (Nat.lt_of_lt_of_le (V_r1).lt (Nat.le_of_eq g174.symm))
  have g_b174 : n0 ≤ b174 := Nat.le_trans Z0 (Nat.le_of_eq g174.symm)
  have sz_b174 : h0.size ≤ b174 := Nat.le_trans (Keep.refl h0 []).1 (Nat.le_of_eq g174.symm)
  have Z174 : n0 ≤ h174.size := Nat.le_trans Z0 E174.1
  have K174 : Keep h0 h174 [] := (Keep.refl h0 []).ext E174
  have Ff175 : Fld Z h174 a0 "com/example/timely_exodus/timelyexodus/plan/Vehicle" "route" "[I" (.ref r1) := (F_route_a0).ext E174
  have Vf176 : Arv Z h174 r1 k_r1 .int (3 : Int32) [(.int x0), (.int x1), (.int x2)] (.int (0 : Int32)) := (V_r1).ext E174
  have Ef177 : Exa Z h174 r1 "[I" := (E_r1).ext E174
  have V_b174 : Arv Z h174 b174 k_r1 .int (3 : Int32) [(.int x0), (.int x1), (.int x2)] (.int (0 : Int32)) := A174
  have pre178 : ∀ t, Steps p.tables e below (T174.setTop (mkF m 7 #[.val (.ref a0)] [(.ref b174)])) t → Steps p.tables e below (s₁.setTop (entryFrame m #[(.ref a0)] 1)) t := fun t k => pre173 t (st174 t k)
  obtain ⟨T179, X179, e179, st179⟩ := castY X174 hx hZ hown (hw _ (List.mem_of_getElem? (i := 22) rfl)) e174 (Ins.self C174) (g := (mkF m 7 #[.val (.ref a0)] [(.ref b174)])) rfl rfl (hb hby d4_7)
  have pre180 : ∀ t, Steps p.tables e below (T179.setTop (mkF m 10 #[.val (.ref a0)] [(.ref b174)])) t → Steps p.tables e below (s₁.setTop (entryFrame m #[(.ref a0)] 1)) t := fun t k => pre178 t (st179 t k)
  obtain ⟨fs, hr, hrun, hended, hW, hsame⟩ := X179.leave (v := some (.ref b174)) (fun h => by rw [Bd.returns] at h; cases h)
  refine ⟨_, _, pre180 _ ?_, hrun, hended, _, _, rfl, ?_, ⟨_, rfl⟩, hW, hsame.mono (by decide) (by decide)⟩
  · show Steps p.tables e below (T179.setTop (mkF m 10 #[.val (.ref a0)] [(.ref b174)])) _
    exact retOut X179 hx Bd.returns rfl (Or.inr (Or.inr (Or.inr (Or.inr ⟨rfl, rfl, rfl⟩)))) (hb hby d4_10) hr
  · show Q4_n3 Z a0 r1 k_r1 x0 x1 x2 h0 n0 _ T179.heap _
    rw [e179]
    exact ⟨b174, k_r1, rfl, N0, K174, sz_b174, V_b174, C174⟩
def Q1_n4 (Z : State) (a0 : Addr) (p1 : Int32) (p2 : Int32) (a3 : Addr) (k_a3 : ClassId) (x0 : Int32) (x1 : Int32) (x2 : Int32) (x3 : Int32) (w_departurePeriod_a0 : Int32) (w_route_a0 : Value) (w_number_a0 : Int32) (h0 : Heap) (n0 : Nat) (v : Option Value) (h : Heap) (L : List Loc) : Prop := ∃ (b : Addr) (k_b : ClassId), v = none ∧ Fr n0 L ∧ Keep h0 h [a0] ∧ Exa Z h a0 "com/example/timely_exodus/timelyexodus/plan/Vehicle" ∧ Fld Z h a0 "com/example/timely_exodus/timelyexodus/plan/Vehicle" "number" "I" (.int p1) ∧ Fld Z h a0 "com/example/timely_exodus/timelyexodus/plan/Vehicle" "departurePeriod" "I" (.int p2) ∧ Fld Z h a0 "com/example/timely_exodus/timelyexodus/plan/Vehicle" "route" "[I" (.ref b) ∧ h0.size ≤ b ∧ Arv Z h b k_b .int (4 : Int32) [(.int x0), (.int x1), (.int x2), (.int x3)] (.int (0 : Int32)) ∧ Exa Z h b "[I"
set_option maxRecDepth 65536 in
set_option maxHeartbeats 40000000 in
theorem rm1_n4 (l : Launch) (Z : State) (ar0 : Array Value) (hw : ∀ d ∈ tables_1, d.before ar0 Z = true) (ws : List Jvm.Cond) (a0 : Addr) (p1 : Int32) (p2 : Int32) (a3 : Addr) (k_a3 : ClassId) (x0 : Int32) (x1 : Int32) (x2 : Int32) (x3 : Int32) (w_departurePeriod_a0 : Int32) (w_route_a0 : Value) (w_number_a0 : Int32) (h0 : Heap) (n0 : Nat) (Z0 : n0 ≤ h0.size) (V_a3 : Arv Z h0 a3 k_a3 .int (4 : Int32) [(.int x0), (.int x1), (.int x2), (.int x3)] (.int (0 : Int32))) (E_a3 : Exa Z h0 a3 "[I") (F_departurePeriod_a0 : Fld Z h0 a0 "com/example/timely_exodus/timelyexodus/plan/Vehicle" "departurePeriod" "I" (.int w_departurePeriod_a0)) (F_route_a0 : Fld Z h0 a0 "com/example/timely_exodus/timelyexodus/plan/Vehicle" "route" "[I" w_route_a0) (hk6 : ¬ (p1 < (1 : Int32))) (hk11 : ¬ (p2 < (1 : Int32))) (E_a0 : Exa Z h0 a0 "com/example/timely_exodus/timelyexodus/plan/Vehicle") (F_number_a0 : Fld Z h0 a0 "com/example/timely_exodus/timelyexodus/plan/Vehicle" "number" "I" (.int w_number_a0)) (g_a0 : n0 ≤ a0) (ne_a3_a0 : a3 ≠ a0) :
    MetFree l (⟨"com/example/timely_exodus/timelyexodus/plan/Vehicle", "<init>", "(II[I)V"⟩ : MethodName) (head1 (Jvm.Cond.code (⟨"com/example/timely_exodus/timelyexodus/plan/Vehicle", "<init>", "(II[I)V"⟩ : MethodName) prog_38_method_1_code 4 none :: ws) ({ frames := 1, cells := 1, slots := 4, locals := 15 } : Room)) (fun a U => a = #[(.ref a0), (.int p1), (.int p2), (.ref a3)] ∧ Z.Warmed39 U.vm ∧ U.heap = h0) (fun _ _ _ _ _ => True) (fun _ U o U' => ∃ v L, o = .returned v ∧ Q1_n4 Z a0 p1 p2 a3 k_a3 x0 x1 x2 x3 w_departurePeriod_a0 w_route_a0 w_number_a0 h0 n0 v U'.heap L ∧ FrameEnd U o U' L ({ frames := 1, cells := 1, slots := 4, locals := 15 } : Room).cells ({ frames := 1, cells := 1, slots := 4, locals := 15 } : Room).slots) := by
  refine MetFree.of_bodySF (plainFor_of_name pn_0) hisR ?_
  intro p e s m args below meth c s₁ Bd hml0 hP hK
  obtain ⟨rfl, hZ, hh⟩ := hP
  have hx := Bd.exec
  have hby := Bd.bytes
  have hml : c.maxLocals = 4 := hml0
  have hown : s.vm.findClass "com/example/timely_exodus/timelyexodus/plan/Vehicle" = some m.cls := findClass_of_methodNamed Bd.named
  have hnm := (name_of_methodNamed Bd.named Bd.method).1
  have X0 : Stand p l e ({ frames := 1, cells := 1, slots := 4, locals := 15 } : Room) s m #[(.ref a0), (.int p1), (.int p2), (.ref a3)] below meth c s₁ [] 0 0 := Stand.of_body Bd
  have e0 : s₁.heap = h0 := by rw [← hh, Bd.state]; rfl
  have N0 := Fr.nil n0
  have pre0 : ∀ t, Steps p.tables e below (s₁.setTop (mkF m 0 #[.val (.ref a0), .val (.int p1), .val (.int p2), .val (.ref a3)] [])) t → Steps p.tables e below (s₁.setTop (entryFrame m #[(.ref a0), (.int p1), (.int p2), (.ref a3)] 4)) t := fun t k => castTop (ef_1 m a0 p1 p2 a3) k
  have pre181 : ∀ t, Steps p.tables e below (s₁.setTop (mkF m 1 #[.val (.ref a0), .val (.int p1), .val (.int p2), .val (.ref a3)] [(.ref a0)])) t → Steps p.tables e below (s₁.setTop (entryFrame m #[(.ref a0), (.int p1), (.int p2), (.ref a3)] 4)) t := by
    intro t k
    refine pre0 t ?_
    show Steps p.tables e below (s₁.setTop (mkF m 0 #[.val (.ref a0), .val (.int p1), .val (.int p2), .val (.ref a3)] [])) _
    refine XS.aloadN X0.here hx rfl (hb hby d1_0) rfl rfl ?_
    show Steps p.tables e below (s₁.setTop (mkF m 1 #[.val (.ref a0), .val (.int p1), .val (.int p2), .val (.ref a3)] [(.ref a0)])) _
    exact k
  obtain ⟨T182, X182, e182, st182⟩ := initO X0 hx hZ hown (hw _ (List.mem_of_getElem? (i := 8) rfl)) (hw _ (List.mem_of_getElem? (i := 9) rfl)) (hw _ (List.mem_of_getElem? (i := 10) rfl)) e0 (g := (mkF m 1 #[.val (.ref a0), .val (.int p1), .val (.int p2), .val (.ref a3)] [(.ref a0)])) rfl (by rw [hml]; rfl) rfl (hb hby d1_1) (by decide) (W := 0) (by show 2 * 0 + _ ≤ _; exact Nat.le_of_eq rfl) (by decide)
  have pre183 : ∀ t, Steps p.tables e below (T182.setTop (mkF m 4 #[.val (.ref a0), .val (.int p1), .val (.int p2), .val (.ref a3)] [])) t → Steps p.tables e below (s₁.setTop (entryFrame m #[(.ref a0), (.int p1), (.int p2), (.ref a3)] 4)) t := fun t k => pre181 t (st182 t k)
  have pre184 : ∀ t, Steps p.tables e below (T182.setTop (mkF m 15 #[.val (.ref a0), .val (.int p1), .val (.int p2), .val (.ref a3)] [(.ref a3)])) t → Steps p.tables e below (s₁.setTop (entryFrame m #[(.ref a0), (.int p1), (.int p2), (.ref a3)] 4)) t := by
    intro t k
    refine pre183 t ?_
    show Steps p.tables e below (T182.setTop (mkF m 4 #[.val (.ref a0), .val (.int p1), .val (.int p2), .val (.ref a3)] [])) _
    refine XS.iloadN X182.here hx rfl (hb hby d1_4) rfl ?_
    show Steps p.tables e below (T182.setTop (mkF m 5 #[.val (.ref a0), .val (.int p1), .val (.int p2), .val (.ref a3)] [(.int p1)])) _
    refine XS.iconst X182.here hx rfl (hb hby d1_5) ?_
    show Steps p.tables e below (T182.setTop (mkF m 6 #[.val (.ref a0), .val (.int p1), .val (.int p2), .val (.ref a3)] [(.int (1 : Int32)), (.int p1)])) _
    show Steps p.tables e below (T182.setTop (mkF m 6 #[.val (.ref a0), .val (.int p1), .val (.int p2), .val (.ref a3)] [(.int (1 : Int32)), (.int p1)])) _
    refine XS.icmpNo X182.here hx rfl (hb hby d1_6) rfl (flt hk6).1 ?_
    show Steps p.tables e below (T182.setTop (mkF m 9 #[.val (.ref a0), .val (.int p1), .val (.int p2), .val (.ref a3)] [])) _
    refine XS.iloadN X182.here hx rfl (hb hby d1_9) rfl ?_
    show Steps p.tables e below (T182.setTop (mkF m 10 #[.val (.ref a0), .val (.int p1), .val (.int p2), .val (.ref a3)] [(.int p2)])) _
    refine XS.iconst X182.here hx rfl (hb hby d1_10) ?_
    show Steps p.tables e below (T182.setTop (mkF m 11 #[.val (.ref a0), .val (.int p1), .val (.int p2), .val (.ref a3)] [(.int (1 : Int32)), (.int p2)])) _
    show Steps p.tables e below (T182.setTop (mkF m 11 #[.val (.ref a0), .val (.int p1), .val (.int p2), .val (.ref a3)] [(.int (1 : Int32)), (.int p2)])) _
    refine XS.icmpNo X182.here hx rfl (hb hby d1_11) rfl (flt hk11).1 ?_
    show Steps p.tables e below (T182.setTop (mkF m 14 #[.val (.ref a0), .val (.int p1), .val (.int p2), .val (.ref a3)] [])) _
    refine XS.aloadN X182.here hx rfl (hb hby d1_14) rfl rfl ?_
    show Steps p.tables e below (T182.setTop (mkF m 15 #[.val (.ref a0), .val (.int p1), .val (.int p2), .val (.ref a3)] [(.ref a3)])) _
    exact k
  obtain ⟨cl185, Ar185, q185, S185, M185, H185, G185⟩ := id V_a3
  have pre186 : ∀ t, Steps p.tables e below (T182.setTop (mkF m 31 #[.val (.ref a0), .val (.int p1), .val (.int p2), .val (.ref a3)] [(.int p1), (.ref a0)])) t → Steps p.tables e below (s₁.setTop (entryFrame m #[(.ref a0), (.int p1), (.int p2), (.ref a3)] 4)) t := by
    intro t k
    refine pre184 t ?_
    show Steps p.tables e below (T182.setTop (mkF m 15 #[.val (.ref a0), .val (.int p1), .val (.int p2), .val (.ref a3)] [(.ref a3)])) _
    refine X182.arraylength hx (by rw [e182]; exact Ar185.1) (State.isArrayOf_alike hZ.alike Ar185.2.1) (g := (mkF m 15 #[.val (.ref a0), .val (.int p1), .val (.int p2), .val (.ref a3)] [(.ref a3)])) rfl rfl (hb hby d1_15) _ ?_
    rw [len_of S185 M185]
    show Steps p.tables e below (T182.setTop (mkF m 16 #[.val (.ref a0), .val (.int p1), .val (.int p2), .val (.ref a3)] [(.int (4 : Int32))])) _
    show Steps p.tables e below (T182.setTop (mkF m 16 #[.val (.ref a0), .val (.int p1), .val (.int p2), .val (.ref a3)] [(.int (4 : Int32))])) _
    refine XS.ifYes X182.here hx rfl (pc0 := 16) (pc' := 29) rfl (hb hby d1_16) rfl ((if0 _ _).trans (feq (by decide : ¬ (4 : Int32) = (0 : Int32))).2) (by decide) (by decide) ?_
    show Steps p.tables e below (T182.setTop (mkF m 29 #[.val (.ref a0), .val (.int p1), .val (.int p2), .val (.ref a3)] [])) _
    refine XS.aloadN X182.here hx rfl (hb hby d1_29) rfl rfl ?_
    show Steps p.tables e below (T182.setTop (mkF m 30 #[.val (.ref a0), .val (.int p1), .val (.int p2), .val (.ref a3)] [(.ref a0)])) _
    refine XS.iloadN X182.here hx rfl (hb hby d1_30) rfl ?_
    show Steps p.tables e below (T182.setTop (mkF m 31 #[.val (.ref a0), .val (.int p1), .val (.int p2), .val (.ref a3)] [(.int p1), (.ref a0)])) _
    exact k
  obtain ⟨T187, h187, X187, e187, W187, st187⟩ := putF X182 hx hZ hown (host := "") (Or.inl (hw _ (List.mem_of_getElem? (i := 11) rfl))) Via.refl e182 F_number_a0 E_a0 (Or.inr ⟨(hw _ (List.mem_of_getElem? (i := 12) rfl)), rfl, hnm⟩) (hw _ (List.mem_of_getElem? (i := 3) rfl)) (ty := .int) (by decide) rfl rfl (g := (mkF m 31 #[.val (.ref a0), .val (.int p1), .val (.int p2), .val (.ref a3)] [(.int p1), (.ref a0)])) rfl rfl (hb hby d1_31)
  have Z187 : n0 ≤ h187.size := Nat.le_trans Z0 (Keep.of_wr W187).1
  have K187 : Keep h0 h187 [a0] := (Keep.refl h0 [a0]).wr W187 (Or.inl (List.mem_of_getElem? (i := 0) rfl))
  have N187 := Fr.snoc X187 N0 g_a0
  have Vf188 : Arv Z h187 a3 k_a3 .int (4 : Int32) [(.int x0), (.int x1), (.int x2), (.int x3)] (.int (0 : Int32)) := (V_a3).other W187 ne_a3_a0
  have Ef189 : Exa Z h187 a3 "[I" := (E_a3).wr W187
  have Ff190 : Fld Z h187 a0 "com/example/timely_exodus/timelyexodus/plan/Vehicle" "departurePeriod" "I" (.int w_departurePeriod_a0) := (F_departurePeriod_a0).other W187 (Or.inr (slot_ne (Or.inr (hw _ (List.mem_of_getElem? (i := 14) rfl))) (Or.inr (hw _ (List.mem_of_getElem? (i := 12) rfl))) (by decide) (t := .int) (t' := .int) (by decide) (by decide)))
  have Ff191 : Fld Z h187 a0 "com/example/timely_exodus/timelyexodus/plan/Vehicle" "route" "[I" w_route_a0 := (F_route_a0).other W187 (Or.inr (slot_ne (Or.inr (hw _ (List.mem_of_getElem? (i := 25) rfl))) (Or.inr (hw _ (List.mem_of_getElem? (i := 12) rfl))) (by decide) (t := (.array .int)) (t' := .int) (by decide) (by decide)))
  have Ef192 : Exa Z h187 a0 "com/example/timely_exodus/timelyexodus/plan/Vehicle" := (E_a0).wr W187
  have Fw187 : Fld Z h187 a0 "com/example/timely_exodus/timelyexodus/plan/Vehicle" "number" "I" (.int p1) := (F_number_a0).same W187
  have pre193 : ∀ t, Steps p.tables e below (T187.setTop (mkF m 34 #[.val (.ref a0), .val (.int p1), .val (.int p2), .val (.ref a3)] [])) t → Steps p.tables e below (s₁.setTop (entryFrame m #[(.ref a0), (.int p1), (.int p2), (.ref a3)] 4)) t := fun t k => pre186 t (st187 t k)
  have pre194 : ∀ t, Steps p.tables e below (T187.setTop (mkF m 36 #[.val (.ref a0), .val (.int p1), .val (.int p2), .val (.ref a3)] [(.int p2), (.ref a0)])) t → Steps p.tables e below (s₁.setTop (entryFrame m #[(.ref a0), (.int p1), (.int p2), (.ref a3)] 4)) t := by
    intro t k
    refine pre193 t ?_
    show Steps p.tables e below (T187.setTop (mkF m 34 #[.val (.ref a0), .val (.int p1), .val (.int p2), .val (.ref a3)] [])) _
    refine XS.aloadN X187.here hx rfl (hb hby d1_34) rfl rfl ?_
    show Steps p.tables e below (T187.setTop (mkF m 35 #[.val (.ref a0), .val (.int p1), .val (.int p2), .val (.ref a3)] [(.ref a0)])) _
    refine XS.iloadN X187.here hx rfl (hb hby d1_35) rfl ?_
    show Steps p.tables e below (T187.setTop (mkF m 36 #[.val (.ref a0), .val (.int p1), .val (.int p2), .val (.ref a3)] [(.int p2), (.ref a0)])) _
    exact k
  obtain ⟨T195, h195, X195, e195, W195, st195⟩ := putF X187 hx hZ hown (host := "") (Or.inl (hw _ (List.mem_of_getElem? (i := 13) rfl))) Via.refl e187 Ff190 Ef192 (Or.inr ⟨(hw _ (List.mem_of_getElem? (i := 14) rfl)), rfl, hnm⟩) (hw _ (List.mem_of_getElem? (i := 3) rfl)) (ty := .int) (by decide) rfl rfl (g := (mkF m 36 #[.val (.ref a0), .val (.int p1), .val (.int p2), .val (.ref a3)] [(.int p2), (.ref a0)])) rfl rfl (hb hby d1_36)
  have Z195 : n0 ≤ h195.size := Nat.le_trans Z187 (Keep.of_wr W195).1
  have K195 : Keep h0 h195 [a0] := K187.wr W195 (Or.inl (List.mem_of_getElem? (i := 0) rfl))
  have N195 := Fr.snoc X195 N187 g_a0
  have Vf196 : Arv Z h195 a3 k_a3 .int (4 : Int32) [(.int x0), (.int x1), (.int x2), (.int x3)] (.int (0 : Int32)) := (Vf188).other W195 ne_a3_a0
  have Ef197 : Exa Z h195 a3 "[I" := (Ef189).wr W195
  have Ff198 : Fld Z h195 a0 "com/example/timely_exodus/timelyexodus/plan/Vehicle" "route" "[I" w_route_a0 := (Ff191).other W195 (Or.inr (slot_ne (Or.inr (hw _ (List.mem_of_getElem? (i := 25) rfl))) (Or.inr (hw _ (List.mem_of_getElem? (i := 14) rfl))) (by decide) (t := (.array .int)) (t' := .int) (by decide) (by decide)))
  have Ef199 : Exa Z h195 a0 "com/example/timely_exodus/timelyexodus/plan/Vehicle" := (Ef192).wr W195
  have Ff200 : Fld Z h195 a0 "com/example/timely_exodus/timelyexodus/plan/Vehicle" "number" "I" (.int p1) := (Fw187).other W195 (Or.inr (slot_ne (Or.inr (hw _ (List.mem_of_getElem? (i := 12) rfl))) (Or.inr (hw _ (List.mem_of_getElem? (i := 14) rfl))) (by decide) (t := .int) (t' := .int) (by decide) (by decide)))
  have Fw195 : Fld Z h195 a0 "com/example/timely_exodus/timelyexodus/plan/Vehicle" "departurePeriod" "I" (.int p2) := (Ff190).same W195
  have pre201 : ∀ t, Steps p.tables e below (T195.setTop (mkF m 39 #[.val (.ref a0), .val (.int p1), .val (.int p2), .val (.ref a3)] [])) t → Steps p.tables e below (s₁.setTop (entryFrame m #[(.ref a0), (.int p1), (.int p2), (.ref a3)] 4)) t := fun t k => pre194 t (st195 t k)
  have pre202 : ∀ t, Steps p.tables e below (T195.setTop (mkF m 41 #[.val (.ref a0), .val (.int p1), .val (.int p2), .val (.ref a3)] [(.ref a3), (.ref a0)])) t → Steps p.tables e below (s₁.setTop (entryFrame m #[(.ref a0), (.int p1), (.int p2), (.ref a3)] 4)) t := by
    intro t k
    refine pre201 t ?_
    show Steps p.tables e below (T195.setTop (mkF m 39 #[.val (.ref a0), .val (.int p1), .val (.int p2), .val (.ref a3)] [])) _
    refine XS.aloadN X195.here hx rfl (hb hby d1_39) rfl rfl ?_
    show Steps p.tables e below (T195.setTop (mkF m 40 #[.val (.ref a0), .val (.int p1), .val (.int p2), .val (.ref a3)] [(.ref a0)])) _
    refine XS.aloadN X195.here hx rfl (hb hby d1_40) rfl rfl ?_
    show Steps p.tables e below (T195.setTop (mkF m 41 #[.val (.ref a0), .val (.int p1), .val (.int p2), .val (.ref a3)] [(.ref a3), (.ref a0)])) _
    exact k
  obtain ⟨T203, h203, X203, e203, E203, A203, C203, st203⟩ := cloneH X195 hx hZ hown (hw _ (List.mem_of_getElem? (i := 15) rfl)) (hw _ (List.mem_of_getElem? (i := 16) rfl)) (hw _ (List.mem_of_getElem? (i := 20) rfl)) (hw _ (List.mem_of_getElem? (i := 18) rfl)) (hw _ (List.mem_of_getElem? (i := 19) rfl)) (hw _ (List.mem_of_getElem? (i := 21) rfl)) e195 (Arv.arh Vf196) Ef197 (g := (mkF m 41 #[.val (.ref a0), .val (.int p1), .val (.int p2), .val (.ref a3)] [(.ref a3), (.ref a0)])) rfl (by rw [hml]; rfl) rfl (hb hby d1_41) (by decide) (W := 1) (cap := 4) (by show 2 * 0 + _ ≤ _; exact Nat.le_of_eq rfl) (by decide) (by decide) (by decide) (by decide)
  obtain ⟨b203, g203⟩ : ∃ z, z = h195.size := ⟨_, rfl⟩
  rw [← g203] at A203 C203 st203
  have ne_a3_b203 : a3 ≠ b203 := Nat.ne_of_lt (Nat.lt_of_lt_of_le (Vf196).lt (Nat.le_of_eq g203.symm))
  have ne_a0_b203 : a0 ≠ b203 := Nat.ne_of_lt (Nat.lt_of_lt_of_le (Ff198).lt (Nat.le_of_eq g203.symm))
  have g_b203 : n0 ≤ b203 := Nat.le_trans Z195 (Nat.le_of_eq g203.symm)
  have sz_b203 : h0.size ≤ b203 := Nat.le_trans K195.1 (Nat.le_of_eq g203.symm)
  have Z203 : n0 ≤ h203.size := Nat.le_trans Z195 E203.1
  have K203 : Keep h0 h203 [a0] := K195.ext E203
  have Vf204 : Arv Z h203 a3 k_a3 .int (4 : Int32) [(.int x0), (.int x1), (.int x2), (.int x3)] (.int (0 : Int32)) := (Vf196).ext E203
  have Ef205 : Exa Z h203 a3 "[I" := (Ef197).ext E203
  have Ff206 : Fld Z h203 a0 "com/example/timely_exodus/timelyexodus/plan/Vehicle" "route" "[I" w_route_a0 := (Ff198).ext E203
  have Ef207 : Exa Z h203 a0 "com/example/timely_exodus/timelyexodus/plan/Vehicle" := (Ef199).ext E203
  have Ff208 : Fld Z h203 a0 "com/example/timely_exodus/timelyexodus/plan/Vehicle" "number" "I" (.int p1) := (Ff200).ext E203
  have Ff209 : Fld Z h203 a0 "com/example/timely_exodus/timelyexodus/plan/Vehicle" "departurePeriod" "I" (.int p2) := (Fw195).ext E203
  have V_b203 : Arv Z h203 b203 k_a3 .int (4 : Int32) [(.int x0), (.int x1), (.int x2), (.int x3)] (.int (0 : Int32)) := A203
  have pre210 : ∀ t, Steps p.tables e below (T203.setTop (mkF m 44 #[.val (.ref a0), .val (.int p1), .val (.int p2), .val (.ref a3)] [(.ref b203), (.ref a0)])) t → Steps p.tables e below (s₁.setTop (entryFrame m #[(.ref a0), (.int p1), (.int p2), (.ref a3)] 4)) t := fun t k => pre202 t (st203 t k)
  obtain ⟨T211, X211, e211, st211⟩ := castY X203 hx hZ hown (hw _ (List.mem_of_getElem? (i := 22) rfl)) e203 (Ins.self C203) (g := (mkF m 44 #[.val (.ref a0), .val (.int p1), .val (.int p2), .val (.ref a3)] [(.ref b203), (.ref a0)])) rfl rfl (hb hby d1_44)
  have pre212 : ∀ t, Steps p.tables e below (T211.setTop (mkF m 47 #[.val (.ref a0), .val (.int p1), .val (.int p2), .val (.ref a3)] [(.ref b203), (.ref a0)])) t → Steps p.tables e below (s₁.setTop (entryFrame m #[(.ref a0), (.int p1), (.int p2), (.ref a3)] 4)) t := fun t k => pre210 t (st211 t k)
  obtain ⟨T213, h213, X213, e213, W213, st213⟩ := putF X211 hx hZ hown (host := "") (Or.inl (hw _ (List.mem_of_getElem? (i := 24) rfl))) Via.refl e211 Ff206 Ef207 (Or.inr ⟨(hw _ (List.mem_of_getElem? (i := 25) rfl)), rfl, hnm⟩) (hw _ (List.mem_of_getElem? (i := 3) rfl)) (ty := (.array .int)) (by decide) rfl rfl (g := (mkF m 47 #[.val (.ref a0), .val (.int p1), .val (.int p2), .val (.ref a3)] [(.ref b203), (.ref a0)])) rfl rfl (hb hby d1_47)
  have Z213 : n0 ≤ h213.size := Nat.le_trans Z203 (Keep.of_wr W213).1
  have K213 : Keep h0 h213 [a0] := K203.wr W213 (Or.inl (List.mem_of_getElem? (i := 0) rfl))
  have N213 := Fr.snoc X213 N195 g_a0
  have Vf214 : Arv Z h213 a3 k_a3 .int (4 : Int32) [(.int x0), (.int x1), (.int x2), (.int x3)] (.int (0 : Int32)) := (Vf204).other W213 ne_a3_a0
  have Ef215 : Exa Z h213 a3 "[I" := (Ef205).wr W213
  have Ef216 : Exa Z h213 a0 "com/example/timely_exodus/timelyexodus/plan/Vehicle" := (Ef207).wr W213
  have Ff217 : Fld Z h213 a0 "com/example/timely_exodus/timelyexodus/plan/Vehicle" "number" "I" (.int p1) := (Ff208).other W213 (Or.inr (slot_ne (Or.inr (hw _ (List.mem_of_getElem? (i := 12) rfl))) (Or.inr (hw _ (List.mem_of_getElem? (i := 25) rfl))) (by decide) (t := .int) (t' := (.array .int)) (by decide) (by decide)))
  have Ff218 : Fld Z h213 a0 "com/example/timely_exodus/timelyexodus/plan/Vehicle" "departurePeriod" "I" (.int p2) := (Ff209).other W213 (Or.inr (slot_ne (Or.inr (hw _ (List.mem_of_getElem? (i := 14) rfl))) (Or.inr (hw _ (List.mem_of_getElem? (i := 25) rfl))) (by decide) (t := .int) (t' := (.array .int)) (by decide) (by decide)))
  have Vf219 : Arv Z h213 b203 k_a3 .int (4 : Int32) [(.int x0), (.int x1), (.int x2), (.int x3)] (.int (0 : Int32)) := (V_b203).other W213 ne_a0_b203.symm
  have Ef220 : Exa Z h213 b203 "[I" := (C203).wr W213
  have Fw213 : Fld Z h213 a0 "com/example/timely_exodus/timelyexodus/plan/Vehicle" "route" "[I" (.ref b203) := (Ff206).same W213
  have pre221 : ∀ t, Steps p.tables e below (T213.setTop (mkF m 50 #[.val (.ref a0), .val (.int p1), .val (.int p2), .val (.ref a3)] [])) t → Steps p.tables e below (s₁.setTop (entryFrame m #[(.ref a0), (.int p1), (.int p2), (.ref a3)] 4)) t := fun t k => pre212 t (st213 t k)
  obtain ⟨fs, hr, hrun, hended, hW, hsame⟩ := X213.leave (v := none) (fun _ => rfl)
  refine ⟨_, _, pre221 _ ?_, hrun, hended, _, _, rfl, ?_, ⟨_, rfl⟩, hW, hsame.mono (by decide) (by decide)⟩
  · show Steps p.tables e below (T213.setTop (mkF m 50 #[.val (.ref a0), .val (.int p1), .val (.int p2), .val (.ref a3)] [])) _
    exact X213.returnOut hx Bd.returns (hb hby d1_50) hr
  · show Q1_n4 Z a0 p1 p2 a3 k_a3 x0 x1 x2 x3 w_departurePeriod_a0 w_route_a0 w_number_a0 h0 n0 _ T213.heap _
    rw [e213]
    exact ⟨b203, k_a3, rfl, N213, K213, Ef216, Ff217, Ff218, Fw213, sz_b203, Vf219, Ef220⟩
def Q3_n4 (Z : State) (a0 : Addr) (r1 : Addr) (k_r1 : ClassId) (x0 : Int32) (x1 : Int32) (x2 : Int32) (x3 : Int32) (h0 : Heap) (n0 : Nat) (v : Option Value) (h : Heap) (L : List Loc) : Prop := v = some (.int x3) ∧ Fr n0 L ∧ h = h0
set_option maxRecDepth 65536 in
set_option maxHeartbeats 40000000 in
theorem rm3_n4 (l : Launch) (Z : State) (ar0 : Array Value) (hw : ∀ d ∈ tables_1, d.before ar0 Z = true) (ws : List Jvm.Cond) (a0 : Addr) (r1 : Addr) (k_r1 : ClassId) (x0 : Int32) (x1 : Int32) (x2 : Int32) (x3 : Int32) (h0 : Heap) (n0 : Nat) (Z0 : n0 ≤ h0.size) (F_route_a0 : Fld Z h0 a0 "com/example/timely_exodus/timelyexodus/plan/Vehicle" "route" "[I" (.ref r1)) (V_r1 : Arv Z h0 r1 k_r1 .int (4 : Int32) [(.int x0), (.int x1), (.int x2), (.int x3)] (.int (0 : Int32))) :
    MetFree l (⟨"com/example/timely_exodus/timelyexodus/plan/Vehicle", "getExitCell", "()I"⟩ : MethodName) (head1 (Jvm.Cond.code (⟨"com/example/timely_exodus/timelyexodus/plan/Vehicle", "getExitCell", "()I"⟩ : MethodName) prog_38_method_5_code 1 (some .int) :: ws) ({ frames := 0, cells := 0, slots := 0, locals := 0 } : Room)) (fun a U => a = #[(.ref a0)] ∧ Z.Warmed39 U.vm ∧ U.heap = h0) (fun _ _ _ _ _ => True) (fun _ U o U' => ∃ v L, o = .returned v ∧ Q3_n4 Z a0 r1 k_r1 x0 x1 x2 x3 h0 n0 v U'.heap L ∧ FrameEnd U o U' L ({ frames := 0, cells := 0, slots := 0, locals := 0 } : Room).cells ({ frames := 0, cells := 0, slots := 0, locals := 0 } : Room).slots) := by
  refine MetFree.of_bodySF (plainFor_of_name pn_0) hisR ?_
  intro p e s m args below meth c s₁ Bd hml0 hP hK
  obtain ⟨rfl, hZ, hh⟩ := hP
  have hx := Bd.exec
  have hby := Bd.bytes
  have hml : c.maxLocals = 1 := hml0
  have hown : s.vm.findClass "com/example/timely_exodus/timelyexodus/plan/Vehicle" = some m.cls := findClass_of_methodNamed Bd.named
  have hnm := (name_of_methodNamed Bd.named Bd.method).1
  have X0 : Stand p l e ({ frames := 0, cells := 0, slots := 0, locals := 0 } : Room) s m #[(.ref a0)] below meth c s₁ [] 0 0 := Stand.of_body Bd
  have e0 : s₁.heap = h0 := by rw [← hh, Bd.state]; rfl
  have N0 := Fr.nil n0
  have pre0 : ∀ t, Steps p.tables e below (s₁.setTop (mkF m 0 #[.val (.ref a0)] [])) t → Steps p.tables e below (s₁.setTop (entryFrame m #[(.ref a0)] 1)) t := fun t k => castTop (ef_3 m a0) k
  have pre222 : ∀ t, Steps p.tables e below (s₁.setTop (mkF m 1 #[.val (.ref a0)] [(.ref a0)])) t → Steps p.tables e below (s₁.setTop (entryFrame m #[(.ref a0)] 1)) t := by
    intro t k
    refine pre0 t ?_
    show Steps p.tables e below (s₁.setTop (mkF m 0 #[.val (.ref a0)] [])) _
    refine XS.aloadN X0.here hx rfl (hb hby d3_0) rfl rfl ?_
    show Steps p.tables e below (s₁.setTop (mkF m 1 #[.val (.ref a0)] [(.ref a0)])) _
    exact k
  obtain ⟨T223, X223, e223, st223⟩ := getF X0 hx hZ hown (host := "") (Or.inl (hw _ (List.mem_of_getElem? (i := 24) rfl))) Via.refl e0 F_route_a0 (g := (mkF m 1 #[.val (.ref a0)] [(.ref a0)])) rfl rfl (hb hby d3_1)
  have pre224 : ∀ t, Steps p.tables e below (T223.setTop (mkF m 4 #[.val (.ref a0)] [(.ref r1)])) t → Steps p.tables e below (s₁.setTop (entryFrame m #[(.ref a0)] 1)) t := fun t k => pre222 t (st223 t k)
  have pre225 : ∀ t, Steps p.tables e below (T223.setTop (mkF m 5 #[.val (.ref a0)] [(.ref a0), (.ref r1)])) t → Steps p.tables e below (s₁.setTop (entryFrame m #[(.ref a0)] 1)) t := by
    intro t k
    refine pre224 t ?_
    show Steps p.tables e below (T223.setTop (mkF m 4 #[.val (.ref a0)] [(.ref r1)])) _
    refine XS.aloadN X223.here hx rfl (hb hby d3_4) rfl rfl ?_
    show Steps p.tables e below (T223.setTop (mkF m 5 #[.val (.ref a0)] [(.ref a0), (.ref r1)])) _
    exact k
  obtain ⟨T226, X226, e226, st226⟩ := getF X223 hx hZ hown (host := "") (Or.inl (hw _ (List.mem_of_getElem? (i := 24) rfl))) Via.refl e223 F_route_a0 (g := (mkF m 5 #[.val (.ref a0)] [(.ref a0), (.ref r1)])) rfl rfl (hb hby d3_5)
  have pre227 : ∀ t, Steps p.tables e below (T226.setTop (mkF m 8 #[.val (.ref a0)] [(.ref r1), (.ref r1)])) t → Steps p.tables e below (s₁.setTop (entryFrame m #[(.ref a0)] 1)) t := fun t k => pre225 t (st226 t k)
  obtain ⟨cl228, Ar228, q228, S228, M228, H228, G228⟩ := id V_r1
  have pre229 : ∀ t, Steps p.tables e below (T226.setTop (mkF m 11 #[.val (.ref a0)] [(.int (3 : Int32)), (.ref r1)])) t → Steps p.tables e below (s₁.setTop (entryFrame m #[(.ref a0)] 1)) t := by
    intro t k
    refine pre227 t ?_
    show Steps p.tables e below (T226.setTop (mkF m 8 #[.val (.ref a0)] [(.ref r1), (.ref r1)])) _
    refine X226.arraylength hx (by rw [e226]; exact Ar228.1) (State.isArrayOf_alike hZ.alike Ar228.2.1) (g := (mkF m 8 #[.val (.ref a0)] [(.ref r1), (.ref r1)])) rfl rfl (hb hby d3_8) _ ?_
    rw [len_of S228 M228]
    show Steps p.tables e below (T226.setTop (mkF m 9 #[.val (.ref a0)] [(.int (4 : Int32)), (.ref r1)])) _
    refine XS.iconst X226.here hx rfl (hb hby d3_9) ?_
    show Steps p.tables e below (T226.setTop (mkF m 10 #[.val (.ref a0)] [(.int (1 : Int32)), (.int (4 : Int32)), (.ref r1)])) _
    refine XS.isub X226.here hx rfl (hb hby d3_10) rfl ?_
    show Steps p.tables e below (T226.setTop (mkF m 11 #[.val (.ref a0)] [(.int (3 : Int32)), (.ref r1)])) _
    exact k
  obtain ⟨cl230, Ar230, q230, S230, M230, H230, G230⟩ := id V_r1
  have hin230 : ¬ ((3 : Int32) < 0 ∨ cl230.slots.size ≤ ((3 : Int32)).toNatClampNeg) := inb_of S230 ⟨by decide, by decide⟩
  have hat230 : cl230.slots[((3 : Int32)).toNatClampNeg]? = some (.int x3) := H230.at hin230 rfl
  obtain ⟨fs, hr, hrun, hended, hW, hsame⟩ := X226.leave (v := some (.int x3)) (fun h => by rw [Bd.returns] at h; cases h)
  refine ⟨_, _, pre229 _ ?_, hrun, hended, _, _, rfl, ?_, ⟨_, rfl⟩, hW, hsame.mono (by decide) (by decide)⟩
  · show Steps p.tables e below (T226.setTop (mkF m 11 #[.val (.ref a0)] [(.int (3 : Int32)), (.ref r1)])) _
    refine X226.iaload hx (j := (3 : Int32)) (v := (.int x3)) (by rw [e226]; exact Ar230.1) (State.isArrayOf_alike hZ.alike Ar230.2.1) Ar230.2.2 hin230 hat230 (g := (mkF m 11 #[.val (.ref a0)] [(.int (3 : Int32)), (.ref r1)])) rfl rfl (hb hby d3_11) _ ?_
    show Steps p.tables e below (T226.setTop (mkF m 12 #[.val (.ref a0)] [(.int x3)])) _
    exact retOut X226 hx Bd.returns rfl (Or.inl ⟨rfl, Or.inl rfl, _, rfl⟩) (hb hby d3_12) hr
  · show Q3_n4 Z a0 r1 k_r1 x0 x1 x2 x3 h0 n0 _ T226.heap _
    rw [e226]
    exact ⟨rfl, N0, rfl⟩
def Q4_n4 (Z : State) (a0 : Addr) (r1 : Addr) (k_r1 : ClassId) (x0 : Int32) (x1 : Int32) (x2 : Int32) (x3 : Int32) (h0 : Heap) (n0 : Nat) (v : Option Value) (h : Heap) (L : List Loc) : Prop := ∃ (b : Addr) (k_b : ClassId), v = some (.ref b) ∧ Fr n0 L ∧ Keep h0 h [] ∧ h0.size ≤ b ∧ Arv Z h b k_b .int (4 : Int32) [(.int x0), (.int x1), (.int x2), (.int x3)] (.int (0 : Int32)) ∧ Exa Z h b "[I"
set_option maxRecDepth 65536 in
set_option maxHeartbeats 40000000 in
theorem rm4_n4 (l : Launch) (Z : State) (ar0 : Array Value) (hw : ∀ d ∈ tables_1, d.before ar0 Z = true) (ws : List Jvm.Cond) (a0 : Addr) (r1 : Addr) (k_r1 : ClassId) (x0 : Int32) (x1 : Int32) (x2 : Int32) (x3 : Int32) (h0 : Heap) (n0 : Nat) (Z0 : n0 ≤ h0.size) (F_route_a0 : Fld Z h0 a0 "com/example/timely_exodus/timelyexodus/plan/Vehicle" "route" "[I" (.ref r1)) (V_r1 : Arv Z h0 r1 k_r1 .int (4 : Int32) [(.int x0), (.int x1), (.int x2), (.int x3)] (.int (0 : Int32))) (E_r1 : Exa Z h0 r1 "[I") :
    MetFree l (⟨"com/example/timely_exodus/timelyexodus/plan/Vehicle", "getRoute", "()[I"⟩ : MethodName) (head1 (Jvm.Cond.code (⟨"com/example/timely_exodus/timelyexodus/plan/Vehicle", "getRoute", "()[I"⟩ : MethodName) prog_38_method_6_code 1 (some (.array .int)) :: ws) ({ frames := 1, cells := 1, slots := 4, locals := 14 } : Room)) (fun a U => a = #[(.ref a0)] ∧ Z.Warmed39 U.vm ∧ U.heap = h0) (fun _ _ _ _ _ => True) (fun _ U o U' => ∃ v L, o = .returned v ∧ Q4_n4 Z a0 r1 k_r1 x0 x1 x2 x3 h0 n0 v U'.heap L ∧ FrameEnd U o U' L ({ frames := 1, cells := 1, slots := 4, locals := 14 } : Room).cells ({ frames := 1, cells := 1, slots := 4, locals := 14 } : Room).slots) := by
  refine MetFree.of_bodySF (plainFor_of_name pn_0) hisR ?_
  intro p e s m args below meth c s₁ Bd hml0 hP hK
  obtain ⟨rfl, hZ, hh⟩ := hP
  have hx := Bd.exec
  have hby := Bd.bytes
  have hml : c.maxLocals = 1 := hml0
  have hown : s.vm.findClass "com/example/timely_exodus/timelyexodus/plan/Vehicle" = some m.cls := findClass_of_methodNamed Bd.named
  have hnm := (name_of_methodNamed Bd.named Bd.method).1
  have X0 : Stand p l e ({ frames := 1, cells := 1, slots := 4, locals := 14 } : Room) s m #[(.ref a0)] below meth c s₁ [] 0 0 := Stand.of_body Bd
  have e0 : s₁.heap = h0 := by rw [← hh, Bd.state]; rfl
  have N0 := Fr.nil n0
  have pre0 : ∀ t, Steps p.tables e below (s₁.setTop (mkF m 0 #[.val (.ref a0)] [])) t → Steps p.tables e below (s₁.setTop (entryFrame m #[(.ref a0)] 1)) t := fun t k => castTop (ef_4 m a0) k
  have pre231 : ∀ t, Steps p.tables e below (s₁.setTop (mkF m 1 #[.val (.ref a0)] [(.ref a0)])) t → Steps p.tables e below (s₁.setTop (entryFrame m #[(.ref a0)] 1)) t := by
    intro t k
    refine pre0 t ?_
    show Steps p.tables e below (s₁.setTop (mkF m 0 #[.val (.ref a0)] [])) _
    refine XS.aloadN X0.here hx rfl (hb hby d4_0) rfl rfl ?_
    show Steps p.tables e below (s₁.setTop (mkF m 1 #[.val (.ref a0)] [(.ref a0)])) _
    exact k
  obtain ⟨T232, X232, e232, st232⟩ := getF X0 hx hZ hown (host := "") (Or.inl (hw _ (List.mem_of_getElem? (i := 24) rfl))) Via.refl e0 F_route_a0 (g := (mkF m 1 #[.val (.ref a0)] [(.ref a0)])) rfl rfl (hb hby d4_1)
  have pre233 : ∀ t, Steps p.tables e below (T232.setTop (mkF m 4 #[.val (.ref a0)] [(.ref r1)])) t → Steps p.tables e below (s₁.setTop (entryFrame m #[(.ref a0)] 1)) t := fun t k => pre231 t (st232 t k)
  obtain ⟨T234, h234, X234, e234, E234, A234, C234, st234⟩ := cloneH X232 hx hZ hown (hw _ (List.mem_of_getElem? (i := 15) rfl)) (hw _ (List.mem_of_getElem? (i := 16) rfl)) (hw _ (List.mem_of_getElem? (i := 20) rfl)) (hw _ (List.mem_of_getElem? (i := 18) rfl)) (hw _ (List.mem_of_getElem? (i := 19) rfl)) (hw _ (List.mem_of_getElem? (i := 21) rfl)) e232 (Arv.arh V_r1) E_r1 (g := (mkF m 4 #[.val (.ref a0)] [(.ref r1)])) rfl (by rw [hml]; rfl) rfl (hb hby d4_4) (by decide) (W := 0) (cap := 4) (by show 2 * 0 + _ ≤ _; exact Nat.le_of_eq rfl) (by decide) (by decide) (by decide) (by decide)
  obtain ⟨b234, g234⟩ : ∃ z, z = h0.size := ⟨_, rfl⟩
  rw [← g234] at A234 C234 st234
  have ne_a0_b234 : a0 ≠ b234 := Nat.ne_of_lt (Nat.lt_of_lt_of_le (F_route_a0).lt (Nat.le_of_eq g234.symm))
  have ne_r1_b234 : r1 ≠ b234 := Nat.ne_of_lt (Nat.lt_of_lt_of_le (V_r1).lt (Nat.le_of_eq g234.symm))
  have g_b234 : n0 ≤ b234 := Nat.le_trans Z0 (Nat.le_of_eq g234.symm)
  have sz_b234 : h0.size ≤ b234 := Nat.le_trans (Keep.refl h0 []).1 (Nat.le_of_eq g234.symm)
  have Z234 : n0 ≤ h234.size := Nat.le_trans Z0 E234.1
  have K234 : Keep h0 h234 [] := (Keep.refl h0 []).ext E234
  have Ff235 : Fld Z h234 a0 "com/example/timely_exodus/timelyexodus/plan/Vehicle" "route" "[I" (.ref r1) := (F_route_a0).ext E234
  have Vf236 : Arv Z h234 r1 k_r1 .int (4 : Int32) [(.int x0), (.int x1), (.int x2), (.int x3)] (.int (0 : Int32)) := (V_r1).ext E234
  have Ef237 : Exa Z h234 r1 "[I" := (E_r1).ext E234
  have V_b234 : Arv Z h234 b234 k_r1 .int (4 : Int32) [(.int x0), (.int x1), (.int x2), (.int x3)] (.int (0 : Int32)) := A234
  have pre238 : ∀ t, Steps p.tables e below (T234.setTop (mkF m 7 #[.val (.ref a0)] [(.ref b234)])) t → Steps p.tables e below (s₁.setTop (entryFrame m #[(.ref a0)] 1)) t := fun t k => pre233 t (st234 t k)
  obtain ⟨T239, X239, e239, st239⟩ := castY X234 hx hZ hown (hw _ (List.mem_of_getElem? (i := 22) rfl)) e234 (Ins.self C234) (g := (mkF m 7 #[.val (.ref a0)] [(.ref b234)])) rfl rfl (hb hby d4_7)
  have pre240 : ∀ t, Steps p.tables e below (T239.setTop (mkF m 10 #[.val (.ref a0)] [(.ref b234)])) t → Steps p.tables e below (s₁.setTop (entryFrame m #[(.ref a0)] 1)) t := fun t k => pre238 t (st239 t k)
  obtain ⟨fs, hr, hrun, hended, hW, hsame⟩ := X239.leave (v := some (.ref b234)) (fun h => by rw [Bd.returns] at h; cases h)
  refine ⟨_, _, pre240 _ ?_, hrun, hended, _, _, rfl, ?_, ⟨_, rfl⟩, hW, hsame.mono (by decide) (by decide)⟩
  · show Steps p.tables e below (T239.setTop (mkF m 10 #[.val (.ref a0)] [(.ref b234)])) _
    exact retOut X239 hx Bd.returns rfl (Or.inr (Or.inr (Or.inr (Or.inr ⟨rfl, rfl, rfl⟩)))) (hb hby d4_10) hr
  · show Q4_n4 Z a0 r1 k_r1 x0 x1 x2 x3 h0 n0 _ T239.heap _
    rw [e239]
    exact ⟨b234, k_r1, rfl, N0, K234, sz_b234, V_b234, C234⟩
theorem own_posA {p v : Int32} (hv : v = ((p &&& (65535 : Int32)) + (1 : Int32))) : ¬ (v < (1 : Int32)) := by
  have e1 : (1 : Int32).toInt = 1 := by decide
  have m : (p &&& 65535).toInt = p.toInt % 2 ^ 16 := Jvm.Kit.i32_mask p 65535 (k := 16) (by decide) (by decide)
  rw [hv, Int32.lt_iff_toInt_lt, Jvm.Kit.i32_add (by rw [m, e1]; omega) (by rw [m, e1]; omega), m, e1]
  omega
theorem own_posB {p v : Int32} (hv : v = ((p &&& (65535 : Int32)) + (1 : Int32))) : ¬ (v < (1 : Int32)) := own_posA hv
theorem own_n4 {p v : Int32} (hv : v = ((p &&& (3 : Int32)) + (1 : Int32))) : v = 1 ∨ v = 2 ∨ v = 3 ∨ v = 4 := by
  have e1 : (1 : Int32).toInt = 1 := by decide
  have e2 : (2 : Int32).toInt = 2 := by decide
  have e3 : (3 : Int32).toInt = 3 := by decide
  have e4 : (4 : Int32).toInt = 4 := by decide
  have m : (p &&& 3).toInt = p.toInt % 2 ^ 2 := Jvm.Kit.i32_mask p 3 (k := 2) (by decide) (by decide)
  have a : v.toInt = p.toInt % 4 + 1 := by rw [hv, Jvm.Kit.i32_add (by rw [m, e1]; omega) (by rw [m, e1]; omega), m, e1]; omega
  simp only [← Int32.toInt_inj, e1, e2, e3, e4]
  omega

theorem pd_0 : parseMethodDescriptor "(II[I)V" = some ⟨[.int, .int, (.array .int)], none⟩ := by decide +kernel
theorem pd_1 : parseMethodDescriptor "()I" = some ⟨[], some .int⟩ := by decide +kernel
theorem pd_2 : parseMethodDescriptor "()[I" = some ⟨[], some (.array .int)⟩ := by decide +kernel
theorem pn_1 : plainName "com/example/timely_exodus/timelyexodus/plan/VehicleGetExitCellPinLaw" = true := by first | (simp [plainName, overriddenIn]; done) | decide +kernel
theorem ef_0 (m : MethodId) (x0 : Int32) (x1 : Int32) (x2 : Int32) (x3 : Int32) (x4 : Int32) (x5 : Int32) : entryFrame m #[(.int x0), (.int x1), (.int x2), (.int x3), (.int x4), (.int x5)] maxLocals = mkF m 0 #[.val (.int x0), .val (.int x1), .val (.int x2), .val (.int x3), .val (.int x4), .val (.int x5), .unset, .unset, .unset, .unset, .unset, .unset, .unset, .unset, .unset] [] := by first | (simp [entryFrame, mkF, argsToLocals, Value.category, maxLocals]; done) | rfl
def Q0 (Z : State) (p0 : Int32) (p1 : Int32) (p2 : Int32) (p3 : Int32) (p4 : Int32) (p5 : Int32) (h0 : Heap) (n0 : Nat) (v : Option Value) (h : Heap) (L : List Loc) : Prop := v = some (.int 1) ∧ Fr n0 L
set_option maxRecDepth 65536 in
set_option maxHeartbeats 40000000 in
theorem rm0 (l : Launch) (Z : State) (ar0 : Array Value) (hw : ∀ d ∈ tables_1, d.before ar0 Z = true) (ws : List Jvm.Cond) (p0 : Int32) (p1 : Int32) (p2 : Int32) (p3 : Int32) (p4 : Int32) (p5 : Int32) (h0 : Heap) (n0 : Nat) (Z0 : n0 ≤ h0.size) :
    MetFree l x (head1 (Jvm.Cond.code x code maxLocals ret :: ws) room_1) (fun a U => a = #[(.int p0), (.int p1), (.int p2), (.int p3), (.int p4), (.int p5)] ∧ Z.Warmed39 U.vm ∧ U.heap = h0) (fun _ _ _ _ _ => True) (fun _ U o U' => ∃ v L, o = .returned v ∧ Q0 Z p0 p1 p2 p3 p4 p5 h0 n0 v U'.heap L ∧ FrameEnd U o U' L room_1.cells room_1.slots) := by
  refine MetFree.of_bodySF (plainFor_of_name pn_1) hisR ?_
  intro p e s m args below meth c s₁ Bd hml0 hP hK
  obtain ⟨rfl, hZ, hh⟩ := hP
  have hx := Bd.exec
  have hby := Bd.bytes
  have hml : c.maxLocals = 15 := hml0
  have hown : s.vm.findClass "com/example/timely_exodus/timelyexodus/plan/VehicleGetExitCellPinLaw" = some m.cls := findClass_of_methodNamed Bd.named
  have hnm := (name_of_methodNamed Bd.named Bd.method).1
  have X0 : Stand p l e room_1 s m #[(.int p0), (.int p1), (.int p2), (.int p3), (.int p4), (.int p5)] below meth c s₁ [] 0 0 := Stand.of_body Bd
  have e0 : s₁.heap = h0 := by rw [← hh, Bd.state]; rfl
  have N0 := Fr.nil n0
  have pre0 : ∀ t, Steps p.tables e below (s₁.setTop (mkF m 0 #[.val (.int p0), .val (.int p1), .val (.int p2), .val (.int p3), .val (.int p4), .val (.int p5), .unset, .unset, .unset, .unset, .unset, .unset, .unset, .unset, .unset] [])) t → Steps p.tables e below (s₁.setTop (entryFrame m #[(.int p0), (.int p1), (.int p2), (.int p3), (.int p4), (.int p5)] maxLocals)) t := fun t k => castTop (ef_0 m p0 p1 p2 p3 p4 p5) k
  have pre241 : ∀ t, Steps p.tables e below (s₁.setTop (mkF m 5 #[.val (.int p0), .val (.int p1), .val (.int p2), .val (.int p3), .val (.int p4), .val (.int p5), .unset, .unset, .unset, .unset, .unset, .unset, .unset, .unset, .unset] [(.int ((p0 &&& (3 : Int32)) + (1 : Int32)))])) t → Steps p.tables e below (s₁.setTop (entryFrame m #[(.int p0), (.int p1), (.int p2), (.int p3), (.int p4), (.int p5)] maxLocals)) t := by
    intro t k
    refine pre0 t ?_
    show Steps p.tables e below (s₁.setTop (mkF m 0 #[.val (.int p0), .val (.int p1), .val (.int p2), .val (.int p3), .val (.int p4), .val (.int p5), .unset, .unset, .unset, .unset, .unset, .unset, .unset, .unset, .unset] [])) _
    refine XS.iloadN X0.here hx rfl (hb hby at_0) rfl ?_
    show Steps p.tables e below (s₁.setTop (mkF m 1 #[.val (.int p0), .val (.int p1), .val (.int p2), .val (.int p3), .val (.int p4), .val (.int p5), .unset, .unset, .unset, .unset, .unset, .unset, .unset, .unset, .unset] [(.int p0)])) _
    refine XS.iconst X0.here hx rfl (hb hby at_1) ?_
    show Steps p.tables e below (s₁.setTop (mkF m 2 #[.val (.int p0), .val (.int p1), .val (.int p2), .val (.int p3), .val (.int p4), .val (.int p5), .unset, .unset, .unset, .unset, .unset, .unset, .unset, .unset, .unset] [(.int (3 : Int32)), (.int p0)])) _
    refine XS.iand X0.here hx rfl (hb hby at_2) rfl ?_
    show Steps p.tables e below (s₁.setTop (mkF m 3 #[.val (.int p0), .val (.int p1), .val (.int p2), .val (.int p3), .val (.int p4), .val (.int p5), .unset, .unset, .unset, .unset, .unset, .unset, .unset, .unset, .unset] [(.int (p0 &&& (3 : Int32)))])) _
    refine XS.iconst X0.here hx rfl (hb hby at_3) ?_
    show Steps p.tables e below (s₁.setTop (mkF m 4 #[.val (.int p0), .val (.int p1), .val (.int p2), .val (.int p3), .val (.int p4), .val (.int p5), .unset, .unset, .unset, .unset, .unset, .unset, .unset, .unset, .unset] [(.int (1 : Int32)), (.int (p0 &&& (3 : Int32)))])) _
    refine XS.iadd X0.here hx rfl (hb hby at_4) rfl ?_
    show Steps p.tables e below (s₁.setTop (mkF m 5 #[.val (.int p0), .val (.int p1), .val (.int p2), .val (.int p3), .val (.int p4), .val (.int p5), .unset, .unset, .unset, .unset, .unset, .unset, .unset, .unset, .unset] [(.int ((p0 &&& (3 : Int32)) + (1 : Int32)))])) _
    exact k
  obtain ⟨v242, hv242⟩ : ∃ z : Int32, z = ((p0 &&& (3 : Int32)) + (1 : Int32)) := ⟨_, rfl⟩
  have pre243 : ∀ t, Steps p.tables e below (s₁.setTop (mkF m 5 #[.val (.int p0), .val (.int p1), .val (.int p2), .val (.int p3), .val (.int p4), .val (.int p5), .unset, .unset, .unset, .unset, .unset, .unset, .unset, .unset, .unset] [(.int v242)])) t → Steps p.tables e below (s₁.setTop (entryFrame m #[(.int p0), (.int p1), (.int p2), (.int p3), (.int p4), (.int p5)] maxLocals)) t := by rw [hv242]; exact pre241
  have pre244 : ∀ t, Steps p.tables e below (s₁.setTop (mkF m 7 #[.val (.int p0), .val (.int p1), .val (.int p2), .val (.int p3), .val (.int p4), .val (.int p5), .val (.int v242), .unset, .unset, .unset, .unset, .unset, .unset, .unset, .unset] [])) t → Steps p.tables e below (s₁.setTop (entryFrame m #[(.int p0), (.int p1), (.int p2), (.int p3), (.int p4), (.int p5)] maxLocals)) t := by
    intro t k
    refine pre243 t ?_
    show Steps p.tables e below (s₁.setTop (mkF m 5 #[.val (.int p0), .val (.int p1), .val (.int p2), .val (.int p3), .val (.int p4), .val (.int p5), .unset, .unset, .unset, .unset, .unset, .unset, .unset, .unset, .unset] [(.int v242)])) _
    refine XS.istore X0.here hx rfl (hb hby at_5) rfl (l' := #[.val (.int p0), .val (.int p1), .val (.int p2), .val (.int p3), .val (.int p4), .val (.int p5), .val (.int v242), .unset, .unset, .unset, .unset, .unset, .unset, .unset, .unset]) rfl ?_
    show Steps p.tables e below (s₁.setTop (mkF m 7 #[.val (.int p0), .val (.int p1), .val (.int p2), .val (.int p3), .val (.int p4), .val (.int p5), .val (.int v242), .unset, .unset, .unset, .unset, .unset, .unset, .unset, .unset] [])) _
    exact k
  rcases own_n4 hv242 with rfl | rfl | rfl | rfl
  · have pre245 : ∀ t, Steps p.tables e below (s₁.setTop (mkF m 9 #[.val (.int p0), .val (.int p1), .val (.int p2), .val (.int p3), .val (.int p4), .val (.int p5), .val (.int (1 : Int32)), .unset, .unset, .unset, .unset, .unset, .unset, .unset, .unset] [(.int (1 : Int32))])) t → Steps p.tables e below (s₁.setTop (entryFrame m #[(.int p0), (.int p1), (.int p2), (.int p3), (.int p4), (.int p5)] maxLocals)) t := by
      intro t k
      refine pre244 t ?_
      show Steps p.tables e below (s₁.setTop (mkF m 7 #[.val (.int p0), .val (.int p1), .val (.int p2), .val (.int p3), .val (.int p4), .val (.int p5), .val (.int (1 : Int32)), .unset, .unset, .unset, .unset, .unset, .unset, .unset, .unset] [])) _
      refine XS.iload X0.here hx rfl (hb hby at_7) rfl ?_
      show Steps p.tables e below (s₁.setTop (mkF m 9 #[.val (.int p0), .val (.int p1), .val (.int p2), .val (.int p3), .val (.int p4), .val (.int p5), .val (.int (1 : Int32)), .unset, .unset, .unset, .unset, .unset, .unset, .unset, .unset] [(.int (1 : Int32))])) _
      exact k
    obtain ⟨T246, h246, k246, X246, e246, E246, A246, C246, st246⟩ := newPE X0 hx hZ (hw _ (List.mem_of_getElem? (i := 0) rfl)) e0 (g := (mkF m 9 #[.val (.int p0), .val (.int p1), .val (.int p2), .val (.int p3), .val (.int p4), .val (.int p5), .val (.int (1 : Int32)), .unset, .unset, .unset, .unset, .unset, .unset, .unset, .unset] [(.int (1 : Int32))])) rfl (hb hby at_9) rfl (by decide) (cap := 1) (by decide) (by decide) (by decide) (by decide) (ad := "[I") rfl
    obtain ⟨b246, g246⟩ : ∃ z, z = h0.size := ⟨_, rfl⟩
    rw [← g246] at A246 C246 st246
    have g_b246 : n0 ≤ b246 := Nat.le_trans Z0 (Nat.le_of_eq g246.symm)
    have sz_b246 : h0.size ≤ b246 := Nat.le_trans (Keep.refl h0 []).1 (Nat.le_of_eq g246.symm)
    have Z246 : n0 ≤ h246.size := Nat.le_trans Z0 E246.1
    have K246 : Keep h0 h246 [] := (Keep.refl h0 []).ext E246
    have V_b246 : Arv Z h246 b246 k246 .int (1 : Int32) [(.int (0 : Int32))] (.int (0 : Int32)) := (Arv.new A246 (by decide)).pad (pad_rep [] (.int (0 : Int32)) 1)
    have pre247 : ∀ t, Steps p.tables e below (T246.setTop (mkF m 11 #[.val (.int p0), .val (.int p1), .val (.int p2), .val (.int p3), .val (.int p4), .val (.int p5), .val (.int (1 : Int32)), .unset, .unset, .unset, .unset, .unset, .unset, .unset, .unset] [(.ref b246)])) t → Steps p.tables e below (s₁.setTop (entryFrame m #[(.int p0), (.int p1), (.int p2), (.int p3), (.int p4), (.int p5)] maxLocals)) t := fun t k => pre245 t (st246 t k)
    have pre248 : ∀ t, Steps p.tables e below (T246.setTop (mkF m 17 #[.val (.int p0), .val (.int p1), .val (.int p2), .val (.int p3), .val (.int p4), .val (.int p5), .val (.int (1 : Int32)), .val (.ref b246), .unset, .unset, .unset, .unset, .unset, .unset, .unset] [(.int p1), (.int (0 : Int32)), (.ref b246)])) t → Steps p.tables e below (s₁.setTop (entryFrame m #[(.int p0), (.int p1), (.int p2), (.int p3), (.int p4), (.int p5)] maxLocals)) t := by
      intro t k
      refine pre247 t ?_
      show Steps p.tables e below (T246.setTop (mkF m 11 #[.val (.int p0), .val (.int p1), .val (.int p2), .val (.int p3), .val (.int p4), .val (.int p5), .val (.int (1 : Int32)), .unset, .unset, .unset, .unset, .unset, .unset, .unset, .unset] [(.ref b246)])) _
      refine XS.astore X246.here hx rfl (hb hby at_11) rfl rfl (l' := #[.val (.int p0), .val (.int p1), .val (.int p2), .val (.int p3), .val (.int p4), .val (.int p5), .val (.int (1 : Int32)), .val (.ref b246), .unset, .unset, .unset, .unset, .unset, .unset, .unset]) rfl ?_
      show Steps p.tables e below (T246.setTop (mkF m 13 #[.val (.int p0), .val (.int p1), .val (.int p2), .val (.int p3), .val (.int p4), .val (.int p5), .val (.int (1 : Int32)), .val (.ref b246), .unset, .unset, .unset, .unset, .unset, .unset, .unset] [])) _
      refine XS.aload X246.here hx rfl (hb hby at_13) rfl rfl ?_
      show Steps p.tables e below (T246.setTop (mkF m 15 #[.val (.int p0), .val (.int p1), .val (.int p2), .val (.int p3), .val (.int p4), .val (.int p5), .val (.int (1 : Int32)), .val (.ref b246), .unset, .unset, .unset, .unset, .unset, .unset, .unset] [(.ref b246)])) _
      refine XS.iconst X246.here hx rfl (hb hby at_15) ?_
      show Steps p.tables e below (T246.setTop (mkF m 16 #[.val (.int p0), .val (.int p1), .val (.int p2), .val (.int p3), .val (.int p4), .val (.int p5), .val (.int (1 : Int32)), .val (.ref b246), .unset, .unset, .unset, .unset, .unset, .unset, .unset] [(.int (0 : Int32)), (.ref b246)])) _
      refine XS.iloadN X246.here hx rfl (hb hby at_16) rfl ?_
      show Steps p.tables e below (T246.setTop (mkF m 17 #[.val (.int p0), .val (.int p1), .val (.int p2), .val (.int p3), .val (.int p4), .val (.int p5), .val (.int (1 : Int32)), .val (.ref b246), .unset, .unset, .unset, .unset, .unset, .unset, .unset] [(.int p1), (.int (0 : Int32)), (.ref b246)])) _
      exact k
    obtain ⟨cl249, Ar249, q249, S249, M249, H249, G249⟩ := id V_b246
    have hin249 : ¬ ((0 : Int32) < 0 ∨ cl249.slots.size ≤ ((0 : Int32)).toNatClampNeg) := inb_of S249 ⟨by decide, by decide⟩
    obtain ⟨T249, h249, X249, e249, W249, st249⟩ := stI X246 hx hZ e246 Ar249 (j := (0 : Int32)) hin249 (g := (mkF m 17 #[.val (.int p0), .val (.int p1), .val (.int p2), .val (.int p3), .val (.int p4), .val (.int p5), .val (.int (1 : Int32)), .val (.ref b246), .unset, .unset, .unset, .unset, .unset, .unset, .unset] [(.int p1), (.int (0 : Int32)), (.ref b246)])) rfl rfl (hb hby at_17)
    have Z249 : n0 ≤ h249.size := Nat.le_trans Z246 (Keep.of_wr W249).1
    have K249 : Keep h0 h249 [] := K246.wr W249 (Or.inr sz_b246)
    have N249 := Fr.snoc X249 N0 g_b246
    have Ef250 : Exa Z h249 b246 "[I" := (C246).wr W249
    have V249 : Arv Z h249 b246 k246 .int (1 : Int32) [(.int p1)] (.int (0 : Int32)) := Arv.set Ar249 q249 S249 M249 H249 G249 rfl W249 0 rfl (Nat.le_of_ble_eq_true rfl)
    have pre251 : ∀ t, Steps p.tables e below (T249.setTop (mkF m 18 #[.val (.int p0), .val (.int p1), .val (.int p2), .val (.int p3), .val (.int p4), .val (.int p5), .val (.int (1 : Int32)), .val (.ref b246), .unset, .unset, .unset, .unset, .unset, .unset, .unset] [])) t → Steps p.tables e below (s₁.setTop (entryFrame m #[(.int p0), (.int p1), (.int p2), (.int p3), (.int p4), (.int p5)] maxLocals)) t := fun t k => pre248 t (st249 t k)
    have pre252 : ∀ t, Steps p.tables e below (T249.setTop (mkF m 99 #[.val (.int p0), .val (.int p1), .val (.int p2), .val (.int p3), .val (.int p4), .val (.int p5), .val (.int (1 : Int32)), .val (.ref b246), .val (.int p1), .unset, .unset, .unset, .unset, .unset, .unset] [(.int ((p5 &&& (65535 : Int32)) + (1 : Int32)))])) t → Steps p.tables e below (s₁.setTop (entryFrame m #[(.int p0), (.int p1), (.int p2), (.int p3), (.int p4), (.int p5)] maxLocals)) t := by
      intro t k
      refine pre251 t ?_
      show Steps p.tables e below (T249.setTop (mkF m 18 #[.val (.int p0), .val (.int p1), .val (.int p2), .val (.int p3), .val (.int p4), .val (.int p5), .val (.int (1 : Int32)), .val (.ref b246), .unset, .unset, .unset, .unset, .unset, .unset, .unset] [])) _
      refine XS.iload X249.here hx rfl (hb hby at_18) rfl ?_
      show Steps p.tables e below (T249.setTop (mkF m 20 #[.val (.int p0), .val (.int p1), .val (.int p2), .val (.int p3), .val (.int p4), .val (.int p5), .val (.int (1 : Int32)), .val (.ref b246), .unset, .unset, .unset, .unset, .unset, .unset, .unset] [(.int (1 : Int32))])) _
      refine XS.iconst X249.here hx rfl (hb hby at_20) ?_
      show Steps p.tables e below (T249.setTop (mkF m 21 #[.val (.int p0), .val (.int p1), .val (.int p2), .val (.int p3), .val (.int p4), .val (.int p5), .val (.int (1 : Int32)), .val (.ref b246), .unset, .unset, .unset, .unset, .unset, .unset, .unset] [(.int (1 : Int32)), (.int (1 : Int32))])) _
      show Steps p.tables e below (T249.setTop (mkF m 21 #[.val (.int p0), .val (.int p1), .val (.int p2), .val (.int p3), .val (.int p4), .val (.int p5), .val (.int (1 : Int32)), .val (.ref b246), .unset, .unset, .unset, .unset, .unset, .unset, .unset] [(.int (1 : Int32)), (.int (1 : Int32))])) _
      refine XS.icmpYes X249.here hx rfl (pc0 := 21) (pc' := 29) rfl (hb hby at_21) rfl (flt (by decide : ¬ (1 : Int32) < (1 : Int32))).2.2.2 (by decide) (by decide) ?_
      show Steps p.tables e below (T249.setTop (mkF m 29 #[.val (.int p0), .val (.int p1), .val (.int p2), .val (.int p3), .val (.int p4), .val (.int p5), .val (.int (1 : Int32)), .val (.ref b246), .unset, .unset, .unset, .unset, .unset, .unset, .unset] [])) _
      refine XS.iload X249.here hx rfl (hb hby at_29) rfl ?_
      show Steps p.tables e below (T249.setTop (mkF m 31 #[.val (.int p0), .val (.int p1), .val (.int p2), .val (.int p3), .val (.int p4), .val (.int p5), .val (.int (1 : Int32)), .val (.ref b246), .unset, .unset, .unset, .unset, .unset, .unset, .unset] [(.int (1 : Int32))])) _
      refine XS.iconst X249.here hx rfl (hb hby at_31) ?_
      show Steps p.tables e below (T249.setTop (mkF m 32 #[.val (.int p0), .val (.int p1), .val (.int p2), .val (.int p3), .val (.int p4), .val (.int p5), .val (.int (1 : Int32)), .val (.ref b246), .unset, .unset, .unset, .unset, .unset, .unset, .unset] [(.int (2 : Int32)), (.int (1 : Int32))])) _
      show Steps p.tables e below (T249.setTop (mkF m 32 #[.val (.int p0), .val (.int p1), .val (.int p2), .val (.int p3), .val (.int p4), .val (.int p5), .val (.int (1 : Int32)), .val (.ref b246), .unset, .unset, .unset, .unset, .unset, .unset, .unset] [(.int (2 : Int32)), (.int (1 : Int32))])) _
      refine XS.icmpYes X249.here hx rfl (pc0 := 32) (pc' := 40) rfl (hb hby at_32) rfl (flt (by decide : ¬ (2 : Int32) < (1 : Int32))).2.2.2 (by decide) (by decide) ?_
      show Steps p.tables e below (T249.setTop (mkF m 40 #[.val (.int p0), .val (.int p1), .val (.int p2), .val (.int p3), .val (.int p4), .val (.int p5), .val (.int (1 : Int32)), .val (.ref b246), .unset, .unset, .unset, .unset, .unset, .unset, .unset] [])) _
      refine XS.iload X249.here hx rfl (hb hby at_40) rfl ?_
      show Steps p.tables e below (T249.setTop (mkF m 42 #[.val (.int p0), .val (.int p1), .val (.int p2), .val (.int p3), .val (.int p4), .val (.int p5), .val (.int (1 : Int32)), .val (.ref b246), .unset, .unset, .unset, .unset, .unset, .unset, .unset] [(.int (1 : Int32))])) _
      refine XS.iconst X249.here hx rfl (hb hby at_42) ?_
      show Steps p.tables e below (T249.setTop (mkF m 43 #[.val (.int p0), .val (.int p1), .val (.int p2), .val (.int p3), .val (.int p4), .val (.int p5), .val (.int (1 : Int32)), .val (.ref b246), .unset, .unset, .unset, .unset, .unset, .unset, .unset] [(.int (3 : Int32)), (.int (1 : Int32))])) _
      show Steps p.tables e below (T249.setTop (mkF m 43 #[.val (.int p0), .val (.int p1), .val (.int p2), .val (.int p3), .val (.int p4), .val (.int p5), .val (.int (1 : Int32)), .val (.ref b246), .unset, .unset, .unset, .unset, .unset, .unset, .unset] [(.int (3 : Int32)), (.int (1 : Int32))])) _
      refine XS.icmpYes X249.here hx rfl (pc0 := 43) (pc' := 52) rfl (hb hby at_43) rfl (flt (by decide : ¬ (3 : Int32) < (1 : Int32))).2.2.2 (by decide) (by decide) ?_
      show Steps p.tables e below (T249.setTop (mkF m 52 #[.val (.int p0), .val (.int p1), .val (.int p2), .val (.int p3), .val (.int p4), .val (.int p5), .val (.int (1 : Int32)), .val (.ref b246), .unset, .unset, .unset, .unset, .unset, .unset, .unset] [])) _
      refine XS.iload X249.here hx rfl (hb hby at_52) rfl ?_
      show Steps p.tables e below (T249.setTop (mkF m 54 #[.val (.int p0), .val (.int p1), .val (.int p2), .val (.int p3), .val (.int p4), .val (.int p5), .val (.int (1 : Int32)), .val (.ref b246), .unset, .unset, .unset, .unset, .unset, .unset, .unset] [(.int (1 : Int32))])) _
      refine XS.iconst X249.here hx rfl (hb hby at_54) ?_
      show Steps p.tables e below (T249.setTop (mkF m 55 #[.val (.int p0), .val (.int p1), .val (.int p2), .val (.int p3), .val (.int p4), .val (.int p5), .val (.int (1 : Int32)), .val (.ref b246), .unset, .unset, .unset, .unset, .unset, .unset, .unset] [(.int (1 : Int32)), (.int (1 : Int32))])) _
      show Steps p.tables e below (T249.setTop (mkF m 55 #[.val (.int p0), .val (.int p1), .val (.int p2), .val (.int p3), .val (.int p4), .val (.int p5), .val (.int (1 : Int32)), .val (.ref b246), .unset, .unset, .unset, .unset, .unset, .unset, .unset] [(.int (1 : Int32)), (.int (1 : Int32))])) _
      refine XS.icmpNo X249.here hx rfl (hb hby at_55) rfl (teq (by decide : (1 : Int32) = (1 : Int32))).2 ?_
      show Steps p.tables e below (T249.setTop (mkF m 58 #[.val (.int p0), .val (.int p1), .val (.int p2), .val (.int p3), .val (.int p4), .val (.int p5), .val (.int (1 : Int32)), .val (.ref b246), .unset, .unset, .unset, .unset, .unset, .unset, .unset] [])) _
      refine XS.iloadN X249.here hx rfl (hb hby at_58) rfl ?_
      show Steps p.tables e below (T249.setTop (mkF m 59 #[.val (.int p0), .val (.int p1), .val (.int p2), .val (.int p3), .val (.int p4), .val (.int p5), .val (.int (1 : Int32)), .val (.ref b246), .unset, .unset, .unset, .unset, .unset, .unset, .unset] [(.int p1)])) _
      refine XS.istore X249.here hx rfl (hb hby at_59) rfl (l' := #[.val (.int p0), .val (.int p1), .val (.int p2), .val (.int p3), .val (.int p4), .val (.int p5), .val (.int (1 : Int32)), .val (.ref b246), .val (.int p1), .unset, .unset, .unset, .unset, .unset, .unset]) rfl ?_
      show Steps p.tables e below (T249.setTop (mkF m 61 #[.val (.int p0), .val (.int p1), .val (.int p2), .val (.int p3), .val (.int p4), .val (.int p5), .val (.int (1 : Int32)), .val (.ref b246), .val (.int p1), .unset, .unset, .unset, .unset, .unset, .unset] [])) _
      refine XS.goto X249.here hx rfl (pc0 := 61) (pc' := 92) rfl (hb hby at_61) (by decide) (by decide) ?_
      show Steps p.tables e below (T249.setTop (mkF m 92 #[.val (.int p0), .val (.int p1), .val (.int p2), .val (.int p3), .val (.int p4), .val (.int p5), .val (.int (1 : Int32)), .val (.ref b246), .val (.int p1), .unset, .unset, .unset, .unset, .unset, .unset] [])) _
      refine XS.iload X249.here hx rfl (hb hby at_92) rfl ?_
      show Steps p.tables e below (T249.setTop (mkF m 94 #[.val (.int p0), .val (.int p1), .val (.int p2), .val (.int p3), .val (.int p4), .val (.int p5), .val (.int (1 : Int32)), .val (.ref b246), .val (.int p1), .unset, .unset, .unset, .unset, .unset, .unset] [(.int p5)])) _
      refine X249.ldcInt hx hown (mvT hZ (hw _ (List.mem_of_getElem? (i := 1) rfl))) (g := (mkF m 94 #[.val (.int p0), .val (.int p1), .val (.int p2), .val (.int p3), .val (.int p4), .val (.int p5), .val (.int (1 : Int32)), .val (.ref b246), .val (.int p1), .unset, .unset, .unset, .unset, .unset, .unset] [(.int p5)])) rfl (hb hby at_94) _ ?_
      show Steps p.tables e below (T249.setTop (mkF m 96 #[.val (.int p0), .val (.int p1), .val (.int p2), .val (.int p3), .val (.int p4), .val (.int p5), .val (.int (1 : Int32)), .val (.ref b246), .val (.int p1), .unset, .unset, .unset, .unset, .unset, .unset] [(.int (65535 : Int32)), (.int p5)])) _
      refine XS.iand X249.here hx rfl (hb hby at_96) rfl ?_
      show Steps p.tables e below (T249.setTop (mkF m 97 #[.val (.int p0), .val (.int p1), .val (.int p2), .val (.int p3), .val (.int p4), .val (.int p5), .val (.int (1 : Int32)), .val (.ref b246), .val (.int p1), .unset, .unset, .unset, .unset, .unset, .unset] [(.int (p5 &&& (65535 : Int32)))])) _
      refine XS.iconst X249.here hx rfl (hb hby at_97) ?_
      show Steps p.tables e below (T249.setTop (mkF m 98 #[.val (.int p0), .val (.int p1), .val (.int p2), .val (.int p3), .val (.int p4), .val (.int p5), .val (.int (1 : Int32)), .val (.ref b246), .val (.int p1), .unset, .unset, .unset, .unset, .unset, .unset] [(.int (1 : Int32)), (.int (p5 &&& (65535 : Int32)))])) _
      refine XS.iadd X249.here hx rfl (hb hby at_98) rfl ?_
      show Steps p.tables e below (T249.setTop (mkF m 99 #[.val (.int p0), .val (.int p1), .val (.int p2), .val (.int p3), .val (.int p4), .val (.int p5), .val (.int (1 : Int32)), .val (.ref b246), .val (.int p1), .unset, .unset, .unset, .unset, .unset, .unset] [(.int ((p5 &&& (65535 : Int32)) + (1 : Int32)))])) _
      exact k
    obtain ⟨v253, hv253⟩ : ∃ z : Int32, z = ((p5 &&& (65535 : Int32)) + (1 : Int32)) := ⟨_, rfl⟩
    have pre254 : ∀ t, Steps p.tables e below (T249.setTop (mkF m 99 #[.val (.int p0), .val (.int p1), .val (.int p2), .val (.int p3), .val (.int p4), .val (.int p5), .val (.int (1 : Int32)), .val (.ref b246), .val (.int p1), .unset, .unset, .unset, .unset, .unset, .unset] [(.int v253)])) t → Steps p.tables e below (s₁.setTop (entryFrame m #[(.int p0), (.int p1), (.int p2), (.int p3), (.int p4), (.int p5)] maxLocals)) t := by rw [hv253]; exact pre252
    have pre255 : ∀ t, Steps p.tables e below (T249.setTop (mkF m 111 #[.val (.int p0), .val (.int p1), .val (.int p2), .val (.int p3), .val (.int p4), .val (.int p5), .val (.int (1 : Int32)), .val (.ref b246), .val (.int p1), .val (.int v253), .unset, .unset, .unset, .unset, .unset] [(.int ((((p5.toUInt32 >>> ((16 : Int32) &&& 31).toUInt32).toInt32) &&& (65535 : Int32)) + (1 : Int32)))])) t → Steps p.tables e below (s₁.setTop (entryFrame m #[(.int p0), (.int p1), (.int p2), (.int p3), (.int p4), (.int p5)] maxLocals)) t := by
      intro t k
      refine pre254 t ?_
      show Steps p.tables e below (T249.setTop (mkF m 99 #[.val (.int p0), .val (.int p1), .val (.int p2), .val (.int p3), .val (.int p4), .val (.int p5), .val (.int (1 : Int32)), .val (.ref b246), .val (.int p1), .unset, .unset, .unset, .unset, .unset, .unset] [(.int v253)])) _
      refine XS.istore X249.here hx rfl (hb hby at_99) rfl (l' := #[.val (.int p0), .val (.int p1), .val (.int p2), .val (.int p3), .val (.int p4), .val (.int p5), .val (.int (1 : Int32)), .val (.ref b246), .val (.int p1), .val (.int v253), .unset, .unset, .unset, .unset, .unset]) rfl ?_
      show Steps p.tables e below (T249.setTop (mkF m 101 #[.val (.int p0), .val (.int p1), .val (.int p2), .val (.int p3), .val (.int p4), .val (.int p5), .val (.int (1 : Int32)), .val (.ref b246), .val (.int p1), .val (.int v253), .unset, .unset, .unset, .unset, .unset] [])) _
      refine XS.iload X249.here hx rfl (hb hby at_101) rfl ?_
      show Steps p.tables e below (T249.setTop (mkF m 103 #[.val (.int p0), .val (.int p1), .val (.int p2), .val (.int p3), .val (.int p4), .val (.int p5), .val (.int (1 : Int32)), .val (.ref b246), .val (.int p1), .val (.int v253), .unset, .unset, .unset, .unset, .unset] [(.int p5)])) _
      refine XS.bipush X249.here hx rfl (hb hby at_103) ?_
      show Steps p.tables e below (T249.setTop (mkF m 105 #[.val (.int p0), .val (.int p1), .val (.int p2), .val (.int p3), .val (.int p4), .val (.int p5), .val (.int (1 : Int32)), .val (.ref b246), .val (.int p1), .val (.int v253), .unset, .unset, .unset, .unset, .unset] [(.int (16 : Int32)), (.int p5)])) _
      refine XS.iushr X249.here hx rfl (hb hby at_105) rfl ?_
      show Steps p.tables e below (T249.setTop (mkF m 106 #[.val (.int p0), .val (.int p1), .val (.int p2), .val (.int p3), .val (.int p4), .val (.int p5), .val (.int (1 : Int32)), .val (.ref b246), .val (.int p1), .val (.int v253), .unset, .unset, .unset, .unset, .unset] [(.int ((p5.toUInt32 >>> ((16 : Int32) &&& 31).toUInt32).toInt32))])) _
      refine X249.ldcInt hx hown (mvT hZ (hw _ (List.mem_of_getElem? (i := 1) rfl))) (g := (mkF m 106 #[.val (.int p0), .val (.int p1), .val (.int p2), .val (.int p3), .val (.int p4), .val (.int p5), .val (.int (1 : Int32)), .val (.ref b246), .val (.int p1), .val (.int v253), .unset, .unset, .unset, .unset, .unset] [(.int ((p5.toUInt32 >>> ((16 : Int32) &&& 31).toUInt32).toInt32))])) rfl (hb hby at_106) _ ?_
      show Steps p.tables e below (T249.setTop (mkF m 108 #[.val (.int p0), .val (.int p1), .val (.int p2), .val (.int p3), .val (.int p4), .val (.int p5), .val (.int (1 : Int32)), .val (.ref b246), .val (.int p1), .val (.int v253), .unset, .unset, .unset, .unset, .unset] [(.int (65535 : Int32)), (.int ((p5.toUInt32 >>> ((16 : Int32) &&& 31).toUInt32).toInt32))])) _
      refine XS.iand X249.here hx rfl (hb hby at_108) rfl ?_
      show Steps p.tables e below (T249.setTop (mkF m 109 #[.val (.int p0), .val (.int p1), .val (.int p2), .val (.int p3), .val (.int p4), .val (.int p5), .val (.int (1 : Int32)), .val (.ref b246), .val (.int p1), .val (.int v253), .unset, .unset, .unset, .unset, .unset] [(.int (((p5.toUInt32 >>> ((16 : Int32) &&& 31).toUInt32).toInt32) &&& (65535 : Int32)))])) _
      refine XS.iconst X249.here hx rfl (hb hby at_109) ?_
      show Steps p.tables e below (T249.setTop (mkF m 110 #[.val (.int p0), .val (.int p1), .val (.int p2), .val (.int p3), .val (.int p4), .val (.int p5), .val (.int (1 : Int32)), .val (.ref b246), .val (.int p1), .val (.int v253), .unset, .unset, .unset, .unset, .unset] [(.int (1 : Int32)), (.int (((p5.toUInt32 >>> ((16 : Int32) &&& 31).toUInt32).toInt32) &&& (65535 : Int32)))])) _
      refine XS.iadd X249.here hx rfl (hb hby at_110) rfl ?_
      show Steps p.tables e below (T249.setTop (mkF m 111 #[.val (.int p0), .val (.int p1), .val (.int p2), .val (.int p3), .val (.int p4), .val (.int p5), .val (.int (1 : Int32)), .val (.ref b246), .val (.int p1), .val (.int v253), .unset, .unset, .unset, .unset, .unset] [(.int ((((p5.toUInt32 >>> ((16 : Int32) &&& 31).toUInt32).toInt32) &&& (65535 : Int32)) + (1 : Int32)))])) _
      exact k
    obtain ⟨v256, hv256⟩ : ∃ z : Int32, z = ((((p5.toUInt32 >>> ((16 : Int32) &&& 31).toUInt32).toInt32) &&& (65535 : Int32)) + (1 : Int32)) := ⟨_, rfl⟩
    have pre257 : ∀ t, Steps p.tables e below (T249.setTop (mkF m 111 #[.val (.int p0), .val (.int p1), .val (.int p2), .val (.int p3), .val (.int p4), .val (.int p5), .val (.int (1 : Int32)), .val (.ref b246), .val (.int p1), .val (.int v253), .unset, .unset, .unset, .unset, .unset] [(.int v256)])) t → Steps p.tables e below (s₁.setTop (entryFrame m #[(.int p0), (.int p1), (.int p2), (.int p3), (.int p4), (.int p5)] maxLocals)) t := by rw [hv256]; exact pre255
    have pre258 : ∀ t, Steps p.tables e below (T249.setTop (mkF m 113 #[.val (.int p0), .val (.int p1), .val (.int p2), .val (.int p3), .val (.int p4), .val (.int p5), .val (.int (1 : Int32)), .val (.ref b246), .val (.int p1), .val (.int v253), .val (.int v256), .unset, .unset, .unset, .unset] [])) t → Steps p.tables e below (s₁.setTop (entryFrame m #[(.int p0), (.int p1), (.int p2), (.int p3), (.int p4), (.int p5)] maxLocals)) t := by
      intro t k
      refine pre257 t ?_
      show Steps p.tables e below (T249.setTop (mkF m 111 #[.val (.int p0), .val (.int p1), .val (.int p2), .val (.int p3), .val (.int p4), .val (.int p5), .val (.int (1 : Int32)), .val (.ref b246), .val (.int p1), .val (.int v253), .unset, .unset, .unset, .unset, .unset] [(.int v256)])) _
      refine XS.istore X249.here hx rfl (hb hby at_111) rfl (l' := #[.val (.int p0), .val (.int p1), .val (.int p2), .val (.int p3), .val (.int p4), .val (.int p5), .val (.int (1 : Int32)), .val (.ref b246), .val (.int p1), .val (.int v253), .val (.int v256), .unset, .unset, .unset, .unset]) rfl ?_
      show Steps p.tables e below (T249.setTop (mkF m 113 #[.val (.int p0), .val (.int p1), .val (.int p2), .val (.int p3), .val (.int p4), .val (.int p5), .val (.int (1 : Int32)), .val (.ref b246), .val (.int p1), .val (.int v253), .val (.int v256), .unset, .unset, .unset, .unset] [])) _
      exact k
    obtain ⟨T259, h259, X259, e259, E259, A259, D259, -, st259⟩ := newO X249 hx hZ hown (hw _ (List.mem_of_getElem? (i := 2) rfl)) (hw _ (List.mem_of_getElem? (i := 3) rfl)) (hw _ (List.mem_of_getElem? (i := 4) rfl)) e249 (g := (mkF m 113 #[.val (.int p0), .val (.int p1), .val (.int p2), .val (.int p3), .val (.int p4), .val (.int p5), .val (.int (1 : Int32)), .val (.ref b246), .val (.int p1), .val (.int v253), .val (.int v256), .unset, .unset, .unset, .unset] [])) rfl (hb hby at_113) (by decide) (by decide)
    obtain ⟨b259, g259⟩ : ∃ z, z = h249.size := ⟨_, rfl⟩
    rw [← g259] at A259 D259 st259
    have ne_b246_b259 : b246 ≠ b259 := Nat.ne_of_lt (Nat.lt_of_lt_of_le (Ef250).lt (Nat.le_of_eq g259.symm))
    have g_b259 : n0 ≤ b259 := Nat.le_trans Z249 (Nat.le_of_eq g259.symm)
    have sz_b259 : h0.size ≤ b259 := Nat.le_trans K249.1 (Nat.le_of_eq g259.symm)
    have Z259 : n0 ≤ h259.size := Nat.le_trans Z249 E259.1
    have K259 : Keep h0 h259 [] := K249.ext E259
    have Ef260 : Exa Z h259 b246 "[I" := (Ef250).ext E259
    have Vf261 : Arv Z h259 b246 k246 .int (1 : Int32) [(.int p1)] (.int (0 : Int32)) := (V249).ext E259
    have Fnumber_b259 : Fld Z h259 b259 "com/example/timely_exodus/timelyexodus/plan/Vehicle" "number" "I" (.int (0 : Int32)) := D259 (Or.inr (hw _ (List.mem_of_getElem? (i := 12) rfl))) (ty := .int) (by decide)
    have FdeparturePeriod_b259 : Fld Z h259 b259 "com/example/timely_exodus/timelyexodus/plan/Vehicle" "departurePeriod" "I" (.int (0 : Int32)) := D259 (Or.inr (hw _ (List.mem_of_getElem? (i := 14) rfl))) (ty := .int) (by decide)
    have Froute_b259 : Fld Z h259 b259 "com/example/timely_exodus/timelyexodus/plan/Vehicle" "route" "[I" .null := D259 (Or.inr (hw _ (List.mem_of_getElem? (i := 25) rfl))) (ty := (.array .int)) (by decide)
    have pre262 : ∀ t, Steps p.tables e below (T259.setTop (mkF m 116 #[.val (.int p0), .val (.int p1), .val (.int p2), .val (.int p3), .val (.int p4), .val (.int p5), .val (.int (1 : Int32)), .val (.ref b246), .val (.int p1), .val (.int v253), .val (.int v256), .unset, .unset, .unset, .unset] [(.ref b259)])) t → Steps p.tables e below (s₁.setTop (entryFrame m #[(.int p0), (.int p1), (.int p2), (.int p3), (.int p4), (.int p5)] maxLocals)) t := fun t k => pre258 t (st259 t k)
    have pre263 : ∀ t, Steps p.tables e below (T259.setTop (mkF m 123 #[.val (.int p0), .val (.int p1), .val (.int p2), .val (.int p3), .val (.int p4), .val (.int p5), .val (.int (1 : Int32)), .val (.ref b246), .val (.int p1), .val (.int v253), .val (.int v256), .unset, .unset, .unset, .unset] [(.ref b246), (.int v256), (.int v253), (.ref b259), (.ref b259)])) t → Steps p.tables e below (s₁.setTop (entryFrame m #[(.int p0), (.int p1), (.int p2), (.int p3), (.int p4), (.int p5)] maxLocals)) t := by
      intro t k
      refine pre262 t ?_
      show Steps p.tables e below (T259.setTop (mkF m 116 #[.val (.int p0), .val (.int p1), .val (.int p2), .val (.int p3), .val (.int p4), .val (.int p5), .val (.int (1 : Int32)), .val (.ref b246), .val (.int p1), .val (.int v253), .val (.int v256), .unset, .unset, .unset, .unset] [(.ref b259)])) _
      refine XS.dup X259.here hx rfl (hb hby at_116) rfl rfl ?_
      show Steps p.tables e below (T259.setTop (mkF m 117 #[.val (.int p0), .val (.int p1), .val (.int p2), .val (.int p3), .val (.int p4), .val (.int p5), .val (.int (1 : Int32)), .val (.ref b246), .val (.int p1), .val (.int v253), .val (.int v256), .unset, .unset, .unset, .unset] [(.ref b259), (.ref b259)])) _
      refine XS.iload X259.here hx rfl (hb hby at_117) rfl ?_
      show Steps p.tables e below (T259.setTop (mkF m 119 #[.val (.int p0), .val (.int p1), .val (.int p2), .val (.int p3), .val (.int p4), .val (.int p5), .val (.int (1 : Int32)), .val (.ref b246), .val (.int p1), .val (.int v253), .val (.int v256), .unset, .unset, .unset, .unset] [(.int v253), (.ref b259), (.ref b259)])) _
      refine XS.iload X259.here hx rfl (hb hby at_119) rfl ?_
      show Steps p.tables e below (T259.setTop (mkF m 121 #[.val (.int p0), .val (.int p1), .val (.int p2), .val (.int p3), .val (.int p4), .val (.int p5), .val (.int (1 : Int32)), .val (.ref b246), .val (.int p1), .val (.int v253), .val (.int v256), .unset, .unset, .unset, .unset] [(.int v256), (.int v253), (.ref b259), (.ref b259)])) _
      refine XS.aload X259.here hx rfl (hb hby at_121) rfl rfl ?_
      show Steps p.tables e below (T259.setTop (mkF m 123 #[.val (.int p0), .val (.int p1), .val (.int p2), .val (.int p3), .val (.int p4), .val (.int p5), .val (.int (1 : Int32)), .val (.ref b246), .val (.int p1), .val (.int v253), .val (.int v256), .unset, .unset, .unset, .unset] [(.ref b246), (.int v256), (.int v253), (.ref b259), (.ref b259)])) _
      exact k
    obtain ⟨_, _, ⟨T264, L264, k264, n264⟩, -, X264, ⟨Lc264, hQ264, l264, y264, z264⟩, st264⟩ := X259.specialBack hx (y := (⟨"com/example/timely_exodus/timelyexodus/plan/Vehicle", "<init>", "(II[I)V"⟩ : MethodName)) rfl hown (mvT hZ (hw _ (List.mem_of_getElem? (i := 5) rfl))) (mvT hZ (hw _ (List.mem_of_getElem? (i := 6) rfl))) (mvT hZ (hw _ (List.mem_of_getElem? (i := 7) rfl))) (by decide) (backOf (W := 1) (rm1_n1 l Z ar0 hw [] b259 v253 v256 b246 k246 p1 (0 : Int32) .null (0 : Int32) h259 n0 Z259 Vf261 Ef260 FdeparturePeriod_b259 Froute_b259 (own_posA hv253) (own_posB hv256) A259 Fnumber_b259 g_b259 ne_b246_b259) hZ (hw _ (List.mem_of_getElem? (i := 7) rfl)) (hw _ (List.mem_of_getElem? (i := 4) rfl)) (by decide) (by decide)) (g := (mkF m 123 #[.val (.int p0), .val (.int p1), .val (.int p2), .val (.int p3), .val (.int p4), .val (.int p5), .val (.int (1 : Int32)), .val (.ref b246), .val (.int p1), .val (.int v253), .val (.int v256), .unset, .unset, .unset, .unset] [(.ref b246), (.int v256), (.int v253), (.ref b259), (.ref b259)])) rfl (by rw [hml]; rfl) (Steps.refl _) (a := b259) (argsL := [(.int v253), (.int v256), (.ref b246)]) (rest := [(.ref b259)]) (lenOf pd_0 rfl) rfl (by show 2 * 0 + _ ≤ _; exact Nat.le_of_eq rfl) (hb hby at_123) (fun _ _ => ⟨rfl, e259, (by decide : 2 + 1 ≤ _), (by decide : 4 + 1 ≤ _)⟩)
    dsimp only [Pt.U, Pt.locs, Pt.cells, Pt.slots] at X264 l264 y264 z264 st264 hQ264
    subst l264 y264 z264
    obtain ⟨h264, e264⟩ : ∃ h, T264.heap = h := ⟨_, rfl⟩
    rw [e264] at hQ264
    obtain ⟨b264, kb264, rfl, N264q, K264q, Q264_0, Q264_1, Q264_2, Q264_3, y_b264, Ob264_0, Ob264_1⟩ := hQ264
    have N264 := Fr.app N249 N264q
    have ne_b246_b264 : b246 ≠ b264 := Nat.ne_of_lt (Nat.lt_of_lt_of_le (Ef260).lt y_b264)
    have ne_b259_b264 : b259 ≠ b264 := Nat.ne_of_lt (Nat.lt_of_lt_of_le (A259).lt y_b264)
    have g_b264 : n0 ≤ b264 := Nat.le_trans Z259 y_b264
    have sz_b264 : h0.size ≤ b264 := Nat.le_trans K259.1 y_b264
    have Z264 : n0 ≤ h264.size := Nat.le_trans Z259 K264q.1
    have K264 : Keep h0 h264 [] := K259.trans K264q (fun x hx => by cases List.mem_singleton.mp hx; exact Or.inr sz_b259)
    have Ef265 : Exa Z h264 b246 "[I" := (Ef260).keep K264q
    have Vf266 : Arv Z h264 b246 k246 .int (1 : Int32) [(.int p1)] (.int (0 : Int32)) := (Vf261).keep K264q (fun q => absurd (List.mem_singleton.mp q) ne_b246_b259)
    have Ef267 : Exa Z h264 b259 "com/example/timely_exodus/timelyexodus/plan/Vehicle" := (A259).keep K264q
    have pre268 : ∀ t, Steps p.tables e below (T264.setTop (mkF m 126 #[.val (.int p0), .val (.int p1), .val (.int p2), .val (.int p3), .val (.int p4), .val (.int p5), .val (.int (1 : Int32)), .val (.ref b246), .val (.int p1), .val (.int v253), .val (.int v256), .unset, .unset, .unset, .unset] [(.ref b259)])) t → Steps p.tables e below (s₁.setTop (entryFrame m #[(.int p0), (.int p1), (.int p2), (.int p3), (.int p4), (.int p5)] maxLocals)) t := fun t k => pre263 t (st264.trans k)
    have pre269 : ∀ t, Steps p.tables e below (T264.setTop (mkF m 130 #[.val (.int p0), .val (.int p1), .val (.int p2), .val (.int p3), .val (.int p4), .val (.int p5), .val (.int (1 : Int32)), .val (.ref b246), .val (.int p1), .val (.int v253), .val (.int v256), .val (.ref b259), .unset, .unset, .unset] [(.ref b259)])) t → Steps p.tables e below (s₁.setTop (entryFrame m #[(.int p0), (.int p1), (.int p2), (.int p3), (.int p4), (.int p5)] maxLocals)) t := by
      intro t k
      refine pre268 t ?_
      show Steps p.tables e below (T264.setTop (mkF m 126 #[.val (.int p0), .val (.int p1), .val (.int p2), .val (.int p3), .val (.int p4), .val (.int p5), .val (.int (1 : Int32)), .val (.ref b246), .val (.int p1), .val (.int v253), .val (.int v256), .unset, .unset, .unset, .unset] [(.ref b259)])) _
      refine XS.astore X264.here hx rfl (hb hby at_126) rfl rfl (l' := #[.val (.int p0), .val (.int p1), .val (.int p2), .val (.int p3), .val (.int p4), .val (.int p5), .val (.int (1 : Int32)), .val (.ref b246), .val (.int p1), .val (.int v253), .val (.int v256), .val (.ref b259), .unset, .unset, .unset]) rfl ?_
      show Steps p.tables e below (T264.setTop (mkF m 128 #[.val (.int p0), .val (.int p1), .val (.int p2), .val (.int p3), .val (.int p4), .val (.int p5), .val (.int (1 : Int32)), .val (.ref b246), .val (.int p1), .val (.int v253), .val (.int v256), .val (.ref b259), .unset, .unset, .unset] [])) _
      refine XS.aload X264.here hx rfl (hb hby at_128) rfl rfl ?_
      show Steps p.tables e below (T264.setTop (mkF m 130 #[.val (.int p0), .val (.int p1), .val (.int p2), .val (.int p3), .val (.int p4), .val (.int p5), .val (.int (1 : Int32)), .val (.ref b246), .val (.int p1), .val (.int v253), .val (.int v256), .val (.ref b259), .unset, .unset, .unset] [(.ref b259)])) _
      exact k
    obtain ⟨cq270, kq270, q270a, q270b, q270c⟩ := isOf hZ e264 Q264_0
    obtain ⟨_, _, ⟨T270, L270, k270, n270⟩, -, X270, ⟨Lc270, hQ270, l270, y270, z270⟩, st270⟩ := X264.virtualBack hx (y := (⟨"com/example/timely_exodus/timelyexodus/plan/Vehicle", "getExitCell", "()I"⟩ : MethodName)) (z := (⟨"com/example/timely_exodus/timelyexodus/plan/Vehicle", "getExitCell", "()I"⟩ : MethodName)) hown (mvT hZ (hw _ (List.mem_of_getElem? (i := 26) rfl))) (mvT hZ (hw _ (List.mem_of_getElem? (i := 27) rfl))) (notFace_of_selects (args := #[]) (mvT hZ (hw _ (List.mem_of_getElem? (i := 29) rfl)))) (mvT hZ (hw _ (List.mem_of_getElem? (i := 29) rfl))) (mvT hZ (hw _ (List.mem_of_getElem? (i := 28) rfl))) (by decide) (backOf (W := 0) (rm3_n1 l Z ar0 hw [] b259 b264 kb264 p1 h264 n0 Z264 Q264_3 Ob264_0) hZ (hw _ (List.mem_of_getElem? (i := 30) rfl)) (hw _ (List.mem_of_getElem? (i := 4) rfl)) (by decide) (by decide)) q270a q270c (g := (mkF m 130 #[.val (.int p0), .val (.int p1), .val (.int p2), .val (.int p3), .val (.int p4), .val (.int p5), .val (.int (1 : Int32)), .val (.ref b246), .val (.int p1), .val (.int v253), .val (.int v256), .val (.ref b259), .unset, .unset, .unset] [(.ref b259)])) rfl (by rw [hml]; rfl) (Steps.refl _) (argsL := []) (rest := []) (lenOf pd_1 rfl) rfl (by show 2 * 0 + _ ≤ _; exact Nat.le_of_eq rfl) (hb hby at_130) (fun _ _ => ⟨rfl, e264, (by decide : 3 + 0 ≤ _), (by decide : 5 + 0 ≤ _)⟩)
    dsimp only [Pt.U, Pt.locs, Pt.cells, Pt.slots] at X270 l270 y270 z270 st270 hQ270
    subst l270 y270 z270
    obtain ⟨rfl, N270q, e270⟩ := hQ270
    have N270 := Fr.app N264 N270q
    have pre271 : ∀ t, Steps p.tables e below (T270.setTop (mkF m 133 #[.val (.int p0), .val (.int p1), .val (.int p2), .val (.int p3), .val (.int p4), .val (.int p5), .val (.int (1 : Int32)), .val (.ref b246), .val (.int p1), .val (.int v253), .val (.int v256), .val (.ref b259), .unset, .unset, .unset] [(.int p1)])) t → Steps p.tables e below (s₁.setTop (entryFrame m #[(.int p0), (.int p1), (.int p2), (.int p3), (.int p4), (.int p5)] maxLocals)) t := fun t k => pre269 t (st270.trans k)
    have pre272 : ∀ t, Steps p.tables e below (T270.setTop (mkF m 155 #[.val (.int p0), .val (.int p1), .val (.int p2), .val (.int p3), .val (.int p4), .val (.int p5), .val (.int (1 : Int32)), .val (.ref b246), .val (.int p1), .val (.int v253), .val (.int v256), .val (.ref b259), .val (.int (1 : Int32)), .unset, .unset] [(.int (p1 ^^^ (-1 : Int32))), (.int (0 : Int32)), (.ref b246)])) t → Steps p.tables e below (s₁.setTop (entryFrame m #[(.int p0), (.int p1), (.int p2), (.int p3), (.int p4), (.int p5)] maxLocals)) t := by
      intro t k
      refine pre271 t ?_
      show Steps p.tables e below (T270.setTop (mkF m 133 #[.val (.int p0), .val (.int p1), .val (.int p2), .val (.int p3), .val (.int p4), .val (.int p5), .val (.int (1 : Int32)), .val (.ref b246), .val (.int p1), .val (.int v253), .val (.int v256), .val (.ref b259), .unset, .unset, .unset] [(.int p1)])) _
      refine XS.iload X270.here hx rfl (hb hby at_133) rfl ?_
      show Steps p.tables e below (T270.setTop (mkF m 135 #[.val (.int p0), .val (.int p1), .val (.int p2), .val (.int p3), .val (.int p4), .val (.int p5), .val (.int (1 : Int32)), .val (.ref b246), .val (.int p1), .val (.int v253), .val (.int v256), .val (.ref b259), .unset, .unset, .unset] [(.int p1), (.int p1)])) _
      show Steps p.tables e below (T270.setTop (mkF m 135 #[.val (.int p0), .val (.int p1), .val (.int p2), .val (.int p3), .val (.int p4), .val (.int p5), .val (.int (1 : Int32)), .val (.ref b246), .val (.int p1), .val (.int v253), .val (.int v256), .val (.ref b259), .unset, .unset, .unset] [(.int p1), (.int p1)])) _
      refine XS.icmpNo X270.here hx rfl (hb hby at_135) rfl (teq (rfl : p1 = p1)).2 ?_
      show Steps p.tables e below (T270.setTop (mkF m 138 #[.val (.int p0), .val (.int p1), .val (.int p2), .val (.int p3), .val (.int p4), .val (.int p5), .val (.int (1 : Int32)), .val (.ref b246), .val (.int p1), .val (.int v253), .val (.int v256), .val (.ref b259), .unset, .unset, .unset] [])) _
      refine XS.iconst X270.here hx rfl (hb hby at_138) ?_
      show Steps p.tables e below (T270.setTop (mkF m 139 #[.val (.int p0), .val (.int p1), .val (.int p2), .val (.int p3), .val (.int p4), .val (.int p5), .val (.int (1 : Int32)), .val (.ref b246), .val (.int p1), .val (.int v253), .val (.int v256), .val (.ref b259), .unset, .unset, .unset] [(.int (1 : Int32))])) _
      refine XS.goto X270.here hx rfl (pc0 := 139) (pc' := 143) rfl (hb hby at_139) (by decide) (by decide) ?_
      show Steps p.tables e below (T270.setTop (mkF m 143 #[.val (.int p0), .val (.int p1), .val (.int p2), .val (.int p3), .val (.int p4), .val (.int p5), .val (.int (1 : Int32)), .val (.ref b246), .val (.int p1), .val (.int v253), .val (.int v256), .val (.ref b259), .unset, .unset, .unset] [(.int (1 : Int32))])) _
      refine XS.istore X270.here hx rfl (hb hby at_143) rfl (l' := #[.val (.int p0), .val (.int p1), .val (.int p2), .val (.int p3), .val (.int p4), .val (.int p5), .val (.int (1 : Int32)), .val (.ref b246), .val (.int p1), .val (.int v253), .val (.int v256), .val (.ref b259), .val (.int (1 : Int32)), .unset, .unset]) rfl ?_
      show Steps p.tables e below (T270.setTop (mkF m 145 #[.val (.int p0), .val (.int p1), .val (.int p2), .val (.int p3), .val (.int p4), .val (.int p5), .val (.int (1 : Int32)), .val (.ref b246), .val (.int p1), .val (.int v253), .val (.int v256), .val (.ref b259), .val (.int (1 : Int32)), .unset, .unset] [])) _
      refine XS.aload X270.here hx rfl (hb hby at_145) rfl rfl ?_
      show Steps p.tables e below (T270.setTop (mkF m 147 #[.val (.int p0), .val (.int p1), .val (.int p2), .val (.int p3), .val (.int p4), .val (.int p5), .val (.int (1 : Int32)), .val (.ref b246), .val (.int p1), .val (.int v253), .val (.int v256), .val (.ref b259), .val (.int (1 : Int32)), .unset, .unset] [(.ref b246)])) _
      refine XS.iload X270.here hx rfl (hb hby at_147) rfl ?_
      show Steps p.tables e below (T270.setTop (mkF m 149 #[.val (.int p0), .val (.int p1), .val (.int p2), .val (.int p3), .val (.int p4), .val (.int p5), .val (.int (1 : Int32)), .val (.ref b246), .val (.int p1), .val (.int v253), .val (.int v256), .val (.ref b259), .val (.int (1 : Int32)), .unset, .unset] [(.int (1 : Int32)), (.ref b246)])) _
      refine XS.iconst X270.here hx rfl (hb hby at_149) ?_
      show Steps p.tables e below (T270.setTop (mkF m 150 #[.val (.int p0), .val (.int p1), .val (.int p2), .val (.int p3), .val (.int p4), .val (.int p5), .val (.int (1 : Int32)), .val (.ref b246), .val (.int p1), .val (.int v253), .val (.int v256), .val (.ref b259), .val (.int (1 : Int32)), .unset, .unset] [(.int (1 : Int32)), (.int (1 : Int32)), (.ref b246)])) _
      refine XS.isub X270.here hx rfl (hb hby at_150) rfl ?_
      show Steps p.tables e below (T270.setTop (mkF m 151 #[.val (.int p0), .val (.int p1), .val (.int p2), .val (.int p3), .val (.int p4), .val (.int p5), .val (.int (1 : Int32)), .val (.ref b246), .val (.int p1), .val (.int v253), .val (.int v256), .val (.ref b259), .val (.int (1 : Int32)), .unset, .unset] [(.int (0 : Int32)), (.ref b246)])) _
      refine XS.iload X270.here hx rfl (hb hby at_151) rfl ?_
      show Steps p.tables e below (T270.setTop (mkF m 153 #[.val (.int p0), .val (.int p1), .val (.int p2), .val (.int p3), .val (.int p4), .val (.int p5), .val (.int (1 : Int32)), .val (.ref b246), .val (.int p1), .val (.int v253), .val (.int v256), .val (.ref b259), .val (.int (1 : Int32)), .unset, .unset] [(.int p1), (.int (0 : Int32)), (.ref b246)])) _
      refine XS.iconst X270.here hx rfl (hb hby at_153) ?_
      show Steps p.tables e below (T270.setTop (mkF m 154 #[.val (.int p0), .val (.int p1), .val (.int p2), .val (.int p3), .val (.int p4), .val (.int p5), .val (.int (1 : Int32)), .val (.ref b246), .val (.int p1), .val (.int v253), .val (.int v256), .val (.ref b259), .val (.int (1 : Int32)), .unset, .unset] [(.int (-1 : Int32)), (.int p1), (.int (0 : Int32)), (.ref b246)])) _
      refine XS.ixor X270.here hx rfl (hb hby at_154) rfl ?_
      show Steps p.tables e below (T270.setTop (mkF m 155 #[.val (.int p0), .val (.int p1), .val (.int p2), .val (.int p3), .val (.int p4), .val (.int p5), .val (.int (1 : Int32)), .val (.ref b246), .val (.int p1), .val (.int v253), .val (.int v256), .val (.ref b259), .val (.int (1 : Int32)), .unset, .unset] [(.int (p1 ^^^ (-1 : Int32))), (.int (0 : Int32)), (.ref b246)])) _
      exact k
    obtain ⟨cl273, Ar273, q273, S273, M273, H273, G273⟩ := id Vf266
    have hin273 : ¬ ((0 : Int32) < 0 ∨ cl273.slots.size ≤ ((0 : Int32)).toNatClampNeg) := inb_of S273 ⟨by decide, by decide⟩
    obtain ⟨T273, h273, X273, e273, W273, st273⟩ := stI X270 hx hZ e270 Ar273 (j := (0 : Int32)) hin273 (g := (mkF m 155 #[.val (.int p0), .val (.int p1), .val (.int p2), .val (.int p3), .val (.int p4), .val (.int p5), .val (.int (1 : Int32)), .val (.ref b246), .val (.int p1), .val (.int v253), .val (.int v256), .val (.ref b259), .val (.int (1 : Int32)), .unset, .unset] [(.int (p1 ^^^ (-1 : Int32))), (.int (0 : Int32)), (.ref b246)])) rfl rfl (hb hby at_155)
    have Z273 : n0 ≤ h273.size := Nat.le_trans Z264 (Keep.of_wr W273).1
    have K273 : Keep h0 h273 [] := K264.wr W273 (Or.inr sz_b246)
    have N273 := Fr.snoc X273 N270 g_b246
    have Ef274 : Exa Z h273 b246 "[I" := (Ef265).wr W273
    have Ef275 : Exa Z h273 b259 "com/example/timely_exodus/timelyexodus/plan/Vehicle" := (Q264_0).wr W273
    have Ff276 : Fld Z h273 b259 "com/example/timely_exodus/timelyexodus/plan/Vehicle" "number" "I" (.int v253) := (Q264_1).other W273 (Or.inl ne_b246_b259.symm)
    have Ff277 : Fld Z h273 b259 "com/example/timely_exodus/timelyexodus/plan/Vehicle" "departurePeriod" "I" (.int v256) := (Q264_2).other W273 (Or.inl ne_b246_b259.symm)
    have Ff278 : Fld Z h273 b259 "com/example/timely_exodus/timelyexodus/plan/Vehicle" "route" "[I" (.ref b264) := (Q264_3).other W273 (Or.inl ne_b246_b259.symm)
    have Vf279 : Arv Z h273 b264 kb264 .int (1 : Int32) [(.int p1)] (.int (0 : Int32)) := (Ob264_0).other W273 ne_b246_b264.symm
    have Ef280 : Exa Z h273 b264 "[I" := (Ob264_1).wr W273
    have V273 : Arv Z h273 b246 k246 .int (1 : Int32) [(.int (p1 ^^^ (-1 : Int32)))] (.int (0 : Int32)) := Arv.set Ar273 q273 S273 M273 H273 G273 rfl W273 0 rfl (Nat.le_of_ble_eq_true rfl)
    have pre281 : ∀ t, Steps p.tables e below (T273.setTop (mkF m 156 #[.val (.int p0), .val (.int p1), .val (.int p2), .val (.int p3), .val (.int p4), .val (.int p5), .val (.int (1 : Int32)), .val (.ref b246), .val (.int p1), .val (.int v253), .val (.int v256), .val (.ref b259), .val (.int (1 : Int32)), .unset, .unset] [])) t → Steps p.tables e below (s₁.setTop (entryFrame m #[(.int p0), (.int p1), (.int p2), (.int p3), (.int p4), (.int p5)] maxLocals)) t := fun t k => pre272 t (st273 t k)
    have pre282 : ∀ t, Steps p.tables e below (T273.setTop (mkF m 158 #[.val (.int p0), .val (.int p1), .val (.int p2), .val (.int p3), .val (.int p4), .val (.int p5), .val (.int (1 : Int32)), .val (.ref b246), .val (.int p1), .val (.int v253), .val (.int v256), .val (.ref b259), .val (.int (1 : Int32)), .unset, .unset] [(.ref b259)])) t → Steps p.tables e below (s₁.setTop (entryFrame m #[(.int p0), (.int p1), (.int p2), (.int p3), (.int p4), (.int p5)] maxLocals)) t := by
      intro t k
      refine pre281 t ?_
      show Steps p.tables e below (T273.setTop (mkF m 156 #[.val (.int p0), .val (.int p1), .val (.int p2), .val (.int p3), .val (.int p4), .val (.int p5), .val (.int (1 : Int32)), .val (.ref b246), .val (.int p1), .val (.int v253), .val (.int v256), .val (.ref b259), .val (.int (1 : Int32)), .unset, .unset] [])) _
      refine XS.aload X273.here hx rfl (hb hby at_156) rfl rfl ?_
      show Steps p.tables e below (T273.setTop (mkF m 158 #[.val (.int p0), .val (.int p1), .val (.int p2), .val (.int p3), .val (.int p4), .val (.int p5), .val (.int (1 : Int32)), .val (.ref b246), .val (.int p1), .val (.int v253), .val (.int v256), .val (.ref b259), .val (.int (1 : Int32)), .unset, .unset] [(.ref b259)])) _
      exact k
    obtain ⟨cq283, kq283, q283a, q283b, q283c⟩ := isOf hZ e273 Ef275
    obtain ⟨_, _, ⟨T283, L283, k283, n283⟩, -, X283, ⟨Lc283, hQ283, l283, y283, z283⟩, st283⟩ := X273.virtualBack hx (y := (⟨"com/example/timely_exodus/timelyexodus/plan/Vehicle", "getRoute", "()[I"⟩ : MethodName)) (z := (⟨"com/example/timely_exodus/timelyexodus/plan/Vehicle", "getRoute", "()[I"⟩ : MethodName)) hown (mvT hZ (hw _ (List.mem_of_getElem? (i := 31) rfl))) (mvT hZ (hw _ (List.mem_of_getElem? (i := 32) rfl))) (notFace_of_selects (args := #[]) (mvT hZ (hw _ (List.mem_of_getElem? (i := 34) rfl)))) (mvT hZ (hw _ (List.mem_of_getElem? (i := 34) rfl))) (mvT hZ (hw _ (List.mem_of_getElem? (i := 33) rfl))) (by decide) (backOf (W := 0) (rm4_n1 l Z ar0 hw [] b259 b264 kb264 p1 h273 n0 Z273 Ff278 Vf279 Ef280) hZ (hw _ (List.mem_of_getElem? (i := 35) rfl)) (hw _ (List.mem_of_getElem? (i := 4) rfl)) (by decide) (by decide)) q283a q283c (g := (mkF m 158 #[.val (.int p0), .val (.int p1), .val (.int p2), .val (.int p3), .val (.int p4), .val (.int p5), .val (.int (1 : Int32)), .val (.ref b246), .val (.int p1), .val (.int v253), .val (.int v256), .val (.ref b259), .val (.int (1 : Int32)), .unset, .unset] [(.ref b259)])) rfl (by rw [hml]; rfl) (Steps.refl _) (argsL := []) (rest := []) (lenOf pd_2 rfl) rfl (by show 2 * 0 + _ ≤ _; exact Nat.le_of_eq rfl) (hb hby at_158) (fun _ _ => ⟨rfl, e273, (by decide : 3 + 1 ≤ _), (by decide : 5 + 1 ≤ _)⟩)
    dsimp only [Pt.U, Pt.locs, Pt.cells, Pt.slots] at X283 l283 y283 z283 st283 hQ283
    subst l283 y283 z283
    obtain ⟨h283, e283⟩ : ∃ h, T283.heap = h := ⟨_, rfl⟩
    rw [e283] at hQ283
    obtain ⟨b283, kb283, rfl, N283q, K283q, y_b283, Ob283_0, Ob283_1⟩ := hQ283
    have N283 := Fr.app N273 N283q
    have ne_b246_b283 : b246 ≠ b283 := Nat.ne_of_lt (Nat.lt_of_lt_of_le (Ef274).lt y_b283)
    have ne_b259_b283 : b259 ≠ b283 := Nat.ne_of_lt (Nat.lt_of_lt_of_le (Ef275).lt y_b283)
    have ne_b264_b283 : b264 ≠ b283 := Nat.ne_of_lt (Nat.lt_of_lt_of_le (Vf279).lt y_b283)
    have g_b283 : n0 ≤ b283 := Nat.le_trans Z273 y_b283
    have sz_b283 : h0.size ≤ b283 := Nat.le_trans K273.1 y_b283
    have Z283 : n0 ≤ h283.size := Nat.le_trans Z273 K283q.1
    have K283 : Keep h0 h283 [] := K273.trans K283q (fun x hx => absurd hx List.not_mem_nil)
    have Ef284 : Exa Z h283 b246 "[I" := (Ef274).keep K283q
    have Ef285 : Exa Z h283 b259 "com/example/timely_exodus/timelyexodus/plan/Vehicle" := (Ef275).keep K283q
    have Ff286 : Fld Z h283 b259 "com/example/timely_exodus/timelyexodus/plan/Vehicle" "number" "I" (.int v253) := (Ff276).keep K283q List.not_mem_nil
    have Ff287 : Fld Z h283 b259 "com/example/timely_exodus/timelyexodus/plan/Vehicle" "departurePeriod" "I" (.int v256) := (Ff277).keep K283q List.not_mem_nil
    have Ff288 : Fld Z h283 b259 "com/example/timely_exodus/timelyexodus/plan/Vehicle" "route" "[I" (.ref b264) := (Ff278).keep K283q List.not_mem_nil
    have Vf289 : Arv Z h283 b264 kb264 .int (1 : Int32) [(.int p1)] (.int (0 : Int32)) := (Vf279).keep K283q List.not_mem_nil
    have Ef290 : Exa Z h283 b264 "[I" := (Ef280).keep K283q
    have Vf291 : Arv Z h283 b246 k246 .int (1 : Int32) [(.int (p1 ^^^ (-1 : Int32)))] (.int (0 : Int32)) := (V273).keep K283q List.not_mem_nil
    have pre292 : ∀ t, Steps p.tables e below (T283.setTop (mkF m 161 #[.val (.int p0), .val (.int p1), .val (.int p2), .val (.int p3), .val (.int p4), .val (.int p5), .val (.int (1 : Int32)), .val (.ref b246), .val (.int p1), .val (.int v253), .val (.int v256), .val (.ref b259), .val (.int (1 : Int32)), .unset, .unset] [(.ref b283)])) t → Steps p.tables e below (s₁.setTop (entryFrame m #[(.int p0), (.int p1), (.int p2), (.int p3), (.int p4), (.int p5)] maxLocals)) t := fun t k => pre282 t (st283.trans k)
    have pre293 : ∀ t, Steps p.tables e below (T283.setTop (mkF m 165 #[.val (.int p0), .val (.int p1), .val (.int p2), .val (.int p3), .val (.int p4), .val (.int p5), .val (.int (1 : Int32)), .val (.ref b246), .val (.int p1), .val (.int v253), .val (.int v256), .val (.ref b259), .val (.int (1 : Int32)), .val (.ref b283), .unset] [(.ref b283)])) t → Steps p.tables e below (s₁.setTop (entryFrame m #[(.int p0), (.int p1), (.int p2), (.int p3), (.int p4), (.int p5)] maxLocals)) t := by
      intro t k
      refine pre292 t ?_
      show Steps p.tables e below (T283.setTop (mkF m 161 #[.val (.int p0), .val (.int p1), .val (.int p2), .val (.int p3), .val (.int p4), .val (.int p5), .val (.int (1 : Int32)), .val (.ref b246), .val (.int p1), .val (.int v253), .val (.int v256), .val (.ref b259), .val (.int (1 : Int32)), .unset, .unset] [(.ref b283)])) _
      refine XS.astore X283.here hx rfl (hb hby at_161) rfl rfl (l' := #[.val (.int p0), .val (.int p1), .val (.int p2), .val (.int p3), .val (.int p4), .val (.int p5), .val (.int (1 : Int32)), .val (.ref b246), .val (.int p1), .val (.int v253), .val (.int v256), .val (.ref b259), .val (.int (1 : Int32)), .val (.ref b283), .unset]) rfl ?_
      show Steps p.tables e below (T283.setTop (mkF m 163 #[.val (.int p0), .val (.int p1), .val (.int p2), .val (.int p3), .val (.int p4), .val (.int p5), .val (.int (1 : Int32)), .val (.ref b246), .val (.int p1), .val (.int v253), .val (.int v256), .val (.ref b259), .val (.int (1 : Int32)), .val (.ref b283), .unset] [])) _
      refine XS.aload X283.here hx rfl (hb hby at_163) rfl rfl ?_
      show Steps p.tables e below (T283.setTop (mkF m 165 #[.val (.int p0), .val (.int p1), .val (.int p2), .val (.int p3), .val (.int p4), .val (.int p5), .val (.int (1 : Int32)), .val (.ref b246), .val (.int p1), .val (.int v253), .val (.int v256), .val (.ref b259), .val (.int (1 : Int32)), .val (.ref b283), .unset] [(.ref b283)])) _
      exact k
    obtain ⟨cl294, Ar294, q294, S294, M294, H294, G294⟩ := id Ob283_0
    have pre295 : ∀ t, Steps p.tables e below (T283.setTop (mkF m 183 #[.val (.int p0), .val (.int p1), .val (.int p2), .val (.int p3), .val (.int p4), .val (.int p5), .val (.int (1 : Int32)), .val (.ref b246), .val (.int p1), .val (.int v253), .val (.int v256), .val (.ref b259), .val (.int (1 : Int32)), .val (.ref b283), .unset] [(.int (p1 ^^^ (-1 : Int32))), (.int (0 : Int32)), (.ref b283)])) t → Steps p.tables e below (s₁.setTop (entryFrame m #[(.int p0), (.int p1), (.int p2), (.int p3), (.int p4), (.int p5)] maxLocals)) t := by
      intro t k
      refine pre293 t ?_
      show Steps p.tables e below (T283.setTop (mkF m 165 #[.val (.int p0), .val (.int p1), .val (.int p2), .val (.int p3), .val (.int p4), .val (.int p5), .val (.int (1 : Int32)), .val (.ref b246), .val (.int p1), .val (.int v253), .val (.int v256), .val (.ref b259), .val (.int (1 : Int32)), .val (.ref b283), .unset] [(.ref b283)])) _
      refine X283.arraylength hx (by rw [e283]; exact Ar294.1) (State.isArrayOf_alike hZ.alike Ar294.2.1) (g := (mkF m 165 #[.val (.int p0), .val (.int p1), .val (.int p2), .val (.int p3), .val (.int p4), .val (.int p5), .val (.int (1 : Int32)), .val (.ref b246), .val (.int p1), .val (.int v253), .val (.int v256), .val (.ref b259), .val (.int (1 : Int32)), .val (.ref b283), .unset] [(.ref b283)])) rfl rfl (hb hby at_165) _ ?_
      rw [len_of S294 M294]
      show Steps p.tables e below (T283.setTop (mkF m 166 #[.val (.int p0), .val (.int p1), .val (.int p2), .val (.int p3), .val (.int p4), .val (.int p5), .val (.int (1 : Int32)), .val (.ref b246), .val (.int p1), .val (.int v253), .val (.int v256), .val (.ref b259), .val (.int (1 : Int32)), .val (.ref b283), .unset] [(.int (1 : Int32))])) _
      refine XS.iload X283.here hx rfl (hb hby at_166) rfl ?_
      show Steps p.tables e below (T283.setTop (mkF m 168 #[.val (.int p0), .val (.int p1), .val (.int p2), .val (.int p3), .val (.int p4), .val (.int p5), .val (.int (1 : Int32)), .val (.ref b246), .val (.int p1), .val (.int v253), .val (.int v256), .val (.ref b259), .val (.int (1 : Int32)), .val (.ref b283), .unset] [(.int (1 : Int32)), (.int (1 : Int32))])) _
      show Steps p.tables e below (T283.setTop (mkF m 168 #[.val (.int p0), .val (.int p1), .val (.int p2), .val (.int p3), .val (.int p4), .val (.int p5), .val (.int (1 : Int32)), .val (.ref b246), .val (.int p1), .val (.int v253), .val (.int v256), .val (.ref b259), .val (.int (1 : Int32)), .val (.ref b283), .unset] [(.int (1 : Int32)), (.int (1 : Int32))])) _
      refine XS.icmpYes X283.here hx rfl (pc0 := 168) (pc' := 173) rfl (hb hby at_168) rfl (teq (by decide : (1 : Int32) = (1 : Int32))).1 (by decide) (by decide) ?_
      show Steps p.tables e below (T283.setTop (mkF m 173 #[.val (.int p0), .val (.int p1), .val (.int p2), .val (.int p3), .val (.int p4), .val (.int p5), .val (.int (1 : Int32)), .val (.ref b246), .val (.int p1), .val (.int v253), .val (.int v256), .val (.ref b259), .val (.int (1 : Int32)), .val (.ref b283), .unset] [])) _
      refine XS.aload X283.here hx rfl (hb hby at_173) rfl rfl ?_
      show Steps p.tables e below (T283.setTop (mkF m 175 #[.val (.int p0), .val (.int p1), .val (.int p2), .val (.int p3), .val (.int p4), .val (.int p5), .val (.int (1 : Int32)), .val (.ref b246), .val (.int p1), .val (.int v253), .val (.int v256), .val (.ref b259), .val (.int (1 : Int32)), .val (.ref b283), .unset] [(.ref b283)])) _
      refine XS.iload X283.here hx rfl (hb hby at_175) rfl ?_
      show Steps p.tables e below (T283.setTop (mkF m 177 #[.val (.int p0), .val (.int p1), .val (.int p2), .val (.int p3), .val (.int p4), .val (.int p5), .val (.int (1 : Int32)), .val (.ref b246), .val (.int p1), .val (.int v253), .val (.int v256), .val (.ref b259), .val (.int (1 : Int32)), .val (.ref b283), .unset] [(.int (1 : Int32)), (.ref b283)])) _
      refine XS.iconst X283.here hx rfl (hb hby at_177) ?_
      show Steps p.tables e below (T283.setTop (mkF m 178 #[.val (.int p0), .val (.int p1), .val (.int p2), .val (.int p3), .val (.int p4), .val (.int p5), .val (.int (1 : Int32)), .val (.ref b246), .val (.int p1), .val (.int v253), .val (.int v256), .val (.ref b259), .val (.int (1 : Int32)), .val (.ref b283), .unset] [(.int (1 : Int32)), (.int (1 : Int32)), (.ref b283)])) _
      refine XS.isub X283.here hx rfl (hb hby at_178) rfl ?_
      show Steps p.tables e below (T283.setTop (mkF m 179 #[.val (.int p0), .val (.int p1), .val (.int p2), .val (.int p3), .val (.int p4), .val (.int p5), .val (.int (1 : Int32)), .val (.ref b246), .val (.int p1), .val (.int v253), .val (.int v256), .val (.ref b259), .val (.int (1 : Int32)), .val (.ref b283), .unset] [(.int (0 : Int32)), (.ref b283)])) _
      refine XS.iload X283.here hx rfl (hb hby at_179) rfl ?_
      show Steps p.tables e below (T283.setTop (mkF m 181 #[.val (.int p0), .val (.int p1), .val (.int p2), .val (.int p3), .val (.int p4), .val (.int p5), .val (.int (1 : Int32)), .val (.ref b246), .val (.int p1), .val (.int v253), .val (.int v256), .val (.ref b259), .val (.int (1 : Int32)), .val (.ref b283), .unset] [(.int p1), (.int (0 : Int32)), (.ref b283)])) _
      refine XS.iconst X283.here hx rfl (hb hby at_181) ?_
      show Steps p.tables e below (T283.setTop (mkF m 182 #[.val (.int p0), .val (.int p1), .val (.int p2), .val (.int p3), .val (.int p4), .val (.int p5), .val (.int (1 : Int32)), .val (.ref b246), .val (.int p1), .val (.int v253), .val (.int v256), .val (.ref b259), .val (.int (1 : Int32)), .val (.ref b283), .unset] [(.int (-1 : Int32)), (.int p1), (.int (0 : Int32)), (.ref b283)])) _
      refine XS.ixor X283.here hx rfl (hb hby at_182) rfl ?_
      show Steps p.tables e below (T283.setTop (mkF m 183 #[.val (.int p0), .val (.int p1), .val (.int p2), .val (.int p3), .val (.int p4), .val (.int p5), .val (.int (1 : Int32)), .val (.ref b246), .val (.int p1), .val (.int v253), .val (.int v256), .val (.ref b259), .val (.int (1 : Int32)), .val (.ref b283), .unset] [(.int (p1 ^^^ (-1 : Int32))), (.int (0 : Int32)), (.ref b283)])) _
      exact k
    obtain ⟨cl296, Ar296, q296, S296, M296, H296, G296⟩ := id Ob283_0
    have hin296 : ¬ ((0 : Int32) < 0 ∨ cl296.slots.size ≤ ((0 : Int32)).toNatClampNeg) := inb_of S296 ⟨by decide, by decide⟩
    obtain ⟨T296, h296, X296, e296, W296, st296⟩ := stI X283 hx hZ e283 Ar296 (j := (0 : Int32)) hin296 (g := (mkF m 183 #[.val (.int p0), .val (.int p1), .val (.int p2), .val (.int p3), .val (.int p4), .val (.int p5), .val (.int (1 : Int32)), .val (.ref b246), .val (.int p1), .val (.int v253), .val (.int v256), .val (.ref b259), .val (.int (1 : Int32)), .val (.ref b283), .unset] [(.int (p1 ^^^ (-1 : Int32))), (.int (0 : Int32)), (.ref b283)])) rfl rfl (hb hby at_183)
    have Z296 : n0 ≤ h296.size := Nat.le_trans Z283 (Keep.of_wr W296).1
    have K296 : Keep h0 h296 [] := K283.wr W296 (Or.inr sz_b283)
    have N296 := Fr.snoc X296 N283 g_b283
    have Ef297 : Exa Z h296 b246 "[I" := (Ef284).wr W296
    have Ef298 : Exa Z h296 b259 "com/example/timely_exodus/timelyexodus/plan/Vehicle" := (Ef285).wr W296
    have Ff299 : Fld Z h296 b259 "com/example/timely_exodus/timelyexodus/plan/Vehicle" "number" "I" (.int v253) := (Ff286).other W296 (Or.inl ne_b259_b283)
    have Ff300 : Fld Z h296 b259 "com/example/timely_exodus/timelyexodus/plan/Vehicle" "departurePeriod" "I" (.int v256) := (Ff287).other W296 (Or.inl ne_b259_b283)
    have Ff301 : Fld Z h296 b259 "com/example/timely_exodus/timelyexodus/plan/Vehicle" "route" "[I" (.ref b264) := (Ff288).other W296 (Or.inl ne_b259_b283)
    have Vf302 : Arv Z h296 b264 kb264 .int (1 : Int32) [(.int p1)] (.int (0 : Int32)) := (Vf289).other W296 ne_b264_b283
    have Ef303 : Exa Z h296 b264 "[I" := (Ef290).wr W296
    have Vf304 : Arv Z h296 b246 k246 .int (1 : Int32) [(.int (p1 ^^^ (-1 : Int32)))] (.int (0 : Int32)) := (Vf291).other W296 ne_b246_b283
    have Ef305 : Exa Z h296 b283 "[I" := (Ob283_1).wr W296
    have V296 : Arv Z h296 b283 kb283 .int (1 : Int32) [(.int (p1 ^^^ (-1 : Int32)))] (.int (0 : Int32)) := Arv.set Ar296 q296 S296 M296 H296 G296 rfl W296 0 rfl (Nat.le_of_ble_eq_true rfl)
    have pre306 : ∀ t, Steps p.tables e below (T296.setTop (mkF m 184 #[.val (.int p0), .val (.int p1), .val (.int p2), .val (.int p3), .val (.int p4), .val (.int p5), .val (.int (1 : Int32)), .val (.ref b246), .val (.int p1), .val (.int v253), .val (.int v256), .val (.ref b259), .val (.int (1 : Int32)), .val (.ref b283), .unset] [])) t → Steps p.tables e below (s₁.setTop (entryFrame m #[(.int p0), (.int p1), (.int p2), (.int p3), (.int p4), (.int p5)] maxLocals)) t := fun t k => pre295 t (st296 t k)
    have pre307 : ∀ t, Steps p.tables e below (T296.setTop (mkF m 186 #[.val (.int p0), .val (.int p1), .val (.int p2), .val (.int p3), .val (.int p4), .val (.int p5), .val (.int (1 : Int32)), .val (.ref b246), .val (.int p1), .val (.int v253), .val (.int v256), .val (.ref b259), .val (.int (1 : Int32)), .val (.ref b283), .unset] [(.ref b259)])) t → Steps p.tables e below (s₁.setTop (entryFrame m #[(.int p0), (.int p1), (.int p2), (.int p3), (.int p4), (.int p5)] maxLocals)) t := by
      intro t k
      refine pre306 t ?_
      show Steps p.tables e below (T296.setTop (mkF m 184 #[.val (.int p0), .val (.int p1), .val (.int p2), .val (.int p3), .val (.int p4), .val (.int p5), .val (.int (1 : Int32)), .val (.ref b246), .val (.int p1), .val (.int v253), .val (.int v256), .val (.ref b259), .val (.int (1 : Int32)), .val (.ref b283), .unset] [])) _
      refine XS.aload X296.here hx rfl (hb hby at_184) rfl rfl ?_
      show Steps p.tables e below (T296.setTop (mkF m 186 #[.val (.int p0), .val (.int p1), .val (.int p2), .val (.int p3), .val (.int p4), .val (.int p5), .val (.int (1 : Int32)), .val (.ref b246), .val (.int p1), .val (.int v253), .val (.int v256), .val (.ref b259), .val (.int (1 : Int32)), .val (.ref b283), .unset] [(.ref b259)])) _
      exact k
    obtain ⟨cq308, kq308, q308a, q308b, q308c⟩ := isOf hZ e296 Ef298
    obtain ⟨_, _, ⟨T308, L308, k308, n308⟩, -, X308, ⟨Lc308, hQ308, l308, y308, z308⟩, st308⟩ := X296.virtualBack hx (y := (⟨"com/example/timely_exodus/timelyexodus/plan/Vehicle", "getExitCell", "()I"⟩ : MethodName)) (z := (⟨"com/example/timely_exodus/timelyexodus/plan/Vehicle", "getExitCell", "()I"⟩ : MethodName)) hown (mvT hZ (hw _ (List.mem_of_getElem? (i := 26) rfl))) (mvT hZ (hw _ (List.mem_of_getElem? (i := 27) rfl))) (notFace_of_selects (args := #[]) (mvT hZ (hw _ (List.mem_of_getElem? (i := 29) rfl)))) (mvT hZ (hw _ (List.mem_of_getElem? (i := 29) rfl))) (mvT hZ (hw _ (List.mem_of_getElem? (i := 28) rfl))) (by decide) (backOf (W := 0) (rm3_n1 l Z ar0 hw [] b259 b264 kb264 p1 h296 n0 Z296 Ff301 Vf302) hZ (hw _ (List.mem_of_getElem? (i := 30) rfl)) (hw _ (List.mem_of_getElem? (i := 4) rfl)) (by decide) (by decide)) q308a q308c (g := (mkF m 186 #[.val (.int p0), .val (.int p1), .val (.int p2), .val (.int p3), .val (.int p4), .val (.int p5), .val (.int (1 : Int32)), .val (.ref b246), .val (.int p1), .val (.int v253), .val (.int v256), .val (.ref b259), .val (.int (1 : Int32)), .val (.ref b283), .unset] [(.ref b259)])) rfl (by rw [hml]; rfl) (Steps.refl _) (argsL := []) (rest := []) (lenOf pd_1 rfl) rfl (by show 2 * 0 + _ ≤ _; exact Nat.le_of_eq rfl) (hb hby at_186) (fun _ _ => ⟨rfl, e296, (by decide : 4 + 0 ≤ _), (by decide : 6 + 0 ≤ _)⟩)
    dsimp only [Pt.U, Pt.locs, Pt.cells, Pt.slots] at X308 l308 y308 z308 st308 hQ308
    subst l308 y308 z308
    obtain ⟨rfl, N308q, e308⟩ := hQ308
    have N308 := Fr.app N296 N308q
    have pre309 : ∀ t, Steps p.tables e below (T308.setTop (mkF m 189 #[.val (.int p0), .val (.int p1), .val (.int p2), .val (.int p3), .val (.int p4), .val (.int p5), .val (.int (1 : Int32)), .val (.ref b246), .val (.int p1), .val (.int v253), .val (.int v256), .val (.ref b259), .val (.int (1 : Int32)), .val (.ref b283), .unset] [(.int p1)])) t → Steps p.tables e below (s₁.setTop (entryFrame m #[(.int p0), (.int p1), (.int p2), (.int p3), (.int p4), (.int p5)] maxLocals)) t := fun t k => pre307 t (st308.trans k)
    obtain ⟨fs, hr, hrun, hended, hW, hsame⟩ := X308.leave (v := some (.int (1 : Int32))) (fun h => by rw [Bd.returns] at h; cases h)
    refine ⟨_, _, pre309 _ ?_, hrun, hended, _, _, rfl, ?_, ⟨_, rfl⟩, hW, hsame.mono (by decide) (by decide)⟩
    · show Steps p.tables e below (T308.setTop (mkF m 189 #[.val (.int p0), .val (.int p1), .val (.int p2), .val (.int p3), .val (.int p4), .val (.int p5), .val (.int (1 : Int32)), .val (.ref b246), .val (.int p1), .val (.int v253), .val (.int v256), .val (.ref b259), .val (.int (1 : Int32)), .val (.ref b283), .unset] [(.int p1)])) _
      refine XS.iload X308.here hx rfl (hb hby at_189) rfl ?_
      show Steps p.tables e below (T308.setTop (mkF m 191 #[.val (.int p0), .val (.int p1), .val (.int p2), .val (.int p3), .val (.int p4), .val (.int p5), .val (.int (1 : Int32)), .val (.ref b246), .val (.int p1), .val (.int v253), .val (.int v256), .val (.ref b259), .val (.int (1 : Int32)), .val (.ref b283), .unset] [(.int p1), (.int p1)])) _
      show Steps p.tables e below (T308.setTop (mkF m 191 #[.val (.int p0), .val (.int p1), .val (.int p2), .val (.int p3), .val (.int p4), .val (.int p5), .val (.int (1 : Int32)), .val (.ref b246), .val (.int p1), .val (.int v253), .val (.int v256), .val (.ref b259), .val (.int (1 : Int32)), .val (.ref b283), .unset] [(.int p1), (.int p1)])) _
      refine XS.icmpNo X308.here hx rfl (hb hby at_191) rfl (teq (rfl : p1 = p1)).2 ?_
      show Steps p.tables e below (T308.setTop (mkF m 194 #[.val (.int p0), .val (.int p1), .val (.int p2), .val (.int p3), .val (.int p4), .val (.int p5), .val (.int (1 : Int32)), .val (.ref b246), .val (.int p1), .val (.int v253), .val (.int v256), .val (.ref b259), .val (.int (1 : Int32)), .val (.ref b283), .unset] [])) _
      refine XS.iconst X308.here hx rfl (hb hby at_194) ?_
      show Steps p.tables e below (T308.setTop (mkF m 195 #[.val (.int p0), .val (.int p1), .val (.int p2), .val (.int p3), .val (.int p4), .val (.int p5), .val (.int (1 : Int32)), .val (.ref b246), .val (.int p1), .val (.int v253), .val (.int v256), .val (.ref b259), .val (.int (1 : Int32)), .val (.ref b283), .unset] [(.int (1 : Int32))])) _
      refine XS.goto X308.here hx rfl (pc0 := 195) (pc' := 199) rfl (hb hby at_195) (by decide) (by decide) ?_
      show Steps p.tables e below (T308.setTop (mkF m 199 #[.val (.int p0), .val (.int p1), .val (.int p2), .val (.int p3), .val (.int p4), .val (.int p5), .val (.int (1 : Int32)), .val (.ref b246), .val (.int p1), .val (.int v253), .val (.int v256), .val (.ref b259), .val (.int (1 : Int32)), .val (.ref b283), .unset] [(.int (1 : Int32))])) _
      refine XS.istore X308.here hx rfl (hb hby at_199) rfl (l' := #[.val (.int p0), .val (.int p1), .val (.int p2), .val (.int p3), .val (.int p4), .val (.int p5), .val (.int (1 : Int32)), .val (.ref b246), .val (.int p1), .val (.int v253), .val (.int v256), .val (.ref b259), .val (.int (1 : Int32)), .val (.ref b283), .val (.int (1 : Int32))]) rfl ?_
      show Steps p.tables e below (T308.setTop (mkF m 201 #[.val (.int p0), .val (.int p1), .val (.int p2), .val (.int p3), .val (.int p4), .val (.int p5), .val (.int (1 : Int32)), .val (.ref b246), .val (.int p1), .val (.int v253), .val (.int v256), .val (.ref b259), .val (.int (1 : Int32)), .val (.ref b283), .val (.int (1 : Int32))] [])) _
      refine XS.iload X308.here hx rfl (hb hby at_201) rfl ?_
      show Steps p.tables e below (T308.setTop (mkF m 203 #[.val (.int p0), .val (.int p1), .val (.int p2), .val (.int p3), .val (.int p4), .val (.int p5), .val (.int (1 : Int32)), .val (.ref b246), .val (.int p1), .val (.int v253), .val (.int v256), .val (.ref b259), .val (.int (1 : Int32)), .val (.ref b283), .val (.int (1 : Int32))] [(.int (1 : Int32))])) _
      show Steps p.tables e below (T308.setTop (mkF m 203 #[.val (.int p0), .val (.int p1), .val (.int p2), .val (.int p3), .val (.int p4), .val (.int p5), .val (.int (1 : Int32)), .val (.ref b246), .val (.int p1), .val (.int v253), .val (.int v256), .val (.ref b259), .val (.int (1 : Int32)), .val (.ref b283), .val (.int (1 : Int32))] [(.int (1 : Int32))])) _
      refine XS.ifNo X308.here hx rfl (hb hby at_203) rfl ((if0 _ _).trans (feq (by decide : ¬ (1 : Int32) = (0 : Int32))).1) ?_
      show Steps p.tables e below (T308.setTop (mkF m 206 #[.val (.int p0), .val (.int p1), .val (.int p2), .val (.int p3), .val (.int p4), .val (.int p5), .val (.int (1 : Int32)), .val (.ref b246), .val (.int p1), .val (.int v253), .val (.int v256), .val (.ref b259), .val (.int (1 : Int32)), .val (.ref b283), .val (.int (1 : Int32))] [])) _
      refine XS.iload X308.here hx rfl (hb hby at_206) rfl ?_
      show Steps p.tables e below (T308.setTop (mkF m 208 #[.val (.int p0), .val (.int p1), .val (.int p2), .val (.int p3), .val (.int p4), .val (.int p5), .val (.int (1 : Int32)), .val (.ref b246), .val (.int p1), .val (.int v253), .val (.int v256), .val (.ref b259), .val (.int (1 : Int32)), .val (.ref b283), .val (.int (1 : Int32))] [(.int (1 : Int32))])) _
      show Steps p.tables e below (T308.setTop (mkF m 208 #[.val (.int p0), .val (.int p1), .val (.int p2), .val (.int p3), .val (.int p4), .val (.int p5), .val (.int (1 : Int32)), .val (.ref b246), .val (.int p1), .val (.int v253), .val (.int v256), .val (.ref b259), .val (.int (1 : Int32)), .val (.ref b283), .val (.int (1 : Int32))] [(.int (1 : Int32))])) _
      refine XS.ifNo X308.here hx rfl (hb hby at_208) rfl ((if0 _ _).trans (feq (by decide : ¬ (1 : Int32) = (0 : Int32))).1) ?_
      show Steps p.tables e below (T308.setTop (mkF m 211 #[.val (.int p0), .val (.int p1), .val (.int p2), .val (.int p3), .val (.int p4), .val (.int p5), .val (.int (1 : Int32)), .val (.ref b246), .val (.int p1), .val (.int v253), .val (.int v256), .val (.ref b259), .val (.int (1 : Int32)), .val (.ref b283), .val (.int (1 : Int32))] [])) _
      refine XS.iconst X308.here hx rfl (hb hby at_211) ?_
      show Steps p.tables e below (T308.setTop (mkF m 212 #[.val (.int p0), .val (.int p1), .val (.int p2), .val (.int p3), .val (.int p4), .val (.int p5), .val (.int (1 : Int32)), .val (.ref b246), .val (.int p1), .val (.int v253), .val (.int v256), .val (.ref b259), .val (.int (1 : Int32)), .val (.ref b283), .val (.int (1 : Int32))] [(.int (1 : Int32))])) _
      refine XS.goto X308.here hx rfl (pc0 := 212) (pc' := 216) rfl (hb hby at_212) (by decide) (by decide) ?_
      show Steps p.tables e below (T308.setTop (mkF m 216 #[.val (.int p0), .val (.int p1), .val (.int p2), .val (.int p3), .val (.int p4), .val (.int p5), .val (.int (1 : Int32)), .val (.ref b246), .val (.int p1), .val (.int v253), .val (.int v256), .val (.ref b259), .val (.int (1 : Int32)), .val (.ref b283), .val (.int (1 : Int32))] [(.int (1 : Int32))])) _
      exact retN X308 hx (t := .boolean) Bd.returns (by simp) (hb hby at_216) hr
    · show Q0 Z p0 p1 p2 p3 p4 p5 h0 n0 _ T308.heap _
      rw [e308]
      exact ⟨rfl, N308⟩
  · have pre310 : ∀ t, Steps p.tables e below (s₁.setTop (mkF m 9 #[.val (.int p0), .val (.int p1), .val (.int p2), .val (.int p3), .val (.int p4), .val (.int p5), .val (.int (2 : Int32)), .unset, .unset, .unset, .unset, .unset, .unset, .unset, .unset] [(.int (2 : Int32))])) t → Steps p.tables e below (s₁.setTop (entryFrame m #[(.int p0), (.int p1), (.int p2), (.int p3), (.int p4), (.int p5)] maxLocals)) t := by
      intro t k
      refine pre244 t ?_
      show Steps p.tables e below (s₁.setTop (mkF m 7 #[.val (.int p0), .val (.int p1), .val (.int p2), .val (.int p3), .val (.int p4), .val (.int p5), .val (.int (2 : Int32)), .unset, .unset, .unset, .unset, .unset, .unset, .unset, .unset] [])) _
      refine XS.iload X0.here hx rfl (hb hby at_7) rfl ?_
      show Steps p.tables e below (s₁.setTop (mkF m 9 #[.val (.int p0), .val (.int p1), .val (.int p2), .val (.int p3), .val (.int p4), .val (.int p5), .val (.int (2 : Int32)), .unset, .unset, .unset, .unset, .unset, .unset, .unset, .unset] [(.int (2 : Int32))])) _
      exact k
    obtain ⟨T311, h311, k311, X311, e311, E311, A311, C311, st311⟩ := newPE X0 hx hZ (hw _ (List.mem_of_getElem? (i := 0) rfl)) e0 (g := (mkF m 9 #[.val (.int p0), .val (.int p1), .val (.int p2), .val (.int p3), .val (.int p4), .val (.int p5), .val (.int (2 : Int32)), .unset, .unset, .unset, .unset, .unset, .unset, .unset, .unset] [(.int (2 : Int32))])) rfl (hb hby at_9) rfl (by decide) (cap := 2) (by decide) (by decide) (by decide) (by decide) (ad := "[I") rfl
    obtain ⟨b311, g311⟩ : ∃ z, z = h0.size := ⟨_, rfl⟩
    rw [← g311] at A311 C311 st311
    have g_b311 : n0 ≤ b311 := Nat.le_trans Z0 (Nat.le_of_eq g311.symm)
    have sz_b311 : h0.size ≤ b311 := Nat.le_trans (Keep.refl h0 []).1 (Nat.le_of_eq g311.symm)
    have Z311 : n0 ≤ h311.size := Nat.le_trans Z0 E311.1
    have K311 : Keep h0 h311 [] := (Keep.refl h0 []).ext E311
    have V_b311 : Arv Z h311 b311 k311 .int (2 : Int32) [(.int (0 : Int32)), (.int (0 : Int32))] (.int (0 : Int32)) := (Arv.new A311 (by decide)).pad (pad_rep [] (.int (0 : Int32)) 2)
    have pre312 : ∀ t, Steps p.tables e below (T311.setTop (mkF m 11 #[.val (.int p0), .val (.int p1), .val (.int p2), .val (.int p3), .val (.int p4), .val (.int p5), .val (.int (2 : Int32)), .unset, .unset, .unset, .unset, .unset, .unset, .unset, .unset] [(.ref b311)])) t → Steps p.tables e below (s₁.setTop (entryFrame m #[(.int p0), (.int p1), (.int p2), (.int p3), (.int p4), (.int p5)] maxLocals)) t := fun t k => pre310 t (st311 t k)
    have pre313 : ∀ t, Steps p.tables e below (T311.setTop (mkF m 17 #[.val (.int p0), .val (.int p1), .val (.int p2), .val (.int p3), .val (.int p4), .val (.int p5), .val (.int (2 : Int32)), .val (.ref b311), .unset, .unset, .unset, .unset, .unset, .unset, .unset] [(.int p1), (.int (0 : Int32)), (.ref b311)])) t → Steps p.tables e below (s₁.setTop (entryFrame m #[(.int p0), (.int p1), (.int p2), (.int p3), (.int p4), (.int p5)] maxLocals)) t := by
      intro t k
      refine pre312 t ?_
      show Steps p.tables e below (T311.setTop (mkF m 11 #[.val (.int p0), .val (.int p1), .val (.int p2), .val (.int p3), .val (.int p4), .val (.int p5), .val (.int (2 : Int32)), .unset, .unset, .unset, .unset, .unset, .unset, .unset, .unset] [(.ref b311)])) _
      refine XS.astore X311.here hx rfl (hb hby at_11) rfl rfl (l' := #[.val (.int p0), .val (.int p1), .val (.int p2), .val (.int p3), .val (.int p4), .val (.int p5), .val (.int (2 : Int32)), .val (.ref b311), .unset, .unset, .unset, .unset, .unset, .unset, .unset]) rfl ?_
      show Steps p.tables e below (T311.setTop (mkF m 13 #[.val (.int p0), .val (.int p1), .val (.int p2), .val (.int p3), .val (.int p4), .val (.int p5), .val (.int (2 : Int32)), .val (.ref b311), .unset, .unset, .unset, .unset, .unset, .unset, .unset] [])) _
      refine XS.aload X311.here hx rfl (hb hby at_13) rfl rfl ?_
      show Steps p.tables e below (T311.setTop (mkF m 15 #[.val (.int p0), .val (.int p1), .val (.int p2), .val (.int p3), .val (.int p4), .val (.int p5), .val (.int (2 : Int32)), .val (.ref b311), .unset, .unset, .unset, .unset, .unset, .unset, .unset] [(.ref b311)])) _
      refine XS.iconst X311.here hx rfl (hb hby at_15) ?_
      show Steps p.tables e below (T311.setTop (mkF m 16 #[.val (.int p0), .val (.int p1), .val (.int p2), .val (.int p3), .val (.int p4), .val (.int p5), .val (.int (2 : Int32)), .val (.ref b311), .unset, .unset, .unset, .unset, .unset, .unset, .unset] [(.int (0 : Int32)), (.ref b311)])) _
      refine XS.iloadN X311.here hx rfl (hb hby at_16) rfl ?_
      show Steps p.tables e below (T311.setTop (mkF m 17 #[.val (.int p0), .val (.int p1), .val (.int p2), .val (.int p3), .val (.int p4), .val (.int p5), .val (.int (2 : Int32)), .val (.ref b311), .unset, .unset, .unset, .unset, .unset, .unset, .unset] [(.int p1), (.int (0 : Int32)), (.ref b311)])) _
      exact k
    obtain ⟨cl314, Ar314, q314, S314, M314, H314, G314⟩ := id V_b311
    have hin314 : ¬ ((0 : Int32) < 0 ∨ cl314.slots.size ≤ ((0 : Int32)).toNatClampNeg) := inb_of S314 ⟨by decide, by decide⟩
    obtain ⟨T314, h314, X314, e314, W314, st314⟩ := stI X311 hx hZ e311 Ar314 (j := (0 : Int32)) hin314 (g := (mkF m 17 #[.val (.int p0), .val (.int p1), .val (.int p2), .val (.int p3), .val (.int p4), .val (.int p5), .val (.int (2 : Int32)), .val (.ref b311), .unset, .unset, .unset, .unset, .unset, .unset, .unset] [(.int p1), (.int (0 : Int32)), (.ref b311)])) rfl rfl (hb hby at_17)
    have Z314 : n0 ≤ h314.size := Nat.le_trans Z311 (Keep.of_wr W314).1
    have K314 : Keep h0 h314 [] := K311.wr W314 (Or.inr sz_b311)
    have N314 := Fr.snoc X314 N0 g_b311
    have Ef315 : Exa Z h314 b311 "[I" := (C311).wr W314
    have V314 : Arv Z h314 b311 k311 .int (2 : Int32) [(.int p1), (.int (0 : Int32))] (.int (0 : Int32)) := Arv.set Ar314 q314 S314 M314 H314 G314 rfl W314 0 rfl (Nat.le_of_ble_eq_true rfl)
    have pre316 : ∀ t, Steps p.tables e below (T314.setTop (mkF m 18 #[.val (.int p0), .val (.int p1), .val (.int p2), .val (.int p3), .val (.int p4), .val (.int p5), .val (.int (2 : Int32)), .val (.ref b311), .unset, .unset, .unset, .unset, .unset, .unset, .unset] [])) t → Steps p.tables e below (s₁.setTop (entryFrame m #[(.int p0), (.int p1), (.int p2), (.int p3), (.int p4), (.int p5)] maxLocals)) t := fun t k => pre313 t (st314 t k)
    have pre317 : ∀ t, Steps p.tables e below (T314.setTop (mkF m 28 #[.val (.int p0), .val (.int p1), .val (.int p2), .val (.int p3), .val (.int p4), .val (.int p5), .val (.int (2 : Int32)), .val (.ref b311), .unset, .unset, .unset, .unset, .unset, .unset, .unset] [(.int p2), (.int (1 : Int32)), (.ref b311)])) t → Steps p.tables e below (s₁.setTop (entryFrame m #[(.int p0), (.int p1), (.int p2), (.int p3), (.int p4), (.int p5)] maxLocals)) t := by
      intro t k
      refine pre316 t ?_
      show Steps p.tables e below (T314.setTop (mkF m 18 #[.val (.int p0), .val (.int p1), .val (.int p2), .val (.int p3), .val (.int p4), .val (.int p5), .val (.int (2 : Int32)), .val (.ref b311), .unset, .unset, .unset, .unset, .unset, .unset, .unset] [])) _
      refine XS.iload X314.here hx rfl (hb hby at_18) rfl ?_
      show Steps p.tables e below (T314.setTop (mkF m 20 #[.val (.int p0), .val (.int p1), .val (.int p2), .val (.int p3), .val (.int p4), .val (.int p5), .val (.int (2 : Int32)), .val (.ref b311), .unset, .unset, .unset, .unset, .unset, .unset, .unset] [(.int (2 : Int32))])) _
      refine XS.iconst X314.here hx rfl (hb hby at_20) ?_
      show Steps p.tables e below (T314.setTop (mkF m 21 #[.val (.int p0), .val (.int p1), .val (.int p2), .val (.int p3), .val (.int p4), .val (.int p5), .val (.int (2 : Int32)), .val (.ref b311), .unset, .unset, .unset, .unset, .unset, .unset, .unset] [(.int (1 : Int32)), (.int (2 : Int32))])) _
      show Steps p.tables e below (T314.setTop (mkF m 21 #[.val (.int p0), .val (.int p1), .val (.int p2), .val (.int p3), .val (.int p4), .val (.int p5), .val (.int (2 : Int32)), .val (.ref b311), .unset, .unset, .unset, .unset, .unset, .unset, .unset] [(.int (1 : Int32)), (.int (2 : Int32))])) _
      refine XS.icmpNo X314.here hx rfl (hb hby at_21) rfl (tlt (by decide : (1 : Int32) < (2 : Int32))).2.2.2 ?_
      show Steps p.tables e below (T314.setTop (mkF m 24 #[.val (.int p0), .val (.int p1), .val (.int p2), .val (.int p3), .val (.int p4), .val (.int p5), .val (.int (2 : Int32)), .val (.ref b311), .unset, .unset, .unset, .unset, .unset, .unset, .unset] [])) _
      refine XS.aload X314.here hx rfl (hb hby at_24) rfl rfl ?_
      show Steps p.tables e below (T314.setTop (mkF m 26 #[.val (.int p0), .val (.int p1), .val (.int p2), .val (.int p3), .val (.int p4), .val (.int p5), .val (.int (2 : Int32)), .val (.ref b311), .unset, .unset, .unset, .unset, .unset, .unset, .unset] [(.ref b311)])) _
      refine XS.iconst X314.here hx rfl (hb hby at_26) ?_
      show Steps p.tables e below (T314.setTop (mkF m 27 #[.val (.int p0), .val (.int p1), .val (.int p2), .val (.int p3), .val (.int p4), .val (.int p5), .val (.int (2 : Int32)), .val (.ref b311), .unset, .unset, .unset, .unset, .unset, .unset, .unset] [(.int (1 : Int32)), (.ref b311)])) _
      refine XS.iloadN X314.here hx rfl (hb hby at_27) rfl ?_
      show Steps p.tables e below (T314.setTop (mkF m 28 #[.val (.int p0), .val (.int p1), .val (.int p2), .val (.int p3), .val (.int p4), .val (.int p5), .val (.int (2 : Int32)), .val (.ref b311), .unset, .unset, .unset, .unset, .unset, .unset, .unset] [(.int p2), (.int (1 : Int32)), (.ref b311)])) _
      exact k
    obtain ⟨cl318, Ar318, q318, S318, M318, H318, G318⟩ := id V314
    have hin318 : ¬ ((1 : Int32) < 0 ∨ cl318.slots.size ≤ ((1 : Int32)).toNatClampNeg) := inb_of S318 ⟨by decide, by decide⟩
    obtain ⟨T318, h318, X318, e318, W318, st318⟩ := stI X314 hx hZ e314 Ar318 (j := (1 : Int32)) hin318 (g := (mkF m 28 #[.val (.int p0), .val (.int p1), .val (.int p2), .val (.int p3), .val (.int p4), .val (.int p5), .val (.int (2 : Int32)), .val (.ref b311), .unset, .unset, .unset, .unset, .unset, .unset, .unset] [(.int p2), (.int (1 : Int32)), (.ref b311)])) rfl rfl (hb hby at_28)
    have Z318 : n0 ≤ h318.size := Nat.le_trans Z314 (Keep.of_wr W318).1
    have K318 : Keep h0 h318 [] := K314.wr W318 (Or.inr sz_b311)
    have N318 := Fr.snoc X318 N314 g_b311
    have Ef319 : Exa Z h318 b311 "[I" := (Ef315).wr W318
    have V318 : Arv Z h318 b311 k311 .int (2 : Int32) [(.int p1), (.int p2)] (.int (0 : Int32)) := Arv.set Ar318 q318 S318 M318 H318 G318 rfl W318 1 rfl (Nat.le_of_ble_eq_true rfl)
    have pre320 : ∀ t, Steps p.tables e below (T318.setTop (mkF m 29 #[.val (.int p0), .val (.int p1), .val (.int p2), .val (.int p3), .val (.int p4), .val (.int p5), .val (.int (2 : Int32)), .val (.ref b311), .unset, .unset, .unset, .unset, .unset, .unset, .unset] [])) t → Steps p.tables e below (s₁.setTop (entryFrame m #[(.int p0), (.int p1), (.int p2), (.int p3), (.int p4), (.int p5)] maxLocals)) t := fun t k => pre317 t (st318 t k)
    have pre321 : ∀ t, Steps p.tables e below (T318.setTop (mkF m 99 #[.val (.int p0), .val (.int p1), .val (.int p2), .val (.int p3), .val (.int p4), .val (.int p5), .val (.int (2 : Int32)), .val (.ref b311), .val (.int p2), .unset, .unset, .unset, .unset, .unset, .unset] [(.int ((p5 &&& (65535 : Int32)) + (1 : Int32)))])) t → Steps p.tables e below (s₁.setTop (entryFrame m #[(.int p0), (.int p1), (.int p2), (.int p3), (.int p4), (.int p5)] maxLocals)) t := by
      intro t k
      refine pre320 t ?_
      show Steps p.tables e below (T318.setTop (mkF m 29 #[.val (.int p0), .val (.int p1), .val (.int p2), .val (.int p3), .val (.int p4), .val (.int p5), .val (.int (2 : Int32)), .val (.ref b311), .unset, .unset, .unset, .unset, .unset, .unset, .unset] [])) _
      refine XS.iload X318.here hx rfl (hb hby at_29) rfl ?_
      show Steps p.tables e below (T318.setTop (mkF m 31 #[.val (.int p0), .val (.int p1), .val (.int p2), .val (.int p3), .val (.int p4), .val (.int p5), .val (.int (2 : Int32)), .val (.ref b311), .unset, .unset, .unset, .unset, .unset, .unset, .unset] [(.int (2 : Int32))])) _
      refine XS.iconst X318.here hx rfl (hb hby at_31) ?_
      show Steps p.tables e below (T318.setTop (mkF m 32 #[.val (.int p0), .val (.int p1), .val (.int p2), .val (.int p3), .val (.int p4), .val (.int p5), .val (.int (2 : Int32)), .val (.ref b311), .unset, .unset, .unset, .unset, .unset, .unset, .unset] [(.int (2 : Int32)), (.int (2 : Int32))])) _
      show Steps p.tables e below (T318.setTop (mkF m 32 #[.val (.int p0), .val (.int p1), .val (.int p2), .val (.int p3), .val (.int p4), .val (.int p5), .val (.int (2 : Int32)), .val (.ref b311), .unset, .unset, .unset, .unset, .unset, .unset, .unset] [(.int (2 : Int32)), (.int (2 : Int32))])) _
      refine XS.icmpYes X318.here hx rfl (pc0 := 32) (pc' := 40) rfl (hb hby at_32) rfl (flt (by decide : ¬ (2 : Int32) < (2 : Int32))).2.2.2 (by decide) (by decide) ?_
      show Steps p.tables e below (T318.setTop (mkF m 40 #[.val (.int p0), .val (.int p1), .val (.int p2), .val (.int p3), .val (.int p4), .val (.int p5), .val (.int (2 : Int32)), .val (.ref b311), .unset, .unset, .unset, .unset, .unset, .unset, .unset] [])) _
      refine XS.iload X318.here hx rfl (hb hby at_40) rfl ?_
      show Steps p.tables e below (T318.setTop (mkF m 42 #[.val (.int p0), .val (.int p1), .val (.int p2), .val (.int p3), .val (.int p4), .val (.int p5), .val (.int (2 : Int32)), .val (.ref b311), .unset, .unset, .unset, .unset, .unset, .unset, .unset] [(.int (2 : Int32))])) _
      refine XS.iconst X318.here hx rfl (hb hby at_42) ?_
      show Steps p.tables e below (T318.setTop (mkF m 43 #[.val (.int p0), .val (.int p1), .val (.int p2), .val (.int p3), .val (.int p4), .val (.int p5), .val (.int (2 : Int32)), .val (.ref b311), .unset, .unset, .unset, .unset, .unset, .unset, .unset] [(.int (3 : Int32)), (.int (2 : Int32))])) _
      show Steps p.tables e below (T318.setTop (mkF m 43 #[.val (.int p0), .val (.int p1), .val (.int p2), .val (.int p3), .val (.int p4), .val (.int p5), .val (.int (2 : Int32)), .val (.ref b311), .unset, .unset, .unset, .unset, .unset, .unset, .unset] [(.int (3 : Int32)), (.int (2 : Int32))])) _
      refine XS.icmpYes X318.here hx rfl (pc0 := 43) (pc' := 52) rfl (hb hby at_43) rfl (flt (by decide : ¬ (3 : Int32) < (2 : Int32))).2.2.2 (by decide) (by decide) ?_
      show Steps p.tables e below (T318.setTop (mkF m 52 #[.val (.int p0), .val (.int p1), .val (.int p2), .val (.int p3), .val (.int p4), .val (.int p5), .val (.int (2 : Int32)), .val (.ref b311), .unset, .unset, .unset, .unset, .unset, .unset, .unset] [])) _
      refine XS.iload X318.here hx rfl (hb hby at_52) rfl ?_
      show Steps p.tables e below (T318.setTop (mkF m 54 #[.val (.int p0), .val (.int p1), .val (.int p2), .val (.int p3), .val (.int p4), .val (.int p5), .val (.int (2 : Int32)), .val (.ref b311), .unset, .unset, .unset, .unset, .unset, .unset, .unset] [(.int (2 : Int32))])) _
      refine XS.iconst X318.here hx rfl (hb hby at_54) ?_
      show Steps p.tables e below (T318.setTop (mkF m 55 #[.val (.int p0), .val (.int p1), .val (.int p2), .val (.int p3), .val (.int p4), .val (.int p5), .val (.int (2 : Int32)), .val (.ref b311), .unset, .unset, .unset, .unset, .unset, .unset, .unset] [(.int (1 : Int32)), (.int (2 : Int32))])) _
      show Steps p.tables e below (T318.setTop (mkF m 55 #[.val (.int p0), .val (.int p1), .val (.int p2), .val (.int p3), .val (.int p4), .val (.int p5), .val (.int (2 : Int32)), .val (.ref b311), .unset, .unset, .unset, .unset, .unset, .unset, .unset] [(.int (1 : Int32)), (.int (2 : Int32))])) _
      refine XS.icmpYes X318.here hx rfl (pc0 := 55) (pc' := 64) rfl (hb hby at_55) rfl (feq (by decide : ¬ (2 : Int32) = (1 : Int32))).2 (by decide) (by decide) ?_
      show Steps p.tables e below (T318.setTop (mkF m 64 #[.val (.int p0), .val (.int p1), .val (.int p2), .val (.int p3), .val (.int p4), .val (.int p5), .val (.int (2 : Int32)), .val (.ref b311), .unset, .unset, .unset, .unset, .unset, .unset, .unset] [])) _
      refine XS.iload X318.here hx rfl (hb hby at_64) rfl ?_
      show Steps p.tables e below (T318.setTop (mkF m 66 #[.val (.int p0), .val (.int p1), .val (.int p2), .val (.int p3), .val (.int p4), .val (.int p5), .val (.int (2 : Int32)), .val (.ref b311), .unset, .unset, .unset, .unset, .unset, .unset, .unset] [(.int (2 : Int32))])) _
      refine XS.iconst X318.here hx rfl (hb hby at_66) ?_
      show Steps p.tables e below (T318.setTop (mkF m 67 #[.val (.int p0), .val (.int p1), .val (.int p2), .val (.int p3), .val (.int p4), .val (.int p5), .val (.int (2 : Int32)), .val (.ref b311), .unset, .unset, .unset, .unset, .unset, .unset, .unset] [(.int (2 : Int32)), (.int (2 : Int32))])) _
      show Steps p.tables e below (T318.setTop (mkF m 67 #[.val (.int p0), .val (.int p1), .val (.int p2), .val (.int p3), .val (.int p4), .val (.int p5), .val (.int (2 : Int32)), .val (.ref b311), .unset, .unset, .unset, .unset, .unset, .unset, .unset] [(.int (2 : Int32)), (.int (2 : Int32))])) _
      refine XS.icmpNo X318.here hx rfl (hb hby at_67) rfl (teq (by decide : (2 : Int32) = (2 : Int32))).2 ?_
      show Steps p.tables e below (T318.setTop (mkF m 70 #[.val (.int p0), .val (.int p1), .val (.int p2), .val (.int p3), .val (.int p4), .val (.int p5), .val (.int (2 : Int32)), .val (.ref b311), .unset, .unset, .unset, .unset, .unset, .unset, .unset] [])) _
      refine XS.iloadN X318.here hx rfl (hb hby at_70) rfl ?_
      show Steps p.tables e below (T318.setTop (mkF m 71 #[.val (.int p0), .val (.int p1), .val (.int p2), .val (.int p3), .val (.int p4), .val (.int p5), .val (.int (2 : Int32)), .val (.ref b311), .unset, .unset, .unset, .unset, .unset, .unset, .unset] [(.int p2)])) _
      refine XS.istore X318.here hx rfl (hb hby at_71) rfl (l' := #[.val (.int p0), .val (.int p1), .val (.int p2), .val (.int p3), .val (.int p4), .val (.int p5), .val (.int (2 : Int32)), .val (.ref b311), .val (.int p2), .unset, .unset, .unset, .unset, .unset, .unset]) rfl ?_
      show Steps p.tables e below (T318.setTop (mkF m 73 #[.val (.int p0), .val (.int p1), .val (.int p2), .val (.int p3), .val (.int p4), .val (.int p5), .val (.int (2 : Int32)), .val (.ref b311), .val (.int p2), .unset, .unset, .unset, .unset, .unset, .unset] [])) _
      refine XS.goto X318.here hx rfl (pc0 := 73) (pc' := 92) rfl (hb hby at_73) (by decide) (by decide) ?_
      show Steps p.tables e below (T318.setTop (mkF m 92 #[.val (.int p0), .val (.int p1), .val (.int p2), .val (.int p3), .val (.int p4), .val (.int p5), .val (.int (2 : Int32)), .val (.ref b311), .val (.int p2), .unset, .unset, .unset, .unset, .unset, .unset] [])) _
      refine XS.iload X318.here hx rfl (hb hby at_92) rfl ?_
      show Steps p.tables e below (T318.setTop (mkF m 94 #[.val (.int p0), .val (.int p1), .val (.int p2), .val (.int p3), .val (.int p4), .val (.int p5), .val (.int (2 : Int32)), .val (.ref b311), .val (.int p2), .unset, .unset, .unset, .unset, .unset, .unset] [(.int p5)])) _
      refine X318.ldcInt hx hown (mvT hZ (hw _ (List.mem_of_getElem? (i := 1) rfl))) (g := (mkF m 94 #[.val (.int p0), .val (.int p1), .val (.int p2), .val (.int p3), .val (.int p4), .val (.int p5), .val (.int (2 : Int32)), .val (.ref b311), .val (.int p2), .unset, .unset, .unset, .unset, .unset, .unset] [(.int p5)])) rfl (hb hby at_94) _ ?_
      show Steps p.tables e below (T318.setTop (mkF m 96 #[.val (.int p0), .val (.int p1), .val (.int p2), .val (.int p3), .val (.int p4), .val (.int p5), .val (.int (2 : Int32)), .val (.ref b311), .val (.int p2), .unset, .unset, .unset, .unset, .unset, .unset] [(.int (65535 : Int32)), (.int p5)])) _
      refine XS.iand X318.here hx rfl (hb hby at_96) rfl ?_
      show Steps p.tables e below (T318.setTop (mkF m 97 #[.val (.int p0), .val (.int p1), .val (.int p2), .val (.int p3), .val (.int p4), .val (.int p5), .val (.int (2 : Int32)), .val (.ref b311), .val (.int p2), .unset, .unset, .unset, .unset, .unset, .unset] [(.int (p5 &&& (65535 : Int32)))])) _
      refine XS.iconst X318.here hx rfl (hb hby at_97) ?_
      show Steps p.tables e below (T318.setTop (mkF m 98 #[.val (.int p0), .val (.int p1), .val (.int p2), .val (.int p3), .val (.int p4), .val (.int p5), .val (.int (2 : Int32)), .val (.ref b311), .val (.int p2), .unset, .unset, .unset, .unset, .unset, .unset] [(.int (1 : Int32)), (.int (p5 &&& (65535 : Int32)))])) _
      refine XS.iadd X318.here hx rfl (hb hby at_98) rfl ?_
      show Steps p.tables e below (T318.setTop (mkF m 99 #[.val (.int p0), .val (.int p1), .val (.int p2), .val (.int p3), .val (.int p4), .val (.int p5), .val (.int (2 : Int32)), .val (.ref b311), .val (.int p2), .unset, .unset, .unset, .unset, .unset, .unset] [(.int ((p5 &&& (65535 : Int32)) + (1 : Int32)))])) _
      exact k
    obtain ⟨v322, hv322⟩ : ∃ z : Int32, z = ((p5 &&& (65535 : Int32)) + (1 : Int32)) := ⟨_, rfl⟩
    have pre323 : ∀ t, Steps p.tables e below (T318.setTop (mkF m 99 #[.val (.int p0), .val (.int p1), .val (.int p2), .val (.int p3), .val (.int p4), .val (.int p5), .val (.int (2 : Int32)), .val (.ref b311), .val (.int p2), .unset, .unset, .unset, .unset, .unset, .unset] [(.int v322)])) t → Steps p.tables e below (s₁.setTop (entryFrame m #[(.int p0), (.int p1), (.int p2), (.int p3), (.int p4), (.int p5)] maxLocals)) t := by rw [hv322]; exact pre321
    have pre324 : ∀ t, Steps p.tables e below (T318.setTop (mkF m 111 #[.val (.int p0), .val (.int p1), .val (.int p2), .val (.int p3), .val (.int p4), .val (.int p5), .val (.int (2 : Int32)), .val (.ref b311), .val (.int p2), .val (.int v322), .unset, .unset, .unset, .unset, .unset] [(.int ((((p5.toUInt32 >>> ((16 : Int32) &&& 31).toUInt32).toInt32) &&& (65535 : Int32)) + (1 : Int32)))])) t → Steps p.tables e below (s₁.setTop (entryFrame m #[(.int p0), (.int p1), (.int p2), (.int p3), (.int p4), (.int p5)] maxLocals)) t := by
      intro t k
      refine pre323 t ?_
      show Steps p.tables e below (T318.setTop (mkF m 99 #[.val (.int p0), .val (.int p1), .val (.int p2), .val (.int p3), .val (.int p4), .val (.int p5), .val (.int (2 : Int32)), .val (.ref b311), .val (.int p2), .unset, .unset, .unset, .unset, .unset, .unset] [(.int v322)])) _
      refine XS.istore X318.here hx rfl (hb hby at_99) rfl (l' := #[.val (.int p0), .val (.int p1), .val (.int p2), .val (.int p3), .val (.int p4), .val (.int p5), .val (.int (2 : Int32)), .val (.ref b311), .val (.int p2), .val (.int v322), .unset, .unset, .unset, .unset, .unset]) rfl ?_
      show Steps p.tables e below (T318.setTop (mkF m 101 #[.val (.int p0), .val (.int p1), .val (.int p2), .val (.int p3), .val (.int p4), .val (.int p5), .val (.int (2 : Int32)), .val (.ref b311), .val (.int p2), .val (.int v322), .unset, .unset, .unset, .unset, .unset] [])) _
      refine XS.iload X318.here hx rfl (hb hby at_101) rfl ?_
      show Steps p.tables e below (T318.setTop (mkF m 103 #[.val (.int p0), .val (.int p1), .val (.int p2), .val (.int p3), .val (.int p4), .val (.int p5), .val (.int (2 : Int32)), .val (.ref b311), .val (.int p2), .val (.int v322), .unset, .unset, .unset, .unset, .unset] [(.int p5)])) _
      refine XS.bipush X318.here hx rfl (hb hby at_103) ?_
      show Steps p.tables e below (T318.setTop (mkF m 105 #[.val (.int p0), .val (.int p1), .val (.int p2), .val (.int p3), .val (.int p4), .val (.int p5), .val (.int (2 : Int32)), .val (.ref b311), .val (.int p2), .val (.int v322), .unset, .unset, .unset, .unset, .unset] [(.int (16 : Int32)), (.int p5)])) _
      refine XS.iushr X318.here hx rfl (hb hby at_105) rfl ?_
      show Steps p.tables e below (T318.setTop (mkF m 106 #[.val (.int p0), .val (.int p1), .val (.int p2), .val (.int p3), .val (.int p4), .val (.int p5), .val (.int (2 : Int32)), .val (.ref b311), .val (.int p2), .val (.int v322), .unset, .unset, .unset, .unset, .unset] [(.int ((p5.toUInt32 >>> ((16 : Int32) &&& 31).toUInt32).toInt32))])) _
      refine X318.ldcInt hx hown (mvT hZ (hw _ (List.mem_of_getElem? (i := 1) rfl))) (g := (mkF m 106 #[.val (.int p0), .val (.int p1), .val (.int p2), .val (.int p3), .val (.int p4), .val (.int p5), .val (.int (2 : Int32)), .val (.ref b311), .val (.int p2), .val (.int v322), .unset, .unset, .unset, .unset, .unset] [(.int ((p5.toUInt32 >>> ((16 : Int32) &&& 31).toUInt32).toInt32))])) rfl (hb hby at_106) _ ?_
      show Steps p.tables e below (T318.setTop (mkF m 108 #[.val (.int p0), .val (.int p1), .val (.int p2), .val (.int p3), .val (.int p4), .val (.int p5), .val (.int (2 : Int32)), .val (.ref b311), .val (.int p2), .val (.int v322), .unset, .unset, .unset, .unset, .unset] [(.int (65535 : Int32)), (.int ((p5.toUInt32 >>> ((16 : Int32) &&& 31).toUInt32).toInt32))])) _
      refine XS.iand X318.here hx rfl (hb hby at_108) rfl ?_
      show Steps p.tables e below (T318.setTop (mkF m 109 #[.val (.int p0), .val (.int p1), .val (.int p2), .val (.int p3), .val (.int p4), .val (.int p5), .val (.int (2 : Int32)), .val (.ref b311), .val (.int p2), .val (.int v322), .unset, .unset, .unset, .unset, .unset] [(.int (((p5.toUInt32 >>> ((16 : Int32) &&& 31).toUInt32).toInt32) &&& (65535 : Int32)))])) _
      refine XS.iconst X318.here hx rfl (hb hby at_109) ?_
      show Steps p.tables e below (T318.setTop (mkF m 110 #[.val (.int p0), .val (.int p1), .val (.int p2), .val (.int p3), .val (.int p4), .val (.int p5), .val (.int (2 : Int32)), .val (.ref b311), .val (.int p2), .val (.int v322), .unset, .unset, .unset, .unset, .unset] [(.int (1 : Int32)), (.int (((p5.toUInt32 >>> ((16 : Int32) &&& 31).toUInt32).toInt32) &&& (65535 : Int32)))])) _
      refine XS.iadd X318.here hx rfl (hb hby at_110) rfl ?_
      show Steps p.tables e below (T318.setTop (mkF m 111 #[.val (.int p0), .val (.int p1), .val (.int p2), .val (.int p3), .val (.int p4), .val (.int p5), .val (.int (2 : Int32)), .val (.ref b311), .val (.int p2), .val (.int v322), .unset, .unset, .unset, .unset, .unset] [(.int ((((p5.toUInt32 >>> ((16 : Int32) &&& 31).toUInt32).toInt32) &&& (65535 : Int32)) + (1 : Int32)))])) _
      exact k
    obtain ⟨v325, hv325⟩ : ∃ z : Int32, z = ((((p5.toUInt32 >>> ((16 : Int32) &&& 31).toUInt32).toInt32) &&& (65535 : Int32)) + (1 : Int32)) := ⟨_, rfl⟩
    have pre326 : ∀ t, Steps p.tables e below (T318.setTop (mkF m 111 #[.val (.int p0), .val (.int p1), .val (.int p2), .val (.int p3), .val (.int p4), .val (.int p5), .val (.int (2 : Int32)), .val (.ref b311), .val (.int p2), .val (.int v322), .unset, .unset, .unset, .unset, .unset] [(.int v325)])) t → Steps p.tables e below (s₁.setTop (entryFrame m #[(.int p0), (.int p1), (.int p2), (.int p3), (.int p4), (.int p5)] maxLocals)) t := by rw [hv325]; exact pre324
    have pre327 : ∀ t, Steps p.tables e below (T318.setTop (mkF m 113 #[.val (.int p0), .val (.int p1), .val (.int p2), .val (.int p3), .val (.int p4), .val (.int p5), .val (.int (2 : Int32)), .val (.ref b311), .val (.int p2), .val (.int v322), .val (.int v325), .unset, .unset, .unset, .unset] [])) t → Steps p.tables e below (s₁.setTop (entryFrame m #[(.int p0), (.int p1), (.int p2), (.int p3), (.int p4), (.int p5)] maxLocals)) t := by
      intro t k
      refine pre326 t ?_
      show Steps p.tables e below (T318.setTop (mkF m 111 #[.val (.int p0), .val (.int p1), .val (.int p2), .val (.int p3), .val (.int p4), .val (.int p5), .val (.int (2 : Int32)), .val (.ref b311), .val (.int p2), .val (.int v322), .unset, .unset, .unset, .unset, .unset] [(.int v325)])) _
      refine XS.istore X318.here hx rfl (hb hby at_111) rfl (l' := #[.val (.int p0), .val (.int p1), .val (.int p2), .val (.int p3), .val (.int p4), .val (.int p5), .val (.int (2 : Int32)), .val (.ref b311), .val (.int p2), .val (.int v322), .val (.int v325), .unset, .unset, .unset, .unset]) rfl ?_
      show Steps p.tables e below (T318.setTop (mkF m 113 #[.val (.int p0), .val (.int p1), .val (.int p2), .val (.int p3), .val (.int p4), .val (.int p5), .val (.int (2 : Int32)), .val (.ref b311), .val (.int p2), .val (.int v322), .val (.int v325), .unset, .unset, .unset, .unset] [])) _
      exact k
    obtain ⟨T328, h328, X328, e328, E328, A328, D328, -, st328⟩ := newO X318 hx hZ hown (hw _ (List.mem_of_getElem? (i := 2) rfl)) (hw _ (List.mem_of_getElem? (i := 3) rfl)) (hw _ (List.mem_of_getElem? (i := 4) rfl)) e318 (g := (mkF m 113 #[.val (.int p0), .val (.int p1), .val (.int p2), .val (.int p3), .val (.int p4), .val (.int p5), .val (.int (2 : Int32)), .val (.ref b311), .val (.int p2), .val (.int v322), .val (.int v325), .unset, .unset, .unset, .unset] [])) rfl (hb hby at_113) (by decide) (by decide)
    obtain ⟨b328, g328⟩ : ∃ z, z = h318.size := ⟨_, rfl⟩
    rw [← g328] at A328 D328 st328
    have ne_b311_b328 : b311 ≠ b328 := Nat.ne_of_lt (Nat.lt_of_lt_of_le (Ef319).lt (Nat.le_of_eq g328.symm))
    have g_b328 : n0 ≤ b328 := Nat.le_trans Z318 (Nat.le_of_eq g328.symm)
    have sz_b328 : h0.size ≤ b328 := Nat.le_trans K318.1 (Nat.le_of_eq g328.symm)
    have Z328 : n0 ≤ h328.size := Nat.le_trans Z318 E328.1
    have K328 : Keep h0 h328 [] := K318.ext E328
    have Ef329 : Exa Z h328 b311 "[I" := (Ef319).ext E328
    have Vf330 : Arv Z h328 b311 k311 .int (2 : Int32) [(.int p1), (.int p2)] (.int (0 : Int32)) := (V318).ext E328
    have Fnumber_b328 : Fld Z h328 b328 "com/example/timely_exodus/timelyexodus/plan/Vehicle" "number" "I" (.int (0 : Int32)) := D328 (Or.inr (hw _ (List.mem_of_getElem? (i := 12) rfl))) (ty := .int) (by decide)
    have FdeparturePeriod_b328 : Fld Z h328 b328 "com/example/timely_exodus/timelyexodus/plan/Vehicle" "departurePeriod" "I" (.int (0 : Int32)) := D328 (Or.inr (hw _ (List.mem_of_getElem? (i := 14) rfl))) (ty := .int) (by decide)
    have Froute_b328 : Fld Z h328 b328 "com/example/timely_exodus/timelyexodus/plan/Vehicle" "route" "[I" .null := D328 (Or.inr (hw _ (List.mem_of_getElem? (i := 25) rfl))) (ty := (.array .int)) (by decide)
    have pre331 : ∀ t, Steps p.tables e below (T328.setTop (mkF m 116 #[.val (.int p0), .val (.int p1), .val (.int p2), .val (.int p3), .val (.int p4), .val (.int p5), .val (.int (2 : Int32)), .val (.ref b311), .val (.int p2), .val (.int v322), .val (.int v325), .unset, .unset, .unset, .unset] [(.ref b328)])) t → Steps p.tables e below (s₁.setTop (entryFrame m #[(.int p0), (.int p1), (.int p2), (.int p3), (.int p4), (.int p5)] maxLocals)) t := fun t k => pre327 t (st328 t k)
    have pre332 : ∀ t, Steps p.tables e below (T328.setTop (mkF m 123 #[.val (.int p0), .val (.int p1), .val (.int p2), .val (.int p3), .val (.int p4), .val (.int p5), .val (.int (2 : Int32)), .val (.ref b311), .val (.int p2), .val (.int v322), .val (.int v325), .unset, .unset, .unset, .unset] [(.ref b311), (.int v325), (.int v322), (.ref b328), (.ref b328)])) t → Steps p.tables e below (s₁.setTop (entryFrame m #[(.int p0), (.int p1), (.int p2), (.int p3), (.int p4), (.int p5)] maxLocals)) t := by
      intro t k
      refine pre331 t ?_
      show Steps p.tables e below (T328.setTop (mkF m 116 #[.val (.int p0), .val (.int p1), .val (.int p2), .val (.int p3), .val (.int p4), .val (.int p5), .val (.int (2 : Int32)), .val (.ref b311), .val (.int p2), .val (.int v322), .val (.int v325), .unset, .unset, .unset, .unset] [(.ref b328)])) _
      refine XS.dup X328.here hx rfl (hb hby at_116) rfl rfl ?_
      show Steps p.tables e below (T328.setTop (mkF m 117 #[.val (.int p0), .val (.int p1), .val (.int p2), .val (.int p3), .val (.int p4), .val (.int p5), .val (.int (2 : Int32)), .val (.ref b311), .val (.int p2), .val (.int v322), .val (.int v325), .unset, .unset, .unset, .unset] [(.ref b328), (.ref b328)])) _
      refine XS.iload X328.here hx rfl (hb hby at_117) rfl ?_
      show Steps p.tables e below (T328.setTop (mkF m 119 #[.val (.int p0), .val (.int p1), .val (.int p2), .val (.int p3), .val (.int p4), .val (.int p5), .val (.int (2 : Int32)), .val (.ref b311), .val (.int p2), .val (.int v322), .val (.int v325), .unset, .unset, .unset, .unset] [(.int v322), (.ref b328), (.ref b328)])) _
      refine XS.iload X328.here hx rfl (hb hby at_119) rfl ?_
      show Steps p.tables e below (T328.setTop (mkF m 121 #[.val (.int p0), .val (.int p1), .val (.int p2), .val (.int p3), .val (.int p4), .val (.int p5), .val (.int (2 : Int32)), .val (.ref b311), .val (.int p2), .val (.int v322), .val (.int v325), .unset, .unset, .unset, .unset] [(.int v325), (.int v322), (.ref b328), (.ref b328)])) _
      refine XS.aload X328.here hx rfl (hb hby at_121) rfl rfl ?_
      show Steps p.tables e below (T328.setTop (mkF m 123 #[.val (.int p0), .val (.int p1), .val (.int p2), .val (.int p3), .val (.int p4), .val (.int p5), .val (.int (2 : Int32)), .val (.ref b311), .val (.int p2), .val (.int v322), .val (.int v325), .unset, .unset, .unset, .unset] [(.ref b311), (.int v325), (.int v322), (.ref b328), (.ref b328)])) _
      exact k
    obtain ⟨_, _, ⟨T333, L333, k333, n333⟩, -, X333, ⟨Lc333, hQ333, l333, y333, z333⟩, st333⟩ := X328.specialBack hx (y := (⟨"com/example/timely_exodus/timelyexodus/plan/Vehicle", "<init>", "(II[I)V"⟩ : MethodName)) rfl hown (mvT hZ (hw _ (List.mem_of_getElem? (i := 5) rfl))) (mvT hZ (hw _ (List.mem_of_getElem? (i := 6) rfl))) (mvT hZ (hw _ (List.mem_of_getElem? (i := 7) rfl))) (by decide) (backOf (W := 1) (rm1_n2 l Z ar0 hw [] b328 v322 v325 b311 k311 p1 p2 (0 : Int32) .null (0 : Int32) h328 n0 Z328 Vf330 Ef329 FdeparturePeriod_b328 Froute_b328 (own_posA hv322) (own_posB hv325) A328 Fnumber_b328 g_b328 ne_b311_b328) hZ (hw _ (List.mem_of_getElem? (i := 7) rfl)) (hw _ (List.mem_of_getElem? (i := 4) rfl)) (by decide) (by decide)) (g := (mkF m 123 #[.val (.int p0), .val (.int p1), .val (.int p2), .val (.int p3), .val (.int p4), .val (.int p5), .val (.int (2 : Int32)), .val (.ref b311), .val (.int p2), .val (.int v322), .val (.int v325), .unset, .unset, .unset, .unset] [(.ref b311), (.int v325), (.int v322), (.ref b328), (.ref b328)])) rfl (by rw [hml]; rfl) (Steps.refl _) (a := b328) (argsL := [(.int v322), (.int v325), (.ref b311)]) (rest := [(.ref b328)]) (lenOf pd_0 rfl) rfl (by show 2 * 0 + _ ≤ _; exact Nat.le_of_eq rfl) (hb hby at_123) (fun _ _ => ⟨rfl, e328, (by decide : 2 + 1 ≤ _), (by decide : 5 + 2 ≤ _)⟩)
    dsimp only [Pt.U, Pt.locs, Pt.cells, Pt.slots] at X333 l333 y333 z333 st333 hQ333
    subst l333 y333 z333
    obtain ⟨h333, e333⟩ : ∃ h, T333.heap = h := ⟨_, rfl⟩
    rw [e333] at hQ333
    obtain ⟨b333, kb333, rfl, N333q, K333q, Q333_0, Q333_1, Q333_2, Q333_3, y_b333, Ob333_0, Ob333_1⟩ := hQ333
    have N333 := Fr.app N318 N333q
    have ne_b311_b333 : b311 ≠ b333 := Nat.ne_of_lt (Nat.lt_of_lt_of_le (Ef329).lt y_b333)
    have ne_b328_b333 : b328 ≠ b333 := Nat.ne_of_lt (Nat.lt_of_lt_of_le (A328).lt y_b333)
    have g_b333 : n0 ≤ b333 := Nat.le_trans Z328 y_b333
    have sz_b333 : h0.size ≤ b333 := Nat.le_trans K328.1 y_b333
    have Z333 : n0 ≤ h333.size := Nat.le_trans Z328 K333q.1
    have K333 : Keep h0 h333 [] := K328.trans K333q (fun x hx => by cases List.mem_singleton.mp hx; exact Or.inr sz_b328)
    have Ef334 : Exa Z h333 b311 "[I" := (Ef329).keep K333q
    have Vf335 : Arv Z h333 b311 k311 .int (2 : Int32) [(.int p1), (.int p2)] (.int (0 : Int32)) := (Vf330).keep K333q (fun q => absurd (List.mem_singleton.mp q) ne_b311_b328)
    have Ef336 : Exa Z h333 b328 "com/example/timely_exodus/timelyexodus/plan/Vehicle" := (A328).keep K333q
    have pre337 : ∀ t, Steps p.tables e below (T333.setTop (mkF m 126 #[.val (.int p0), .val (.int p1), .val (.int p2), .val (.int p3), .val (.int p4), .val (.int p5), .val (.int (2 : Int32)), .val (.ref b311), .val (.int p2), .val (.int v322), .val (.int v325), .unset, .unset, .unset, .unset] [(.ref b328)])) t → Steps p.tables e below (s₁.setTop (entryFrame m #[(.int p0), (.int p1), (.int p2), (.int p3), (.int p4), (.int p5)] maxLocals)) t := fun t k => pre332 t (st333.trans k)
    have pre338 : ∀ t, Steps p.tables e below (T333.setTop (mkF m 130 #[.val (.int p0), .val (.int p1), .val (.int p2), .val (.int p3), .val (.int p4), .val (.int p5), .val (.int (2 : Int32)), .val (.ref b311), .val (.int p2), .val (.int v322), .val (.int v325), .val (.ref b328), .unset, .unset, .unset] [(.ref b328)])) t → Steps p.tables e below (s₁.setTop (entryFrame m #[(.int p0), (.int p1), (.int p2), (.int p3), (.int p4), (.int p5)] maxLocals)) t := by
      intro t k
      refine pre337 t ?_
      show Steps p.tables e below (T333.setTop (mkF m 126 #[.val (.int p0), .val (.int p1), .val (.int p2), .val (.int p3), .val (.int p4), .val (.int p5), .val (.int (2 : Int32)), .val (.ref b311), .val (.int p2), .val (.int v322), .val (.int v325), .unset, .unset, .unset, .unset] [(.ref b328)])) _
      refine XS.astore X333.here hx rfl (hb hby at_126) rfl rfl (l' := #[.val (.int p0), .val (.int p1), .val (.int p2), .val (.int p3), .val (.int p4), .val (.int p5), .val (.int (2 : Int32)), .val (.ref b311), .val (.int p2), .val (.int v322), .val (.int v325), .val (.ref b328), .unset, .unset, .unset]) rfl ?_
      show Steps p.tables e below (T333.setTop (mkF m 128 #[.val (.int p0), .val (.int p1), .val (.int p2), .val (.int p3), .val (.int p4), .val (.int p5), .val (.int (2 : Int32)), .val (.ref b311), .val (.int p2), .val (.int v322), .val (.int v325), .val (.ref b328), .unset, .unset, .unset] [])) _
      refine XS.aload X333.here hx rfl (hb hby at_128) rfl rfl ?_
      show Steps p.tables e below (T333.setTop (mkF m 130 #[.val (.int p0), .val (.int p1), .val (.int p2), .val (.int p3), .val (.int p4), .val (.int p5), .val (.int (2 : Int32)), .val (.ref b311), .val (.int p2), .val (.int v322), .val (.int v325), .val (.ref b328), .unset, .unset, .unset] [(.ref b328)])) _
      exact k
    obtain ⟨cq339, kq339, q339a, q339b, q339c⟩ := isOf hZ e333 Q333_0
    obtain ⟨_, _, ⟨T339, L339, k339, n339⟩, -, X339, ⟨Lc339, hQ339, l339, y339, z339⟩, st339⟩ := X333.virtualBack hx (y := (⟨"com/example/timely_exodus/timelyexodus/plan/Vehicle", "getExitCell", "()I"⟩ : MethodName)) (z := (⟨"com/example/timely_exodus/timelyexodus/plan/Vehicle", "getExitCell", "()I"⟩ : MethodName)) hown (mvT hZ (hw _ (List.mem_of_getElem? (i := 26) rfl))) (mvT hZ (hw _ (List.mem_of_getElem? (i := 27) rfl))) (notFace_of_selects (args := #[]) (mvT hZ (hw _ (List.mem_of_getElem? (i := 29) rfl)))) (mvT hZ (hw _ (List.mem_of_getElem? (i := 29) rfl))) (mvT hZ (hw _ (List.mem_of_getElem? (i := 28) rfl))) (by decide) (backOf (W := 0) (rm3_n2 l Z ar0 hw [] b328 b333 kb333 p1 p2 h333 n0 Z333 Q333_3 Ob333_0) hZ (hw _ (List.mem_of_getElem? (i := 30) rfl)) (hw _ (List.mem_of_getElem? (i := 4) rfl)) (by decide) (by decide)) q339a q339c (g := (mkF m 130 #[.val (.int p0), .val (.int p1), .val (.int p2), .val (.int p3), .val (.int p4), .val (.int p5), .val (.int (2 : Int32)), .val (.ref b311), .val (.int p2), .val (.int v322), .val (.int v325), .val (.ref b328), .unset, .unset, .unset] [(.ref b328)])) rfl (by rw [hml]; rfl) (Steps.refl _) (argsL := []) (rest := []) (lenOf pd_1 rfl) rfl (by show 2 * 0 + _ ≤ _; exact Nat.le_of_eq rfl) (hb hby at_130) (fun _ _ => ⟨rfl, e333, (by decide : 3 + 0 ≤ _), (by decide : 7 + 0 ≤ _)⟩)
    dsimp only [Pt.U, Pt.locs, Pt.cells, Pt.slots] at X339 l339 y339 z339 st339 hQ339
    subst l339 y339 z339
    obtain ⟨rfl, N339q, e339⟩ := hQ339
    have N339 := Fr.app N333 N339q
    have pre340 : ∀ t, Steps p.tables e below (T339.setTop (mkF m 133 #[.val (.int p0), .val (.int p1), .val (.int p2), .val (.int p3), .val (.int p4), .val (.int p5), .val (.int (2 : Int32)), .val (.ref b311), .val (.int p2), .val (.int v322), .val (.int v325), .val (.ref b328), .unset, .unset, .unset] [(.int p2)])) t → Steps p.tables e below (s₁.setTop (entryFrame m #[(.int p0), (.int p1), (.int p2), (.int p3), (.int p4), (.int p5)] maxLocals)) t := fun t k => pre338 t (st339.trans k)
    have pre341 : ∀ t, Steps p.tables e below (T339.setTop (mkF m 155 #[.val (.int p0), .val (.int p1), .val (.int p2), .val (.int p3), .val (.int p4), .val (.int p5), .val (.int (2 : Int32)), .val (.ref b311), .val (.int p2), .val (.int v322), .val (.int v325), .val (.ref b328), .val (.int (1 : Int32)), .unset, .unset] [(.int (p2 ^^^ (-1 : Int32))), (.int (1 : Int32)), (.ref b311)])) t → Steps p.tables e below (s₁.setTop (entryFrame m #[(.int p0), (.int p1), (.int p2), (.int p3), (.int p4), (.int p5)] maxLocals)) t := by
      intro t k
      refine pre340 t ?_
      show Steps p.tables e below (T339.setTop (mkF m 133 #[.val (.int p0), .val (.int p1), .val (.int p2), .val (.int p3), .val (.int p4), .val (.int p5), .val (.int (2 : Int32)), .val (.ref b311), .val (.int p2), .val (.int v322), .val (.int v325), .val (.ref b328), .unset, .unset, .unset] [(.int p2)])) _
      refine XS.iload X339.here hx rfl (hb hby at_133) rfl ?_
      show Steps p.tables e below (T339.setTop (mkF m 135 #[.val (.int p0), .val (.int p1), .val (.int p2), .val (.int p3), .val (.int p4), .val (.int p5), .val (.int (2 : Int32)), .val (.ref b311), .val (.int p2), .val (.int v322), .val (.int v325), .val (.ref b328), .unset, .unset, .unset] [(.int p2), (.int p2)])) _
      show Steps p.tables e below (T339.setTop (mkF m 135 #[.val (.int p0), .val (.int p1), .val (.int p2), .val (.int p3), .val (.int p4), .val (.int p5), .val (.int (2 : Int32)), .val (.ref b311), .val (.int p2), .val (.int v322), .val (.int v325), .val (.ref b328), .unset, .unset, .unset] [(.int p2), (.int p2)])) _
      refine XS.icmpNo X339.here hx rfl (hb hby at_135) rfl (teq (rfl : p2 = p2)).2 ?_
      show Steps p.tables e below (T339.setTop (mkF m 138 #[.val (.int p0), .val (.int p1), .val (.int p2), .val (.int p3), .val (.int p4), .val (.int p5), .val (.int (2 : Int32)), .val (.ref b311), .val (.int p2), .val (.int v322), .val (.int v325), .val (.ref b328), .unset, .unset, .unset] [])) _
      refine XS.iconst X339.here hx rfl (hb hby at_138) ?_
      show Steps p.tables e below (T339.setTop (mkF m 139 #[.val (.int p0), .val (.int p1), .val (.int p2), .val (.int p3), .val (.int p4), .val (.int p5), .val (.int (2 : Int32)), .val (.ref b311), .val (.int p2), .val (.int v322), .val (.int v325), .val (.ref b328), .unset, .unset, .unset] [(.int (1 : Int32))])) _
      refine XS.goto X339.here hx rfl (pc0 := 139) (pc' := 143) rfl (hb hby at_139) (by decide) (by decide) ?_
      show Steps p.tables e below (T339.setTop (mkF m 143 #[.val (.int p0), .val (.int p1), .val (.int p2), .val (.int p3), .val (.int p4), .val (.int p5), .val (.int (2 : Int32)), .val (.ref b311), .val (.int p2), .val (.int v322), .val (.int v325), .val (.ref b328), .unset, .unset, .unset] [(.int (1 : Int32))])) _
      refine XS.istore X339.here hx rfl (hb hby at_143) rfl (l' := #[.val (.int p0), .val (.int p1), .val (.int p2), .val (.int p3), .val (.int p4), .val (.int p5), .val (.int (2 : Int32)), .val (.ref b311), .val (.int p2), .val (.int v322), .val (.int v325), .val (.ref b328), .val (.int (1 : Int32)), .unset, .unset]) rfl ?_
      show Steps p.tables e below (T339.setTop (mkF m 145 #[.val (.int p0), .val (.int p1), .val (.int p2), .val (.int p3), .val (.int p4), .val (.int p5), .val (.int (2 : Int32)), .val (.ref b311), .val (.int p2), .val (.int v322), .val (.int v325), .val (.ref b328), .val (.int (1 : Int32)), .unset, .unset] [])) _
      refine XS.aload X339.here hx rfl (hb hby at_145) rfl rfl ?_
      show Steps p.tables e below (T339.setTop (mkF m 147 #[.val (.int p0), .val (.int p1), .val (.int p2), .val (.int p3), .val (.int p4), .val (.int p5), .val (.int (2 : Int32)), .val (.ref b311), .val (.int p2), .val (.int v322), .val (.int v325), .val (.ref b328), .val (.int (1 : Int32)), .unset, .unset] [(.ref b311)])) _
      refine XS.iload X339.here hx rfl (hb hby at_147) rfl ?_
      show Steps p.tables e below (T339.setTop (mkF m 149 #[.val (.int p0), .val (.int p1), .val (.int p2), .val (.int p3), .val (.int p4), .val (.int p5), .val (.int (2 : Int32)), .val (.ref b311), .val (.int p2), .val (.int v322), .val (.int v325), .val (.ref b328), .val (.int (1 : Int32)), .unset, .unset] [(.int (2 : Int32)), (.ref b311)])) _
      refine XS.iconst X339.here hx rfl (hb hby at_149) ?_
      show Steps p.tables e below (T339.setTop (mkF m 150 #[.val (.int p0), .val (.int p1), .val (.int p2), .val (.int p3), .val (.int p4), .val (.int p5), .val (.int (2 : Int32)), .val (.ref b311), .val (.int p2), .val (.int v322), .val (.int v325), .val (.ref b328), .val (.int (1 : Int32)), .unset, .unset] [(.int (1 : Int32)), (.int (2 : Int32)), (.ref b311)])) _
      refine XS.isub X339.here hx rfl (hb hby at_150) rfl ?_
      show Steps p.tables e below (T339.setTop (mkF m 151 #[.val (.int p0), .val (.int p1), .val (.int p2), .val (.int p3), .val (.int p4), .val (.int p5), .val (.int (2 : Int32)), .val (.ref b311), .val (.int p2), .val (.int v322), .val (.int v325), .val (.ref b328), .val (.int (1 : Int32)), .unset, .unset] [(.int (1 : Int32)), (.ref b311)])) _
      refine XS.iload X339.here hx rfl (hb hby at_151) rfl ?_
      show Steps p.tables e below (T339.setTop (mkF m 153 #[.val (.int p0), .val (.int p1), .val (.int p2), .val (.int p3), .val (.int p4), .val (.int p5), .val (.int (2 : Int32)), .val (.ref b311), .val (.int p2), .val (.int v322), .val (.int v325), .val (.ref b328), .val (.int (1 : Int32)), .unset, .unset] [(.int p2), (.int (1 : Int32)), (.ref b311)])) _
      refine XS.iconst X339.here hx rfl (hb hby at_153) ?_
      show Steps p.tables e below (T339.setTop (mkF m 154 #[.val (.int p0), .val (.int p1), .val (.int p2), .val (.int p3), .val (.int p4), .val (.int p5), .val (.int (2 : Int32)), .val (.ref b311), .val (.int p2), .val (.int v322), .val (.int v325), .val (.ref b328), .val (.int (1 : Int32)), .unset, .unset] [(.int (-1 : Int32)), (.int p2), (.int (1 : Int32)), (.ref b311)])) _
      refine XS.ixor X339.here hx rfl (hb hby at_154) rfl ?_
      show Steps p.tables e below (T339.setTop (mkF m 155 #[.val (.int p0), .val (.int p1), .val (.int p2), .val (.int p3), .val (.int p4), .val (.int p5), .val (.int (2 : Int32)), .val (.ref b311), .val (.int p2), .val (.int v322), .val (.int v325), .val (.ref b328), .val (.int (1 : Int32)), .unset, .unset] [(.int (p2 ^^^ (-1 : Int32))), (.int (1 : Int32)), (.ref b311)])) _
      exact k
    obtain ⟨cl342, Ar342, q342, S342, M342, H342, G342⟩ := id Vf335
    have hin342 : ¬ ((1 : Int32) < 0 ∨ cl342.slots.size ≤ ((1 : Int32)).toNatClampNeg) := inb_of S342 ⟨by decide, by decide⟩
    obtain ⟨T342, h342, X342, e342, W342, st342⟩ := stI X339 hx hZ e339 Ar342 (j := (1 : Int32)) hin342 (g := (mkF m 155 #[.val (.int p0), .val (.int p1), .val (.int p2), .val (.int p3), .val (.int p4), .val (.int p5), .val (.int (2 : Int32)), .val (.ref b311), .val (.int p2), .val (.int v322), .val (.int v325), .val (.ref b328), .val (.int (1 : Int32)), .unset, .unset] [(.int (p2 ^^^ (-1 : Int32))), (.int (1 : Int32)), (.ref b311)])) rfl rfl (hb hby at_155)
    have Z342 : n0 ≤ h342.size := Nat.le_trans Z333 (Keep.of_wr W342).1
    have K342 : Keep h0 h342 [] := K333.wr W342 (Or.inr sz_b311)
    have N342 := Fr.snoc X342 N339 g_b311
    have Ef343 : Exa Z h342 b311 "[I" := (Ef334).wr W342
    have Ef344 : Exa Z h342 b328 "com/example/timely_exodus/timelyexodus/plan/Vehicle" := (Q333_0).wr W342
    have Ff345 : Fld Z h342 b328 "com/example/timely_exodus/timelyexodus/plan/Vehicle" "number" "I" (.int v322) := (Q333_1).other W342 (Or.inl ne_b311_b328.symm)
    have Ff346 : Fld Z h342 b328 "com/example/timely_exodus/timelyexodus/plan/Vehicle" "departurePeriod" "I" (.int v325) := (Q333_2).other W342 (Or.inl ne_b311_b328.symm)
    have Ff347 : Fld Z h342 b328 "com/example/timely_exodus/timelyexodus/plan/Vehicle" "route" "[I" (.ref b333) := (Q333_3).other W342 (Or.inl ne_b311_b328.symm)
    have Vf348 : Arv Z h342 b333 kb333 .int (2 : Int32) [(.int p1), (.int p2)] (.int (0 : Int32)) := (Ob333_0).other W342 ne_b311_b333.symm
    have Ef349 : Exa Z h342 b333 "[I" := (Ob333_1).wr W342
    have V342 : Arv Z h342 b311 k311 .int (2 : Int32) [(.int p1), (.int (p2 ^^^ (-1 : Int32)))] (.int (0 : Int32)) := Arv.set Ar342 q342 S342 M342 H342 G342 rfl W342 1 rfl (Nat.le_of_ble_eq_true rfl)
    have pre350 : ∀ t, Steps p.tables e below (T342.setTop (mkF m 156 #[.val (.int p0), .val (.int p1), .val (.int p2), .val (.int p3), .val (.int p4), .val (.int p5), .val (.int (2 : Int32)), .val (.ref b311), .val (.int p2), .val (.int v322), .val (.int v325), .val (.ref b328), .val (.int (1 : Int32)), .unset, .unset] [])) t → Steps p.tables e below (s₁.setTop (entryFrame m #[(.int p0), (.int p1), (.int p2), (.int p3), (.int p4), (.int p5)] maxLocals)) t := fun t k => pre341 t (st342 t k)
    have pre351 : ∀ t, Steps p.tables e below (T342.setTop (mkF m 158 #[.val (.int p0), .val (.int p1), .val (.int p2), .val (.int p3), .val (.int p4), .val (.int p5), .val (.int (2 : Int32)), .val (.ref b311), .val (.int p2), .val (.int v322), .val (.int v325), .val (.ref b328), .val (.int (1 : Int32)), .unset, .unset] [(.ref b328)])) t → Steps p.tables e below (s₁.setTop (entryFrame m #[(.int p0), (.int p1), (.int p2), (.int p3), (.int p4), (.int p5)] maxLocals)) t := by
      intro t k
      refine pre350 t ?_
      show Steps p.tables e below (T342.setTop (mkF m 156 #[.val (.int p0), .val (.int p1), .val (.int p2), .val (.int p3), .val (.int p4), .val (.int p5), .val (.int (2 : Int32)), .val (.ref b311), .val (.int p2), .val (.int v322), .val (.int v325), .val (.ref b328), .val (.int (1 : Int32)), .unset, .unset] [])) _
      refine XS.aload X342.here hx rfl (hb hby at_156) rfl rfl ?_
      show Steps p.tables e below (T342.setTop (mkF m 158 #[.val (.int p0), .val (.int p1), .val (.int p2), .val (.int p3), .val (.int p4), .val (.int p5), .val (.int (2 : Int32)), .val (.ref b311), .val (.int p2), .val (.int v322), .val (.int v325), .val (.ref b328), .val (.int (1 : Int32)), .unset, .unset] [(.ref b328)])) _
      exact k
    obtain ⟨cq352, kq352, q352a, q352b, q352c⟩ := isOf hZ e342 Ef344
    obtain ⟨_, _, ⟨T352, L352, k352, n352⟩, -, X352, ⟨Lc352, hQ352, l352, y352, z352⟩, st352⟩ := X342.virtualBack hx (y := (⟨"com/example/timely_exodus/timelyexodus/plan/Vehicle", "getRoute", "()[I"⟩ : MethodName)) (z := (⟨"com/example/timely_exodus/timelyexodus/plan/Vehicle", "getRoute", "()[I"⟩ : MethodName)) hown (mvT hZ (hw _ (List.mem_of_getElem? (i := 31) rfl))) (mvT hZ (hw _ (List.mem_of_getElem? (i := 32) rfl))) (notFace_of_selects (args := #[]) (mvT hZ (hw _ (List.mem_of_getElem? (i := 34) rfl)))) (mvT hZ (hw _ (List.mem_of_getElem? (i := 34) rfl))) (mvT hZ (hw _ (List.mem_of_getElem? (i := 33) rfl))) (by decide) (backOf (W := 0) (rm4_n2 l Z ar0 hw [] b328 b333 kb333 p1 p2 h342 n0 Z342 Ff347 Vf348 Ef349) hZ (hw _ (List.mem_of_getElem? (i := 35) rfl)) (hw _ (List.mem_of_getElem? (i := 4) rfl)) (by decide) (by decide)) q352a q352c (g := (mkF m 158 #[.val (.int p0), .val (.int p1), .val (.int p2), .val (.int p3), .val (.int p4), .val (.int p5), .val (.int (2 : Int32)), .val (.ref b311), .val (.int p2), .val (.int v322), .val (.int v325), .val (.ref b328), .val (.int (1 : Int32)), .unset, .unset] [(.ref b328)])) rfl (by rw [hml]; rfl) (Steps.refl _) (argsL := []) (rest := []) (lenOf pd_2 rfl) rfl (by show 2 * 0 + _ ≤ _; exact Nat.le_of_eq rfl) (hb hby at_158) (fun _ _ => ⟨rfl, e342, (by decide : 3 + 1 ≤ _), (by decide : 7 + 2 ≤ _)⟩)
    dsimp only [Pt.U, Pt.locs, Pt.cells, Pt.slots] at X352 l352 y352 z352 st352 hQ352
    subst l352 y352 z352
    obtain ⟨h352, e352⟩ : ∃ h, T352.heap = h := ⟨_, rfl⟩
    rw [e352] at hQ352
    obtain ⟨b352, kb352, rfl, N352q, K352q, y_b352, Ob352_0, Ob352_1⟩ := hQ352
    have N352 := Fr.app N342 N352q
    have ne_b311_b352 : b311 ≠ b352 := Nat.ne_of_lt (Nat.lt_of_lt_of_le (Ef343).lt y_b352)
    have ne_b328_b352 : b328 ≠ b352 := Nat.ne_of_lt (Nat.lt_of_lt_of_le (Ef344).lt y_b352)
    have ne_b333_b352 : b333 ≠ b352 := Nat.ne_of_lt (Nat.lt_of_lt_of_le (Vf348).lt y_b352)
    have g_b352 : n0 ≤ b352 := Nat.le_trans Z342 y_b352
    have sz_b352 : h0.size ≤ b352 := Nat.le_trans K342.1 y_b352
    have Z352 : n0 ≤ h352.size := Nat.le_trans Z342 K352q.1
    have K352 : Keep h0 h352 [] := K342.trans K352q (fun x hx => absurd hx List.not_mem_nil)
    have Ef353 : Exa Z h352 b311 "[I" := (Ef343).keep K352q
    have Ef354 : Exa Z h352 b328 "com/example/timely_exodus/timelyexodus/plan/Vehicle" := (Ef344).keep K352q
    have Ff355 : Fld Z h352 b328 "com/example/timely_exodus/timelyexodus/plan/Vehicle" "number" "I" (.int v322) := (Ff345).keep K352q List.not_mem_nil
    have Ff356 : Fld Z h352 b328 "com/example/timely_exodus/timelyexodus/plan/Vehicle" "departurePeriod" "I" (.int v325) := (Ff346).keep K352q List.not_mem_nil
    have Ff357 : Fld Z h352 b328 "com/example/timely_exodus/timelyexodus/plan/Vehicle" "route" "[I" (.ref b333) := (Ff347).keep K352q List.not_mem_nil
    have Vf358 : Arv Z h352 b333 kb333 .int (2 : Int32) [(.int p1), (.int p2)] (.int (0 : Int32)) := (Vf348).keep K352q List.not_mem_nil
    have Ef359 : Exa Z h352 b333 "[I" := (Ef349).keep K352q
    have Vf360 : Arv Z h352 b311 k311 .int (2 : Int32) [(.int p1), (.int (p2 ^^^ (-1 : Int32)))] (.int (0 : Int32)) := (V342).keep K352q List.not_mem_nil
    have pre361 : ∀ t, Steps p.tables e below (T352.setTop (mkF m 161 #[.val (.int p0), .val (.int p1), .val (.int p2), .val (.int p3), .val (.int p4), .val (.int p5), .val (.int (2 : Int32)), .val (.ref b311), .val (.int p2), .val (.int v322), .val (.int v325), .val (.ref b328), .val (.int (1 : Int32)), .unset, .unset] [(.ref b352)])) t → Steps p.tables e below (s₁.setTop (entryFrame m #[(.int p0), (.int p1), (.int p2), (.int p3), (.int p4), (.int p5)] maxLocals)) t := fun t k => pre351 t (st352.trans k)
    have pre362 : ∀ t, Steps p.tables e below (T352.setTop (mkF m 165 #[.val (.int p0), .val (.int p1), .val (.int p2), .val (.int p3), .val (.int p4), .val (.int p5), .val (.int (2 : Int32)), .val (.ref b311), .val (.int p2), .val (.int v322), .val (.int v325), .val (.ref b328), .val (.int (1 : Int32)), .val (.ref b352), .unset] [(.ref b352)])) t → Steps p.tables e below (s₁.setTop (entryFrame m #[(.int p0), (.int p1), (.int p2), (.int p3), (.int p4), (.int p5)] maxLocals)) t := by
      intro t k
      refine pre361 t ?_
      show Steps p.tables e below (T352.setTop (mkF m 161 #[.val (.int p0), .val (.int p1), .val (.int p2), .val (.int p3), .val (.int p4), .val (.int p5), .val (.int (2 : Int32)), .val (.ref b311), .val (.int p2), .val (.int v322), .val (.int v325), .val (.ref b328), .val (.int (1 : Int32)), .unset, .unset] [(.ref b352)])) _
      refine XS.astore X352.here hx rfl (hb hby at_161) rfl rfl (l' := #[.val (.int p0), .val (.int p1), .val (.int p2), .val (.int p3), .val (.int p4), .val (.int p5), .val (.int (2 : Int32)), .val (.ref b311), .val (.int p2), .val (.int v322), .val (.int v325), .val (.ref b328), .val (.int (1 : Int32)), .val (.ref b352), .unset]) rfl ?_
      show Steps p.tables e below (T352.setTop (mkF m 163 #[.val (.int p0), .val (.int p1), .val (.int p2), .val (.int p3), .val (.int p4), .val (.int p5), .val (.int (2 : Int32)), .val (.ref b311), .val (.int p2), .val (.int v322), .val (.int v325), .val (.ref b328), .val (.int (1 : Int32)), .val (.ref b352), .unset] [])) _
      refine XS.aload X352.here hx rfl (hb hby at_163) rfl rfl ?_
      show Steps p.tables e below (T352.setTop (mkF m 165 #[.val (.int p0), .val (.int p1), .val (.int p2), .val (.int p3), .val (.int p4), .val (.int p5), .val (.int (2 : Int32)), .val (.ref b311), .val (.int p2), .val (.int v322), .val (.int v325), .val (.ref b328), .val (.int (1 : Int32)), .val (.ref b352), .unset] [(.ref b352)])) _
      exact k
    obtain ⟨cl363, Ar363, q363, S363, M363, H363, G363⟩ := id Ob352_0
    have pre364 : ∀ t, Steps p.tables e below (T352.setTop (mkF m 183 #[.val (.int p0), .val (.int p1), .val (.int p2), .val (.int p3), .val (.int p4), .val (.int p5), .val (.int (2 : Int32)), .val (.ref b311), .val (.int p2), .val (.int v322), .val (.int v325), .val (.ref b328), .val (.int (1 : Int32)), .val (.ref b352), .unset] [(.int (p2 ^^^ (-1 : Int32))), (.int (1 : Int32)), (.ref b352)])) t → Steps p.tables e below (s₁.setTop (entryFrame m #[(.int p0), (.int p1), (.int p2), (.int p3), (.int p4), (.int p5)] maxLocals)) t := by
      intro t k
      refine pre362 t ?_
      show Steps p.tables e below (T352.setTop (mkF m 165 #[.val (.int p0), .val (.int p1), .val (.int p2), .val (.int p3), .val (.int p4), .val (.int p5), .val (.int (2 : Int32)), .val (.ref b311), .val (.int p2), .val (.int v322), .val (.int v325), .val (.ref b328), .val (.int (1 : Int32)), .val (.ref b352), .unset] [(.ref b352)])) _
      refine X352.arraylength hx (by rw [e352]; exact Ar363.1) (State.isArrayOf_alike hZ.alike Ar363.2.1) (g := (mkF m 165 #[.val (.int p0), .val (.int p1), .val (.int p2), .val (.int p3), .val (.int p4), .val (.int p5), .val (.int (2 : Int32)), .val (.ref b311), .val (.int p2), .val (.int v322), .val (.int v325), .val (.ref b328), .val (.int (1 : Int32)), .val (.ref b352), .unset] [(.ref b352)])) rfl rfl (hb hby at_165) _ ?_
      rw [len_of S363 M363]
      show Steps p.tables e below (T352.setTop (mkF m 166 #[.val (.int p0), .val (.int p1), .val (.int p2), .val (.int p3), .val (.int p4), .val (.int p5), .val (.int (2 : Int32)), .val (.ref b311), .val (.int p2), .val (.int v322), .val (.int v325), .val (.ref b328), .val (.int (1 : Int32)), .val (.ref b352), .unset] [(.int (2 : Int32))])) _
      refine XS.iload X352.here hx rfl (hb hby at_166) rfl ?_
      show Steps p.tables e below (T352.setTop (mkF m 168 #[.val (.int p0), .val (.int p1), .val (.int p2), .val (.int p3), .val (.int p4), .val (.int p5), .val (.int (2 : Int32)), .val (.ref b311), .val (.int p2), .val (.int v322), .val (.int v325), .val (.ref b328), .val (.int (1 : Int32)), .val (.ref b352), .unset] [(.int (2 : Int32)), (.int (2 : Int32))])) _
      show Steps p.tables e below (T352.setTop (mkF m 168 #[.val (.int p0), .val (.int p1), .val (.int p2), .val (.int p3), .val (.int p4), .val (.int p5), .val (.int (2 : Int32)), .val (.ref b311), .val (.int p2), .val (.int v322), .val (.int v325), .val (.ref b328), .val (.int (1 : Int32)), .val (.ref b352), .unset] [(.int (2 : Int32)), (.int (2 : Int32))])) _
      refine XS.icmpYes X352.here hx rfl (pc0 := 168) (pc' := 173) rfl (hb hby at_168) rfl (teq (by decide : (2 : Int32) = (2 : Int32))).1 (by decide) (by decide) ?_
      show Steps p.tables e below (T352.setTop (mkF m 173 #[.val (.int p0), .val (.int p1), .val (.int p2), .val (.int p3), .val (.int p4), .val (.int p5), .val (.int (2 : Int32)), .val (.ref b311), .val (.int p2), .val (.int v322), .val (.int v325), .val (.ref b328), .val (.int (1 : Int32)), .val (.ref b352), .unset] [])) _
      refine XS.aload X352.here hx rfl (hb hby at_173) rfl rfl ?_
      show Steps p.tables e below (T352.setTop (mkF m 175 #[.val (.int p0), .val (.int p1), .val (.int p2), .val (.int p3), .val (.int p4), .val (.int p5), .val (.int (2 : Int32)), .val (.ref b311), .val (.int p2), .val (.int v322), .val (.int v325), .val (.ref b328), .val (.int (1 : Int32)), .val (.ref b352), .unset] [(.ref b352)])) _
      refine XS.iload X352.here hx rfl (hb hby at_175) rfl ?_
      show Steps p.tables e below (T352.setTop (mkF m 177 #[.val (.int p0), .val (.int p1), .val (.int p2), .val (.int p3), .val (.int p4), .val (.int p5), .val (.int (2 : Int32)), .val (.ref b311), .val (.int p2), .val (.int v322), .val (.int v325), .val (.ref b328), .val (.int (1 : Int32)), .val (.ref b352), .unset] [(.int (2 : Int32)), (.ref b352)])) _
      refine XS.iconst X352.here hx rfl (hb hby at_177) ?_
      show Steps p.tables e below (T352.setTop (mkF m 178 #[.val (.int p0), .val (.int p1), .val (.int p2), .val (.int p3), .val (.int p4), .val (.int p5), .val (.int (2 : Int32)), .val (.ref b311), .val (.int p2), .val (.int v322), .val (.int v325), .val (.ref b328), .val (.int (1 : Int32)), .val (.ref b352), .unset] [(.int (1 : Int32)), (.int (2 : Int32)), (.ref b352)])) _
      refine XS.isub X352.here hx rfl (hb hby at_178) rfl ?_
      show Steps p.tables e below (T352.setTop (mkF m 179 #[.val (.int p0), .val (.int p1), .val (.int p2), .val (.int p3), .val (.int p4), .val (.int p5), .val (.int (2 : Int32)), .val (.ref b311), .val (.int p2), .val (.int v322), .val (.int v325), .val (.ref b328), .val (.int (1 : Int32)), .val (.ref b352), .unset] [(.int (1 : Int32)), (.ref b352)])) _
      refine XS.iload X352.here hx rfl (hb hby at_179) rfl ?_
      show Steps p.tables e below (T352.setTop (mkF m 181 #[.val (.int p0), .val (.int p1), .val (.int p2), .val (.int p3), .val (.int p4), .val (.int p5), .val (.int (2 : Int32)), .val (.ref b311), .val (.int p2), .val (.int v322), .val (.int v325), .val (.ref b328), .val (.int (1 : Int32)), .val (.ref b352), .unset] [(.int p2), (.int (1 : Int32)), (.ref b352)])) _
      refine XS.iconst X352.here hx rfl (hb hby at_181) ?_
      show Steps p.tables e below (T352.setTop (mkF m 182 #[.val (.int p0), .val (.int p1), .val (.int p2), .val (.int p3), .val (.int p4), .val (.int p5), .val (.int (2 : Int32)), .val (.ref b311), .val (.int p2), .val (.int v322), .val (.int v325), .val (.ref b328), .val (.int (1 : Int32)), .val (.ref b352), .unset] [(.int (-1 : Int32)), (.int p2), (.int (1 : Int32)), (.ref b352)])) _
      refine XS.ixor X352.here hx rfl (hb hby at_182) rfl ?_
      show Steps p.tables e below (T352.setTop (mkF m 183 #[.val (.int p0), .val (.int p1), .val (.int p2), .val (.int p3), .val (.int p4), .val (.int p5), .val (.int (2 : Int32)), .val (.ref b311), .val (.int p2), .val (.int v322), .val (.int v325), .val (.ref b328), .val (.int (1 : Int32)), .val (.ref b352), .unset] [(.int (p2 ^^^ (-1 : Int32))), (.int (1 : Int32)), (.ref b352)])) _
      exact k
    obtain ⟨cl365, Ar365, q365, S365, M365, H365, G365⟩ := id Ob352_0
    have hin365 : ¬ ((1 : Int32) < 0 ∨ cl365.slots.size ≤ ((1 : Int32)).toNatClampNeg) := inb_of S365 ⟨by decide, by decide⟩
    obtain ⟨T365, h365, X365, e365, W365, st365⟩ := stI X352 hx hZ e352 Ar365 (j := (1 : Int32)) hin365 (g := (mkF m 183 #[.val (.int p0), .val (.int p1), .val (.int p2), .val (.int p3), .val (.int p4), .val (.int p5), .val (.int (2 : Int32)), .val (.ref b311), .val (.int p2), .val (.int v322), .val (.int v325), .val (.ref b328), .val (.int (1 : Int32)), .val (.ref b352), .unset] [(.int (p2 ^^^ (-1 : Int32))), (.int (1 : Int32)), (.ref b352)])) rfl rfl (hb hby at_183)
    have Z365 : n0 ≤ h365.size := Nat.le_trans Z352 (Keep.of_wr W365).1
    have K365 : Keep h0 h365 [] := K352.wr W365 (Or.inr sz_b352)
    have N365 := Fr.snoc X365 N352 g_b352
    have Ef366 : Exa Z h365 b311 "[I" := (Ef353).wr W365
    have Ef367 : Exa Z h365 b328 "com/example/timely_exodus/timelyexodus/plan/Vehicle" := (Ef354).wr W365
    have Ff368 : Fld Z h365 b328 "com/example/timely_exodus/timelyexodus/plan/Vehicle" "number" "I" (.int v322) := (Ff355).other W365 (Or.inl ne_b328_b352)
    have Ff369 : Fld Z h365 b328 "com/example/timely_exodus/timelyexodus/plan/Vehicle" "departurePeriod" "I" (.int v325) := (Ff356).other W365 (Or.inl ne_b328_b352)
    have Ff370 : Fld Z h365 b328 "com/example/timely_exodus/timelyexodus/plan/Vehicle" "route" "[I" (.ref b333) := (Ff357).other W365 (Or.inl ne_b328_b352)
    have Vf371 : Arv Z h365 b333 kb333 .int (2 : Int32) [(.int p1), (.int p2)] (.int (0 : Int32)) := (Vf358).other W365 ne_b333_b352
    have Ef372 : Exa Z h365 b333 "[I" := (Ef359).wr W365
    have Vf373 : Arv Z h365 b311 k311 .int (2 : Int32) [(.int p1), (.int (p2 ^^^ (-1 : Int32)))] (.int (0 : Int32)) := (Vf360).other W365 ne_b311_b352
    have Ef374 : Exa Z h365 b352 "[I" := (Ob352_1).wr W365
    have V365 : Arv Z h365 b352 kb352 .int (2 : Int32) [(.int p1), (.int (p2 ^^^ (-1 : Int32)))] (.int (0 : Int32)) := Arv.set Ar365 q365 S365 M365 H365 G365 rfl W365 1 rfl (Nat.le_of_ble_eq_true rfl)
    have pre375 : ∀ t, Steps p.tables e below (T365.setTop (mkF m 184 #[.val (.int p0), .val (.int p1), .val (.int p2), .val (.int p3), .val (.int p4), .val (.int p5), .val (.int (2 : Int32)), .val (.ref b311), .val (.int p2), .val (.int v322), .val (.int v325), .val (.ref b328), .val (.int (1 : Int32)), .val (.ref b352), .unset] [])) t → Steps p.tables e below (s₁.setTop (entryFrame m #[(.int p0), (.int p1), (.int p2), (.int p3), (.int p4), (.int p5)] maxLocals)) t := fun t k => pre364 t (st365 t k)
    have pre376 : ∀ t, Steps p.tables e below (T365.setTop (mkF m 186 #[.val (.int p0), .val (.int p1), .val (.int p2), .val (.int p3), .val (.int p4), .val (.int p5), .val (.int (2 : Int32)), .val (.ref b311), .val (.int p2), .val (.int v322), .val (.int v325), .val (.ref b328), .val (.int (1 : Int32)), .val (.ref b352), .unset] [(.ref b328)])) t → Steps p.tables e below (s₁.setTop (entryFrame m #[(.int p0), (.int p1), (.int p2), (.int p3), (.int p4), (.int p5)] maxLocals)) t := by
      intro t k
      refine pre375 t ?_
      show Steps p.tables e below (T365.setTop (mkF m 184 #[.val (.int p0), .val (.int p1), .val (.int p2), .val (.int p3), .val (.int p4), .val (.int p5), .val (.int (2 : Int32)), .val (.ref b311), .val (.int p2), .val (.int v322), .val (.int v325), .val (.ref b328), .val (.int (1 : Int32)), .val (.ref b352), .unset] [])) _
      refine XS.aload X365.here hx rfl (hb hby at_184) rfl rfl ?_
      show Steps p.tables e below (T365.setTop (mkF m 186 #[.val (.int p0), .val (.int p1), .val (.int p2), .val (.int p3), .val (.int p4), .val (.int p5), .val (.int (2 : Int32)), .val (.ref b311), .val (.int p2), .val (.int v322), .val (.int v325), .val (.ref b328), .val (.int (1 : Int32)), .val (.ref b352), .unset] [(.ref b328)])) _
      exact k
    obtain ⟨cq377, kq377, q377a, q377b, q377c⟩ := isOf hZ e365 Ef367
    obtain ⟨_, _, ⟨T377, L377, k377, n377⟩, -, X377, ⟨Lc377, hQ377, l377, y377, z377⟩, st377⟩ := X365.virtualBack hx (y := (⟨"com/example/timely_exodus/timelyexodus/plan/Vehicle", "getExitCell", "()I"⟩ : MethodName)) (z := (⟨"com/example/timely_exodus/timelyexodus/plan/Vehicle", "getExitCell", "()I"⟩ : MethodName)) hown (mvT hZ (hw _ (List.mem_of_getElem? (i := 26) rfl))) (mvT hZ (hw _ (List.mem_of_getElem? (i := 27) rfl))) (notFace_of_selects (args := #[]) (mvT hZ (hw _ (List.mem_of_getElem? (i := 29) rfl)))) (mvT hZ (hw _ (List.mem_of_getElem? (i := 29) rfl))) (mvT hZ (hw _ (List.mem_of_getElem? (i := 28) rfl))) (by decide) (backOf (W := 0) (rm3_n2 l Z ar0 hw [] b328 b333 kb333 p1 p2 h365 n0 Z365 Ff370 Vf371) hZ (hw _ (List.mem_of_getElem? (i := 30) rfl)) (hw _ (List.mem_of_getElem? (i := 4) rfl)) (by decide) (by decide)) q377a q377c (g := (mkF m 186 #[.val (.int p0), .val (.int p1), .val (.int p2), .val (.int p3), .val (.int p4), .val (.int p5), .val (.int (2 : Int32)), .val (.ref b311), .val (.int p2), .val (.int v322), .val (.int v325), .val (.ref b328), .val (.int (1 : Int32)), .val (.ref b352), .unset] [(.ref b328)])) rfl (by rw [hml]; rfl) (Steps.refl _) (argsL := []) (rest := []) (lenOf pd_1 rfl) rfl (by show 2 * 0 + _ ≤ _; exact Nat.le_of_eq rfl) (hb hby at_186) (fun _ _ => ⟨rfl, e365, (by decide : 4 + 0 ≤ _), (by decide : 9 + 0 ≤ _)⟩)
    dsimp only [Pt.U, Pt.locs, Pt.cells, Pt.slots] at X377 l377 y377 z377 st377 hQ377
    subst l377 y377 z377
    obtain ⟨rfl, N377q, e377⟩ := hQ377
    have N377 := Fr.app N365 N377q
    have pre378 : ∀ t, Steps p.tables e below (T377.setTop (mkF m 189 #[.val (.int p0), .val (.int p1), .val (.int p2), .val (.int p3), .val (.int p4), .val (.int p5), .val (.int (2 : Int32)), .val (.ref b311), .val (.int p2), .val (.int v322), .val (.int v325), .val (.ref b328), .val (.int (1 : Int32)), .val (.ref b352), .unset] [(.int p2)])) t → Steps p.tables e below (s₁.setTop (entryFrame m #[(.int p0), (.int p1), (.int p2), (.int p3), (.int p4), (.int p5)] maxLocals)) t := fun t k => pre376 t (st377.trans k)
    obtain ⟨fs, hr, hrun, hended, hW, hsame⟩ := X377.leave (v := some (.int (1 : Int32))) (fun h => by rw [Bd.returns] at h; cases h)
    refine ⟨_, _, pre378 _ ?_, hrun, hended, _, _, rfl, ?_, ⟨_, rfl⟩, hW, hsame.mono (by decide) (by decide)⟩
    · show Steps p.tables e below (T377.setTop (mkF m 189 #[.val (.int p0), .val (.int p1), .val (.int p2), .val (.int p3), .val (.int p4), .val (.int p5), .val (.int (2 : Int32)), .val (.ref b311), .val (.int p2), .val (.int v322), .val (.int v325), .val (.ref b328), .val (.int (1 : Int32)), .val (.ref b352), .unset] [(.int p2)])) _
      refine XS.iload X377.here hx rfl (hb hby at_189) rfl ?_
      show Steps p.tables e below (T377.setTop (mkF m 191 #[.val (.int p0), .val (.int p1), .val (.int p2), .val (.int p3), .val (.int p4), .val (.int p5), .val (.int (2 : Int32)), .val (.ref b311), .val (.int p2), .val (.int v322), .val (.int v325), .val (.ref b328), .val (.int (1 : Int32)), .val (.ref b352), .unset] [(.int p2), (.int p2)])) _
      show Steps p.tables e below (T377.setTop (mkF m 191 #[.val (.int p0), .val (.int p1), .val (.int p2), .val (.int p3), .val (.int p4), .val (.int p5), .val (.int (2 : Int32)), .val (.ref b311), .val (.int p2), .val (.int v322), .val (.int v325), .val (.ref b328), .val (.int (1 : Int32)), .val (.ref b352), .unset] [(.int p2), (.int p2)])) _
      refine XS.icmpNo X377.here hx rfl (hb hby at_191) rfl (teq (rfl : p2 = p2)).2 ?_
      show Steps p.tables e below (T377.setTop (mkF m 194 #[.val (.int p0), .val (.int p1), .val (.int p2), .val (.int p3), .val (.int p4), .val (.int p5), .val (.int (2 : Int32)), .val (.ref b311), .val (.int p2), .val (.int v322), .val (.int v325), .val (.ref b328), .val (.int (1 : Int32)), .val (.ref b352), .unset] [])) _
      refine XS.iconst X377.here hx rfl (hb hby at_194) ?_
      show Steps p.tables e below (T377.setTop (mkF m 195 #[.val (.int p0), .val (.int p1), .val (.int p2), .val (.int p3), .val (.int p4), .val (.int p5), .val (.int (2 : Int32)), .val (.ref b311), .val (.int p2), .val (.int v322), .val (.int v325), .val (.ref b328), .val (.int (1 : Int32)), .val (.ref b352), .unset] [(.int (1 : Int32))])) _
      refine XS.goto X377.here hx rfl (pc0 := 195) (pc' := 199) rfl (hb hby at_195) (by decide) (by decide) ?_
      show Steps p.tables e below (T377.setTop (mkF m 199 #[.val (.int p0), .val (.int p1), .val (.int p2), .val (.int p3), .val (.int p4), .val (.int p5), .val (.int (2 : Int32)), .val (.ref b311), .val (.int p2), .val (.int v322), .val (.int v325), .val (.ref b328), .val (.int (1 : Int32)), .val (.ref b352), .unset] [(.int (1 : Int32))])) _
      refine XS.istore X377.here hx rfl (hb hby at_199) rfl (l' := #[.val (.int p0), .val (.int p1), .val (.int p2), .val (.int p3), .val (.int p4), .val (.int p5), .val (.int (2 : Int32)), .val (.ref b311), .val (.int p2), .val (.int v322), .val (.int v325), .val (.ref b328), .val (.int (1 : Int32)), .val (.ref b352), .val (.int (1 : Int32))]) rfl ?_
      show Steps p.tables e below (T377.setTop (mkF m 201 #[.val (.int p0), .val (.int p1), .val (.int p2), .val (.int p3), .val (.int p4), .val (.int p5), .val (.int (2 : Int32)), .val (.ref b311), .val (.int p2), .val (.int v322), .val (.int v325), .val (.ref b328), .val (.int (1 : Int32)), .val (.ref b352), .val (.int (1 : Int32))] [])) _
      refine XS.iload X377.here hx rfl (hb hby at_201) rfl ?_
      show Steps p.tables e below (T377.setTop (mkF m 203 #[.val (.int p0), .val (.int p1), .val (.int p2), .val (.int p3), .val (.int p4), .val (.int p5), .val (.int (2 : Int32)), .val (.ref b311), .val (.int p2), .val (.int v322), .val (.int v325), .val (.ref b328), .val (.int (1 : Int32)), .val (.ref b352), .val (.int (1 : Int32))] [(.int (1 : Int32))])) _
      show Steps p.tables e below (T377.setTop (mkF m 203 #[.val (.int p0), .val (.int p1), .val (.int p2), .val (.int p3), .val (.int p4), .val (.int p5), .val (.int (2 : Int32)), .val (.ref b311), .val (.int p2), .val (.int v322), .val (.int v325), .val (.ref b328), .val (.int (1 : Int32)), .val (.ref b352), .val (.int (1 : Int32))] [(.int (1 : Int32))])) _
      refine XS.ifNo X377.here hx rfl (hb hby at_203) rfl ((if0 _ _).trans (feq (by decide : ¬ (1 : Int32) = (0 : Int32))).1) ?_
      show Steps p.tables e below (T377.setTop (mkF m 206 #[.val (.int p0), .val (.int p1), .val (.int p2), .val (.int p3), .val (.int p4), .val (.int p5), .val (.int (2 : Int32)), .val (.ref b311), .val (.int p2), .val (.int v322), .val (.int v325), .val (.ref b328), .val (.int (1 : Int32)), .val (.ref b352), .val (.int (1 : Int32))] [])) _
      refine XS.iload X377.here hx rfl (hb hby at_206) rfl ?_
      show Steps p.tables e below (T377.setTop (mkF m 208 #[.val (.int p0), .val (.int p1), .val (.int p2), .val (.int p3), .val (.int p4), .val (.int p5), .val (.int (2 : Int32)), .val (.ref b311), .val (.int p2), .val (.int v322), .val (.int v325), .val (.ref b328), .val (.int (1 : Int32)), .val (.ref b352), .val (.int (1 : Int32))] [(.int (1 : Int32))])) _
      show Steps p.tables e below (T377.setTop (mkF m 208 #[.val (.int p0), .val (.int p1), .val (.int p2), .val (.int p3), .val (.int p4), .val (.int p5), .val (.int (2 : Int32)), .val (.ref b311), .val (.int p2), .val (.int v322), .val (.int v325), .val (.ref b328), .val (.int (1 : Int32)), .val (.ref b352), .val (.int (1 : Int32))] [(.int (1 : Int32))])) _
      refine XS.ifNo X377.here hx rfl (hb hby at_208) rfl ((if0 _ _).trans (feq (by decide : ¬ (1 : Int32) = (0 : Int32))).1) ?_
      show Steps p.tables e below (T377.setTop (mkF m 211 #[.val (.int p0), .val (.int p1), .val (.int p2), .val (.int p3), .val (.int p4), .val (.int p5), .val (.int (2 : Int32)), .val (.ref b311), .val (.int p2), .val (.int v322), .val (.int v325), .val (.ref b328), .val (.int (1 : Int32)), .val (.ref b352), .val (.int (1 : Int32))] [])) _
      refine XS.iconst X377.here hx rfl (hb hby at_211) ?_
      show Steps p.tables e below (T377.setTop (mkF m 212 #[.val (.int p0), .val (.int p1), .val (.int p2), .val (.int p3), .val (.int p4), .val (.int p5), .val (.int (2 : Int32)), .val (.ref b311), .val (.int p2), .val (.int v322), .val (.int v325), .val (.ref b328), .val (.int (1 : Int32)), .val (.ref b352), .val (.int (1 : Int32))] [(.int (1 : Int32))])) _
      refine XS.goto X377.here hx rfl (pc0 := 212) (pc' := 216) rfl (hb hby at_212) (by decide) (by decide) ?_
      show Steps p.tables e below (T377.setTop (mkF m 216 #[.val (.int p0), .val (.int p1), .val (.int p2), .val (.int p3), .val (.int p4), .val (.int p5), .val (.int (2 : Int32)), .val (.ref b311), .val (.int p2), .val (.int v322), .val (.int v325), .val (.ref b328), .val (.int (1 : Int32)), .val (.ref b352), .val (.int (1 : Int32))] [(.int (1 : Int32))])) _
      exact retN X377 hx (t := .boolean) Bd.returns (by simp) (hb hby at_216) hr
    · show Q0 Z p0 p1 p2 p3 p4 p5 h0 n0 _ T377.heap _
      rw [e377]
      exact ⟨rfl, N377⟩
  · have pre379 : ∀ t, Steps p.tables e below (s₁.setTop (mkF m 9 #[.val (.int p0), .val (.int p1), .val (.int p2), .val (.int p3), .val (.int p4), .val (.int p5), .val (.int (3 : Int32)), .unset, .unset, .unset, .unset, .unset, .unset, .unset, .unset] [(.int (3 : Int32))])) t → Steps p.tables e below (s₁.setTop (entryFrame m #[(.int p0), (.int p1), (.int p2), (.int p3), (.int p4), (.int p5)] maxLocals)) t := by
      intro t k
      refine pre244 t ?_
      show Steps p.tables e below (s₁.setTop (mkF m 7 #[.val (.int p0), .val (.int p1), .val (.int p2), .val (.int p3), .val (.int p4), .val (.int p5), .val (.int (3 : Int32)), .unset, .unset, .unset, .unset, .unset, .unset, .unset, .unset] [])) _
      refine XS.iload X0.here hx rfl (hb hby at_7) rfl ?_
      show Steps p.tables e below (s₁.setTop (mkF m 9 #[.val (.int p0), .val (.int p1), .val (.int p2), .val (.int p3), .val (.int p4), .val (.int p5), .val (.int (3 : Int32)), .unset, .unset, .unset, .unset, .unset, .unset, .unset, .unset] [(.int (3 : Int32))])) _
      exact k
    obtain ⟨T380, h380, k380, X380, e380, E380, A380, C380, st380⟩ := newPE X0 hx hZ (hw _ (List.mem_of_getElem? (i := 0) rfl)) e0 (g := (mkF m 9 #[.val (.int p0), .val (.int p1), .val (.int p2), .val (.int p3), .val (.int p4), .val (.int p5), .val (.int (3 : Int32)), .unset, .unset, .unset, .unset, .unset, .unset, .unset, .unset] [(.int (3 : Int32))])) rfl (hb hby at_9) rfl (by decide) (cap := 3) (by decide) (by decide) (by decide) (by decide) (ad := "[I") rfl
    obtain ⟨b380, g380⟩ : ∃ z, z = h0.size := ⟨_, rfl⟩
    rw [← g380] at A380 C380 st380
    have g_b380 : n0 ≤ b380 := Nat.le_trans Z0 (Nat.le_of_eq g380.symm)
    have sz_b380 : h0.size ≤ b380 := Nat.le_trans (Keep.refl h0 []).1 (Nat.le_of_eq g380.symm)
    have Z380 : n0 ≤ h380.size := Nat.le_trans Z0 E380.1
    have K380 : Keep h0 h380 [] := (Keep.refl h0 []).ext E380
    have V_b380 : Arv Z h380 b380 k380 .int (3 : Int32) [(.int (0 : Int32)), (.int (0 : Int32)), (.int (0 : Int32))] (.int (0 : Int32)) := (Arv.new A380 (by decide)).pad (pad_rep [] (.int (0 : Int32)) 3)
    have pre381 : ∀ t, Steps p.tables e below (T380.setTop (mkF m 11 #[.val (.int p0), .val (.int p1), .val (.int p2), .val (.int p3), .val (.int p4), .val (.int p5), .val (.int (3 : Int32)), .unset, .unset, .unset, .unset, .unset, .unset, .unset, .unset] [(.ref b380)])) t → Steps p.tables e below (s₁.setTop (entryFrame m #[(.int p0), (.int p1), (.int p2), (.int p3), (.int p4), (.int p5)] maxLocals)) t := fun t k => pre379 t (st380 t k)
    have pre382 : ∀ t, Steps p.tables e below (T380.setTop (mkF m 17 #[.val (.int p0), .val (.int p1), .val (.int p2), .val (.int p3), .val (.int p4), .val (.int p5), .val (.int (3 : Int32)), .val (.ref b380), .unset, .unset, .unset, .unset, .unset, .unset, .unset] [(.int p1), (.int (0 : Int32)), (.ref b380)])) t → Steps p.tables e below (s₁.setTop (entryFrame m #[(.int p0), (.int p1), (.int p2), (.int p3), (.int p4), (.int p5)] maxLocals)) t := by
      intro t k
      refine pre381 t ?_
      show Steps p.tables e below (T380.setTop (mkF m 11 #[.val (.int p0), .val (.int p1), .val (.int p2), .val (.int p3), .val (.int p4), .val (.int p5), .val (.int (3 : Int32)), .unset, .unset, .unset, .unset, .unset, .unset, .unset, .unset] [(.ref b380)])) _
      refine XS.astore X380.here hx rfl (hb hby at_11) rfl rfl (l' := #[.val (.int p0), .val (.int p1), .val (.int p2), .val (.int p3), .val (.int p4), .val (.int p5), .val (.int (3 : Int32)), .val (.ref b380), .unset, .unset, .unset, .unset, .unset, .unset, .unset]) rfl ?_
      show Steps p.tables e below (T380.setTop (mkF m 13 #[.val (.int p0), .val (.int p1), .val (.int p2), .val (.int p3), .val (.int p4), .val (.int p5), .val (.int (3 : Int32)), .val (.ref b380), .unset, .unset, .unset, .unset, .unset, .unset, .unset] [])) _
      refine XS.aload X380.here hx rfl (hb hby at_13) rfl rfl ?_
      show Steps p.tables e below (T380.setTop (mkF m 15 #[.val (.int p0), .val (.int p1), .val (.int p2), .val (.int p3), .val (.int p4), .val (.int p5), .val (.int (3 : Int32)), .val (.ref b380), .unset, .unset, .unset, .unset, .unset, .unset, .unset] [(.ref b380)])) _
      refine XS.iconst X380.here hx rfl (hb hby at_15) ?_
      show Steps p.tables e below (T380.setTop (mkF m 16 #[.val (.int p0), .val (.int p1), .val (.int p2), .val (.int p3), .val (.int p4), .val (.int p5), .val (.int (3 : Int32)), .val (.ref b380), .unset, .unset, .unset, .unset, .unset, .unset, .unset] [(.int (0 : Int32)), (.ref b380)])) _
      refine XS.iloadN X380.here hx rfl (hb hby at_16) rfl ?_
      show Steps p.tables e below (T380.setTop (mkF m 17 #[.val (.int p0), .val (.int p1), .val (.int p2), .val (.int p3), .val (.int p4), .val (.int p5), .val (.int (3 : Int32)), .val (.ref b380), .unset, .unset, .unset, .unset, .unset, .unset, .unset] [(.int p1), (.int (0 : Int32)), (.ref b380)])) _
      exact k
    obtain ⟨cl383, Ar383, q383, S383, M383, H383, G383⟩ := id V_b380
    have hin383 : ¬ ((0 : Int32) < 0 ∨ cl383.slots.size ≤ ((0 : Int32)).toNatClampNeg) := inb_of S383 ⟨by decide, by decide⟩
    obtain ⟨T383, h383, X383, e383, W383, st383⟩ := stI X380 hx hZ e380 Ar383 (j := (0 : Int32)) hin383 (g := (mkF m 17 #[.val (.int p0), .val (.int p1), .val (.int p2), .val (.int p3), .val (.int p4), .val (.int p5), .val (.int (3 : Int32)), .val (.ref b380), .unset, .unset, .unset, .unset, .unset, .unset, .unset] [(.int p1), (.int (0 : Int32)), (.ref b380)])) rfl rfl (hb hby at_17)
    have Z383 : n0 ≤ h383.size := Nat.le_trans Z380 (Keep.of_wr W383).1
    have K383 : Keep h0 h383 [] := K380.wr W383 (Or.inr sz_b380)
    have N383 := Fr.snoc X383 N0 g_b380
    have Ef384 : Exa Z h383 b380 "[I" := (C380).wr W383
    have V383 : Arv Z h383 b380 k380 .int (3 : Int32) [(.int p1), (.int (0 : Int32)), (.int (0 : Int32))] (.int (0 : Int32)) := Arv.set Ar383 q383 S383 M383 H383 G383 rfl W383 0 rfl (Nat.le_of_ble_eq_true rfl)
    have pre385 : ∀ t, Steps p.tables e below (T383.setTop (mkF m 18 #[.val (.int p0), .val (.int p1), .val (.int p2), .val (.int p3), .val (.int p4), .val (.int p5), .val (.int (3 : Int32)), .val (.ref b380), .unset, .unset, .unset, .unset, .unset, .unset, .unset] [])) t → Steps p.tables e below (s₁.setTop (entryFrame m #[(.int p0), (.int p1), (.int p2), (.int p3), (.int p4), (.int p5)] maxLocals)) t := fun t k => pre382 t (st383 t k)
    have pre386 : ∀ t, Steps p.tables e below (T383.setTop (mkF m 28 #[.val (.int p0), .val (.int p1), .val (.int p2), .val (.int p3), .val (.int p4), .val (.int p5), .val (.int (3 : Int32)), .val (.ref b380), .unset, .unset, .unset, .unset, .unset, .unset, .unset] [(.int p2), (.int (1 : Int32)), (.ref b380)])) t → Steps p.tables e below (s₁.setTop (entryFrame m #[(.int p0), (.int p1), (.int p2), (.int p3), (.int p4), (.int p5)] maxLocals)) t := by
      intro t k
      refine pre385 t ?_
      show Steps p.tables e below (T383.setTop (mkF m 18 #[.val (.int p0), .val (.int p1), .val (.int p2), .val (.int p3), .val (.int p4), .val (.int p5), .val (.int (3 : Int32)), .val (.ref b380), .unset, .unset, .unset, .unset, .unset, .unset, .unset] [])) _
      refine XS.iload X383.here hx rfl (hb hby at_18) rfl ?_
      show Steps p.tables e below (T383.setTop (mkF m 20 #[.val (.int p0), .val (.int p1), .val (.int p2), .val (.int p3), .val (.int p4), .val (.int p5), .val (.int (3 : Int32)), .val (.ref b380), .unset, .unset, .unset, .unset, .unset, .unset, .unset] [(.int (3 : Int32))])) _
      refine XS.iconst X383.here hx rfl (hb hby at_20) ?_
      show Steps p.tables e below (T383.setTop (mkF m 21 #[.val (.int p0), .val (.int p1), .val (.int p2), .val (.int p3), .val (.int p4), .val (.int p5), .val (.int (3 : Int32)), .val (.ref b380), .unset, .unset, .unset, .unset, .unset, .unset, .unset] [(.int (1 : Int32)), (.int (3 : Int32))])) _
      show Steps p.tables e below (T383.setTop (mkF m 21 #[.val (.int p0), .val (.int p1), .val (.int p2), .val (.int p3), .val (.int p4), .val (.int p5), .val (.int (3 : Int32)), .val (.ref b380), .unset, .unset, .unset, .unset, .unset, .unset, .unset] [(.int (1 : Int32)), (.int (3 : Int32))])) _
      refine XS.icmpNo X383.here hx rfl (hb hby at_21) rfl (tlt (by decide : (1 : Int32) < (3 : Int32))).2.2.2 ?_
      show Steps p.tables e below (T383.setTop (mkF m 24 #[.val (.int p0), .val (.int p1), .val (.int p2), .val (.int p3), .val (.int p4), .val (.int p5), .val (.int (3 : Int32)), .val (.ref b380), .unset, .unset, .unset, .unset, .unset, .unset, .unset] [])) _
      refine XS.aload X383.here hx rfl (hb hby at_24) rfl rfl ?_
      show Steps p.tables e below (T383.setTop (mkF m 26 #[.val (.int p0), .val (.int p1), .val (.int p2), .val (.int p3), .val (.int p4), .val (.int p5), .val (.int (3 : Int32)), .val (.ref b380), .unset, .unset, .unset, .unset, .unset, .unset, .unset] [(.ref b380)])) _
      refine XS.iconst X383.here hx rfl (hb hby at_26) ?_
      show Steps p.tables e below (T383.setTop (mkF m 27 #[.val (.int p0), .val (.int p1), .val (.int p2), .val (.int p3), .val (.int p4), .val (.int p5), .val (.int (3 : Int32)), .val (.ref b380), .unset, .unset, .unset, .unset, .unset, .unset, .unset] [(.int (1 : Int32)), (.ref b380)])) _
      refine XS.iloadN X383.here hx rfl (hb hby at_27) rfl ?_
      show Steps p.tables e below (T383.setTop (mkF m 28 #[.val (.int p0), .val (.int p1), .val (.int p2), .val (.int p3), .val (.int p4), .val (.int p5), .val (.int (3 : Int32)), .val (.ref b380), .unset, .unset, .unset, .unset, .unset, .unset, .unset] [(.int p2), (.int (1 : Int32)), (.ref b380)])) _
      exact k
    obtain ⟨cl387, Ar387, q387, S387, M387, H387, G387⟩ := id V383
    have hin387 : ¬ ((1 : Int32) < 0 ∨ cl387.slots.size ≤ ((1 : Int32)).toNatClampNeg) := inb_of S387 ⟨by decide, by decide⟩
    obtain ⟨T387, h387, X387, e387, W387, st387⟩ := stI X383 hx hZ e383 Ar387 (j := (1 : Int32)) hin387 (g := (mkF m 28 #[.val (.int p0), .val (.int p1), .val (.int p2), .val (.int p3), .val (.int p4), .val (.int p5), .val (.int (3 : Int32)), .val (.ref b380), .unset, .unset, .unset, .unset, .unset, .unset, .unset] [(.int p2), (.int (1 : Int32)), (.ref b380)])) rfl rfl (hb hby at_28)
    have Z387 : n0 ≤ h387.size := Nat.le_trans Z383 (Keep.of_wr W387).1
    have K387 : Keep h0 h387 [] := K383.wr W387 (Or.inr sz_b380)
    have N387 := Fr.snoc X387 N383 g_b380
    have Ef388 : Exa Z h387 b380 "[I" := (Ef384).wr W387
    have V387 : Arv Z h387 b380 k380 .int (3 : Int32) [(.int p1), (.int p2), (.int (0 : Int32))] (.int (0 : Int32)) := Arv.set Ar387 q387 S387 M387 H387 G387 rfl W387 1 rfl (Nat.le_of_ble_eq_true rfl)
    have pre389 : ∀ t, Steps p.tables e below (T387.setTop (mkF m 29 #[.val (.int p0), .val (.int p1), .val (.int p2), .val (.int p3), .val (.int p4), .val (.int p5), .val (.int (3 : Int32)), .val (.ref b380), .unset, .unset, .unset, .unset, .unset, .unset, .unset] [])) t → Steps p.tables e below (s₁.setTop (entryFrame m #[(.int p0), (.int p1), (.int p2), (.int p3), (.int p4), (.int p5)] maxLocals)) t := fun t k => pre386 t (st387 t k)
    have pre390 : ∀ t, Steps p.tables e below (T387.setTop (mkF m 39 #[.val (.int p0), .val (.int p1), .val (.int p2), .val (.int p3), .val (.int p4), .val (.int p5), .val (.int (3 : Int32)), .val (.ref b380), .unset, .unset, .unset, .unset, .unset, .unset, .unset] [(.int p3), (.int (2 : Int32)), (.ref b380)])) t → Steps p.tables e below (s₁.setTop (entryFrame m #[(.int p0), (.int p1), (.int p2), (.int p3), (.int p4), (.int p5)] maxLocals)) t := by
      intro t k
      refine pre389 t ?_
      show Steps p.tables e below (T387.setTop (mkF m 29 #[.val (.int p0), .val (.int p1), .val (.int p2), .val (.int p3), .val (.int p4), .val (.int p5), .val (.int (3 : Int32)), .val (.ref b380), .unset, .unset, .unset, .unset, .unset, .unset, .unset] [])) _
      refine XS.iload X387.here hx rfl (hb hby at_29) rfl ?_
      show Steps p.tables e below (T387.setTop (mkF m 31 #[.val (.int p0), .val (.int p1), .val (.int p2), .val (.int p3), .val (.int p4), .val (.int p5), .val (.int (3 : Int32)), .val (.ref b380), .unset, .unset, .unset, .unset, .unset, .unset, .unset] [(.int (3 : Int32))])) _
      refine XS.iconst X387.here hx rfl (hb hby at_31) ?_
      show Steps p.tables e below (T387.setTop (mkF m 32 #[.val (.int p0), .val (.int p1), .val (.int p2), .val (.int p3), .val (.int p4), .val (.int p5), .val (.int (3 : Int32)), .val (.ref b380), .unset, .unset, .unset, .unset, .unset, .unset, .unset] [(.int (2 : Int32)), (.int (3 : Int32))])) _
      show Steps p.tables e below (T387.setTop (mkF m 32 #[.val (.int p0), .val (.int p1), .val (.int p2), .val (.int p3), .val (.int p4), .val (.int p5), .val (.int (3 : Int32)), .val (.ref b380), .unset, .unset, .unset, .unset, .unset, .unset, .unset] [(.int (2 : Int32)), (.int (3 : Int32))])) _
      refine XS.icmpNo X387.here hx rfl (hb hby at_32) rfl (tlt (by decide : (2 : Int32) < (3 : Int32))).2.2.2 ?_
      show Steps p.tables e below (T387.setTop (mkF m 35 #[.val (.int p0), .val (.int p1), .val (.int p2), .val (.int p3), .val (.int p4), .val (.int p5), .val (.int (3 : Int32)), .val (.ref b380), .unset, .unset, .unset, .unset, .unset, .unset, .unset] [])) _
      refine XS.aload X387.here hx rfl (hb hby at_35) rfl rfl ?_
      show Steps p.tables e below (T387.setTop (mkF m 37 #[.val (.int p0), .val (.int p1), .val (.int p2), .val (.int p3), .val (.int p4), .val (.int p5), .val (.int (3 : Int32)), .val (.ref b380), .unset, .unset, .unset, .unset, .unset, .unset, .unset] [(.ref b380)])) _
      refine XS.iconst X387.here hx rfl (hb hby at_37) ?_
      show Steps p.tables e below (T387.setTop (mkF m 38 #[.val (.int p0), .val (.int p1), .val (.int p2), .val (.int p3), .val (.int p4), .val (.int p5), .val (.int (3 : Int32)), .val (.ref b380), .unset, .unset, .unset, .unset, .unset, .unset, .unset] [(.int (2 : Int32)), (.ref b380)])) _
      refine XS.iloadN X387.here hx rfl (hb hby at_38) rfl ?_
      show Steps p.tables e below (T387.setTop (mkF m 39 #[.val (.int p0), .val (.int p1), .val (.int p2), .val (.int p3), .val (.int p4), .val (.int p5), .val (.int (3 : Int32)), .val (.ref b380), .unset, .unset, .unset, .unset, .unset, .unset, .unset] [(.int p3), (.int (2 : Int32)), (.ref b380)])) _
      exact k
    obtain ⟨cl391, Ar391, q391, S391, M391, H391, G391⟩ := id V387
    have hin391 : ¬ ((2 : Int32) < 0 ∨ cl391.slots.size ≤ ((2 : Int32)).toNatClampNeg) := inb_of S391 ⟨by decide, by decide⟩
    obtain ⟨T391, h391, X391, e391, W391, st391⟩ := stI X387 hx hZ e387 Ar391 (j := (2 : Int32)) hin391 (g := (mkF m 39 #[.val (.int p0), .val (.int p1), .val (.int p2), .val (.int p3), .val (.int p4), .val (.int p5), .val (.int (3 : Int32)), .val (.ref b380), .unset, .unset, .unset, .unset, .unset, .unset, .unset] [(.int p3), (.int (2 : Int32)), (.ref b380)])) rfl rfl (hb hby at_39)
    have Z391 : n0 ≤ h391.size := Nat.le_trans Z387 (Keep.of_wr W391).1
    have K391 : Keep h0 h391 [] := K387.wr W391 (Or.inr sz_b380)
    have N391 := Fr.snoc X391 N387 g_b380
    have Ef392 : Exa Z h391 b380 "[I" := (Ef388).wr W391
    have V391 : Arv Z h391 b380 k380 .int (3 : Int32) [(.int p1), (.int p2), (.int p3)] (.int (0 : Int32)) := Arv.set Ar391 q391 S391 M391 H391 G391 rfl W391 2 rfl (Nat.le_of_ble_eq_true rfl)
    have pre393 : ∀ t, Steps p.tables e below (T391.setTop (mkF m 40 #[.val (.int p0), .val (.int p1), .val (.int p2), .val (.int p3), .val (.int p4), .val (.int p5), .val (.int (3 : Int32)), .val (.ref b380), .unset, .unset, .unset, .unset, .unset, .unset, .unset] [])) t → Steps p.tables e below (s₁.setTop (entryFrame m #[(.int p0), (.int p1), (.int p2), (.int p3), (.int p4), (.int p5)] maxLocals)) t := fun t k => pre390 t (st391 t k)
    have pre394 : ∀ t, Steps p.tables e below (T391.setTop (mkF m 99 #[.val (.int p0), .val (.int p1), .val (.int p2), .val (.int p3), .val (.int p4), .val (.int p5), .val (.int (3 : Int32)), .val (.ref b380), .val (.int p3), .unset, .unset, .unset, .unset, .unset, .unset] [(.int ((p5 &&& (65535 : Int32)) + (1 : Int32)))])) t → Steps p.tables e below (s₁.setTop (entryFrame m #[(.int p0), (.int p1), (.int p2), (.int p3), (.int p4), (.int p5)] maxLocals)) t := by
      intro t k
      refine pre393 t ?_
      show Steps p.tables e below (T391.setTop (mkF m 40 #[.val (.int p0), .val (.int p1), .val (.int p2), .val (.int p3), .val (.int p4), .val (.int p5), .val (.int (3 : Int32)), .val (.ref b380), .unset, .unset, .unset, .unset, .unset, .unset, .unset] [])) _
      refine XS.iload X391.here hx rfl (hb hby at_40) rfl ?_
      show Steps p.tables e below (T391.setTop (mkF m 42 #[.val (.int p0), .val (.int p1), .val (.int p2), .val (.int p3), .val (.int p4), .val (.int p5), .val (.int (3 : Int32)), .val (.ref b380), .unset, .unset, .unset, .unset, .unset, .unset, .unset] [(.int (3 : Int32))])) _
      refine XS.iconst X391.here hx rfl (hb hby at_42) ?_
      show Steps p.tables e below (T391.setTop (mkF m 43 #[.val (.int p0), .val (.int p1), .val (.int p2), .val (.int p3), .val (.int p4), .val (.int p5), .val (.int (3 : Int32)), .val (.ref b380), .unset, .unset, .unset, .unset, .unset, .unset, .unset] [(.int (3 : Int32)), (.int (3 : Int32))])) _
      show Steps p.tables e below (T391.setTop (mkF m 43 #[.val (.int p0), .val (.int p1), .val (.int p2), .val (.int p3), .val (.int p4), .val (.int p5), .val (.int (3 : Int32)), .val (.ref b380), .unset, .unset, .unset, .unset, .unset, .unset, .unset] [(.int (3 : Int32)), (.int (3 : Int32))])) _
      refine XS.icmpYes X391.here hx rfl (pc0 := 43) (pc' := 52) rfl (hb hby at_43) rfl (flt (by decide : ¬ (3 : Int32) < (3 : Int32))).2.2.2 (by decide) (by decide) ?_
      show Steps p.tables e below (T391.setTop (mkF m 52 #[.val (.int p0), .val (.int p1), .val (.int p2), .val (.int p3), .val (.int p4), .val (.int p5), .val (.int (3 : Int32)), .val (.ref b380), .unset, .unset, .unset, .unset, .unset, .unset, .unset] [])) _
      refine XS.iload X391.here hx rfl (hb hby at_52) rfl ?_
      show Steps p.tables e below (T391.setTop (mkF m 54 #[.val (.int p0), .val (.int p1), .val (.int p2), .val (.int p3), .val (.int p4), .val (.int p5), .val (.int (3 : Int32)), .val (.ref b380), .unset, .unset, .unset, .unset, .unset, .unset, .unset] [(.int (3 : Int32))])) _
      refine XS.iconst X391.here hx rfl (hb hby at_54) ?_
      show Steps p.tables e below (T391.setTop (mkF m 55 #[.val (.int p0), .val (.int p1), .val (.int p2), .val (.int p3), .val (.int p4), .val (.int p5), .val (.int (3 : Int32)), .val (.ref b380), .unset, .unset, .unset, .unset, .unset, .unset, .unset] [(.int (1 : Int32)), (.int (3 : Int32))])) _
      show Steps p.tables e below (T391.setTop (mkF m 55 #[.val (.int p0), .val (.int p1), .val (.int p2), .val (.int p3), .val (.int p4), .val (.int p5), .val (.int (3 : Int32)), .val (.ref b380), .unset, .unset, .unset, .unset, .unset, .unset, .unset] [(.int (1 : Int32)), (.int (3 : Int32))])) _
      refine XS.icmpYes X391.here hx rfl (pc0 := 55) (pc' := 64) rfl (hb hby at_55) rfl (feq (by decide : ¬ (3 : Int32) = (1 : Int32))).2 (by decide) (by decide) ?_
      show Steps p.tables e below (T391.setTop (mkF m 64 #[.val (.int p0), .val (.int p1), .val (.int p2), .val (.int p3), .val (.int p4), .val (.int p5), .val (.int (3 : Int32)), .val (.ref b380), .unset, .unset, .unset, .unset, .unset, .unset, .unset] [])) _
      refine XS.iload X391.here hx rfl (hb hby at_64) rfl ?_
      show Steps p.tables e below (T391.setTop (mkF m 66 #[.val (.int p0), .val (.int p1), .val (.int p2), .val (.int p3), .val (.int p4), .val (.int p5), .val (.int (3 : Int32)), .val (.ref b380), .unset, .unset, .unset, .unset, .unset, .unset, .unset] [(.int (3 : Int32))])) _
      refine XS.iconst X391.here hx rfl (hb hby at_66) ?_
      show Steps p.tables e below (T391.setTop (mkF m 67 #[.val (.int p0), .val (.int p1), .val (.int p2), .val (.int p3), .val (.int p4), .val (.int p5), .val (.int (3 : Int32)), .val (.ref b380), .unset, .unset, .unset, .unset, .unset, .unset, .unset] [(.int (2 : Int32)), (.int (3 : Int32))])) _
      show Steps p.tables e below (T391.setTop (mkF m 67 #[.val (.int p0), .val (.int p1), .val (.int p2), .val (.int p3), .val (.int p4), .val (.int p5), .val (.int (3 : Int32)), .val (.ref b380), .unset, .unset, .unset, .unset, .unset, .unset, .unset] [(.int (2 : Int32)), (.int (3 : Int32))])) _
      refine XS.icmpYes X391.here hx rfl (pc0 := 67) (pc' := 76) rfl (hb hby at_67) rfl (feq (by decide : ¬ (3 : Int32) = (2 : Int32))).2 (by decide) (by decide) ?_
      show Steps p.tables e below (T391.setTop (mkF m 76 #[.val (.int p0), .val (.int p1), .val (.int p2), .val (.int p3), .val (.int p4), .val (.int p5), .val (.int (3 : Int32)), .val (.ref b380), .unset, .unset, .unset, .unset, .unset, .unset, .unset] [])) _
      refine XS.iload X391.here hx rfl (hb hby at_76) rfl ?_
      show Steps p.tables e below (T391.setTop (mkF m 78 #[.val (.int p0), .val (.int p1), .val (.int p2), .val (.int p3), .val (.int p4), .val (.int p5), .val (.int (3 : Int32)), .val (.ref b380), .unset, .unset, .unset, .unset, .unset, .unset, .unset] [(.int (3 : Int32))])) _
      refine XS.iconst X391.here hx rfl (hb hby at_78) ?_
      show Steps p.tables e below (T391.setTop (mkF m 79 #[.val (.int p0), .val (.int p1), .val (.int p2), .val (.int p3), .val (.int p4), .val (.int p5), .val (.int (3 : Int32)), .val (.ref b380), .unset, .unset, .unset, .unset, .unset, .unset, .unset] [(.int (3 : Int32)), (.int (3 : Int32))])) _
      show Steps p.tables e below (T391.setTop (mkF m 79 #[.val (.int p0), .val (.int p1), .val (.int p2), .val (.int p3), .val (.int p4), .val (.int p5), .val (.int (3 : Int32)), .val (.ref b380), .unset, .unset, .unset, .unset, .unset, .unset, .unset] [(.int (3 : Int32)), (.int (3 : Int32))])) _
      refine XS.icmpNo X391.here hx rfl (hb hby at_79) rfl (teq (by decide : (3 : Int32) = (3 : Int32))).2 ?_
      show Steps p.tables e below (T391.setTop (mkF m 82 #[.val (.int p0), .val (.int p1), .val (.int p2), .val (.int p3), .val (.int p4), .val (.int p5), .val (.int (3 : Int32)), .val (.ref b380), .unset, .unset, .unset, .unset, .unset, .unset, .unset] [])) _
      refine XS.iloadN X391.here hx rfl (hb hby at_82) rfl ?_
      show Steps p.tables e below (T391.setTop (mkF m 83 #[.val (.int p0), .val (.int p1), .val (.int p2), .val (.int p3), .val (.int p4), .val (.int p5), .val (.int (3 : Int32)), .val (.ref b380), .unset, .unset, .unset, .unset, .unset, .unset, .unset] [(.int p3)])) _
      refine XS.istore X391.here hx rfl (hb hby at_83) rfl (l' := #[.val (.int p0), .val (.int p1), .val (.int p2), .val (.int p3), .val (.int p4), .val (.int p5), .val (.int (3 : Int32)), .val (.ref b380), .val (.int p3), .unset, .unset, .unset, .unset, .unset, .unset]) rfl ?_
      show Steps p.tables e below (T391.setTop (mkF m 85 #[.val (.int p0), .val (.int p1), .val (.int p2), .val (.int p3), .val (.int p4), .val (.int p5), .val (.int (3 : Int32)), .val (.ref b380), .val (.int p3), .unset, .unset, .unset, .unset, .unset, .unset] [])) _
      refine XS.goto X391.here hx rfl (pc0 := 85) (pc' := 92) rfl (hb hby at_85) (by decide) (by decide) ?_
      show Steps p.tables e below (T391.setTop (mkF m 92 #[.val (.int p0), .val (.int p1), .val (.int p2), .val (.int p3), .val (.int p4), .val (.int p5), .val (.int (3 : Int32)), .val (.ref b380), .val (.int p3), .unset, .unset, .unset, .unset, .unset, .unset] [])) _
      refine XS.iload X391.here hx rfl (hb hby at_92) rfl ?_
      show Steps p.tables e below (T391.setTop (mkF m 94 #[.val (.int p0), .val (.int p1), .val (.int p2), .val (.int p3), .val (.int p4), .val (.int p5), .val (.int (3 : Int32)), .val (.ref b380), .val (.int p3), .unset, .unset, .unset, .unset, .unset, .unset] [(.int p5)])) _
      refine X391.ldcInt hx hown (mvT hZ (hw _ (List.mem_of_getElem? (i := 1) rfl))) (g := (mkF m 94 #[.val (.int p0), .val (.int p1), .val (.int p2), .val (.int p3), .val (.int p4), .val (.int p5), .val (.int (3 : Int32)), .val (.ref b380), .val (.int p3), .unset, .unset, .unset, .unset, .unset, .unset] [(.int p5)])) rfl (hb hby at_94) _ ?_
      show Steps p.tables e below (T391.setTop (mkF m 96 #[.val (.int p0), .val (.int p1), .val (.int p2), .val (.int p3), .val (.int p4), .val (.int p5), .val (.int (3 : Int32)), .val (.ref b380), .val (.int p3), .unset, .unset, .unset, .unset, .unset, .unset] [(.int (65535 : Int32)), (.int p5)])) _
      refine XS.iand X391.here hx rfl (hb hby at_96) rfl ?_
      show Steps p.tables e below (T391.setTop (mkF m 97 #[.val (.int p0), .val (.int p1), .val (.int p2), .val (.int p3), .val (.int p4), .val (.int p5), .val (.int (3 : Int32)), .val (.ref b380), .val (.int p3), .unset, .unset, .unset, .unset, .unset, .unset] [(.int (p5 &&& (65535 : Int32)))])) _
      refine XS.iconst X391.here hx rfl (hb hby at_97) ?_
      show Steps p.tables e below (T391.setTop (mkF m 98 #[.val (.int p0), .val (.int p1), .val (.int p2), .val (.int p3), .val (.int p4), .val (.int p5), .val (.int (3 : Int32)), .val (.ref b380), .val (.int p3), .unset, .unset, .unset, .unset, .unset, .unset] [(.int (1 : Int32)), (.int (p5 &&& (65535 : Int32)))])) _
      refine XS.iadd X391.here hx rfl (hb hby at_98) rfl ?_
      show Steps p.tables e below (T391.setTop (mkF m 99 #[.val (.int p0), .val (.int p1), .val (.int p2), .val (.int p3), .val (.int p4), .val (.int p5), .val (.int (3 : Int32)), .val (.ref b380), .val (.int p3), .unset, .unset, .unset, .unset, .unset, .unset] [(.int ((p5 &&& (65535 : Int32)) + (1 : Int32)))])) _
      exact k
    obtain ⟨v395, hv395⟩ : ∃ z : Int32, z = ((p5 &&& (65535 : Int32)) + (1 : Int32)) := ⟨_, rfl⟩
    have pre396 : ∀ t, Steps p.tables e below (T391.setTop (mkF m 99 #[.val (.int p0), .val (.int p1), .val (.int p2), .val (.int p3), .val (.int p4), .val (.int p5), .val (.int (3 : Int32)), .val (.ref b380), .val (.int p3), .unset, .unset, .unset, .unset, .unset, .unset] [(.int v395)])) t → Steps p.tables e below (s₁.setTop (entryFrame m #[(.int p0), (.int p1), (.int p2), (.int p3), (.int p4), (.int p5)] maxLocals)) t := by rw [hv395]; exact pre394
    have pre397 : ∀ t, Steps p.tables e below (T391.setTop (mkF m 111 #[.val (.int p0), .val (.int p1), .val (.int p2), .val (.int p3), .val (.int p4), .val (.int p5), .val (.int (3 : Int32)), .val (.ref b380), .val (.int p3), .val (.int v395), .unset, .unset, .unset, .unset, .unset] [(.int ((((p5.toUInt32 >>> ((16 : Int32) &&& 31).toUInt32).toInt32) &&& (65535 : Int32)) + (1 : Int32)))])) t → Steps p.tables e below (s₁.setTop (entryFrame m #[(.int p0), (.int p1), (.int p2), (.int p3), (.int p4), (.int p5)] maxLocals)) t := by
      intro t k
      refine pre396 t ?_
      show Steps p.tables e below (T391.setTop (mkF m 99 #[.val (.int p0), .val (.int p1), .val (.int p2), .val (.int p3), .val (.int p4), .val (.int p5), .val (.int (3 : Int32)), .val (.ref b380), .val (.int p3), .unset, .unset, .unset, .unset, .unset, .unset] [(.int v395)])) _
      refine XS.istore X391.here hx rfl (hb hby at_99) rfl (l' := #[.val (.int p0), .val (.int p1), .val (.int p2), .val (.int p3), .val (.int p4), .val (.int p5), .val (.int (3 : Int32)), .val (.ref b380), .val (.int p3), .val (.int v395), .unset, .unset, .unset, .unset, .unset]) rfl ?_
      show Steps p.tables e below (T391.setTop (mkF m 101 #[.val (.int p0), .val (.int p1), .val (.int p2), .val (.int p3), .val (.int p4), .val (.int p5), .val (.int (3 : Int32)), .val (.ref b380), .val (.int p3), .val (.int v395), .unset, .unset, .unset, .unset, .unset] [])) _
      refine XS.iload X391.here hx rfl (hb hby at_101) rfl ?_
      show Steps p.tables e below (T391.setTop (mkF m 103 #[.val (.int p0), .val (.int p1), .val (.int p2), .val (.int p3), .val (.int p4), .val (.int p5), .val (.int (3 : Int32)), .val (.ref b380), .val (.int p3), .val (.int v395), .unset, .unset, .unset, .unset, .unset] [(.int p5)])) _
      refine XS.bipush X391.here hx rfl (hb hby at_103) ?_
      show Steps p.tables e below (T391.setTop (mkF m 105 #[.val (.int p0), .val (.int p1), .val (.int p2), .val (.int p3), .val (.int p4), .val (.int p5), .val (.int (3 : Int32)), .val (.ref b380), .val (.int p3), .val (.int v395), .unset, .unset, .unset, .unset, .unset] [(.int (16 : Int32)), (.int p5)])) _
      refine XS.iushr X391.here hx rfl (hb hby at_105) rfl ?_
      show Steps p.tables e below (T391.setTop (mkF m 106 #[.val (.int p0), .val (.int p1), .val (.int p2), .val (.int p3), .val (.int p4), .val (.int p5), .val (.int (3 : Int32)), .val (.ref b380), .val (.int p3), .val (.int v395), .unset, .unset, .unset, .unset, .unset] [(.int ((p5.toUInt32 >>> ((16 : Int32) &&& 31).toUInt32).toInt32))])) _
      refine X391.ldcInt hx hown (mvT hZ (hw _ (List.mem_of_getElem? (i := 1) rfl))) (g := (mkF m 106 #[.val (.int p0), .val (.int p1), .val (.int p2), .val (.int p3), .val (.int p4), .val (.int p5), .val (.int (3 : Int32)), .val (.ref b380), .val (.int p3), .val (.int v395), .unset, .unset, .unset, .unset, .unset] [(.int ((p5.toUInt32 >>> ((16 : Int32) &&& 31).toUInt32).toInt32))])) rfl (hb hby at_106) _ ?_
      show Steps p.tables e below (T391.setTop (mkF m 108 #[.val (.int p0), .val (.int p1), .val (.int p2), .val (.int p3), .val (.int p4), .val (.int p5), .val (.int (3 : Int32)), .val (.ref b380), .val (.int p3), .val (.int v395), .unset, .unset, .unset, .unset, .unset] [(.int (65535 : Int32)), (.int ((p5.toUInt32 >>> ((16 : Int32) &&& 31).toUInt32).toInt32))])) _
      refine XS.iand X391.here hx rfl (hb hby at_108) rfl ?_
      show Steps p.tables e below (T391.setTop (mkF m 109 #[.val (.int p0), .val (.int p1), .val (.int p2), .val (.int p3), .val (.int p4), .val (.int p5), .val (.int (3 : Int32)), .val (.ref b380), .val (.int p3), .val (.int v395), .unset, .unset, .unset, .unset, .unset] [(.int (((p5.toUInt32 >>> ((16 : Int32) &&& 31).toUInt32).toInt32) &&& (65535 : Int32)))])) _
      refine XS.iconst X391.here hx rfl (hb hby at_109) ?_
      show Steps p.tables e below (T391.setTop (mkF m 110 #[.val (.int p0), .val (.int p1), .val (.int p2), .val (.int p3), .val (.int p4), .val (.int p5), .val (.int (3 : Int32)), .val (.ref b380), .val (.int p3), .val (.int v395), .unset, .unset, .unset, .unset, .unset] [(.int (1 : Int32)), (.int (((p5.toUInt32 >>> ((16 : Int32) &&& 31).toUInt32).toInt32) &&& (65535 : Int32)))])) _
      refine XS.iadd X391.here hx rfl (hb hby at_110) rfl ?_
      show Steps p.tables e below (T391.setTop (mkF m 111 #[.val (.int p0), .val (.int p1), .val (.int p2), .val (.int p3), .val (.int p4), .val (.int p5), .val (.int (3 : Int32)), .val (.ref b380), .val (.int p3), .val (.int v395), .unset, .unset, .unset, .unset, .unset] [(.int ((((p5.toUInt32 >>> ((16 : Int32) &&& 31).toUInt32).toInt32) &&& (65535 : Int32)) + (1 : Int32)))])) _
      exact k
    obtain ⟨v398, hv398⟩ : ∃ z : Int32, z = ((((p5.toUInt32 >>> ((16 : Int32) &&& 31).toUInt32).toInt32) &&& (65535 : Int32)) + (1 : Int32)) := ⟨_, rfl⟩
    have pre399 : ∀ t, Steps p.tables e below (T391.setTop (mkF m 111 #[.val (.int p0), .val (.int p1), .val (.int p2), .val (.int p3), .val (.int p4), .val (.int p5), .val (.int (3 : Int32)), .val (.ref b380), .val (.int p3), .val (.int v395), .unset, .unset, .unset, .unset, .unset] [(.int v398)])) t → Steps p.tables e below (s₁.setTop (entryFrame m #[(.int p0), (.int p1), (.int p2), (.int p3), (.int p4), (.int p5)] maxLocals)) t := by rw [hv398]; exact pre397
    have pre400 : ∀ t, Steps p.tables e below (T391.setTop (mkF m 113 #[.val (.int p0), .val (.int p1), .val (.int p2), .val (.int p3), .val (.int p4), .val (.int p5), .val (.int (3 : Int32)), .val (.ref b380), .val (.int p3), .val (.int v395), .val (.int v398), .unset, .unset, .unset, .unset] [])) t → Steps p.tables e below (s₁.setTop (entryFrame m #[(.int p0), (.int p1), (.int p2), (.int p3), (.int p4), (.int p5)] maxLocals)) t := by
      intro t k
      refine pre399 t ?_
      show Steps p.tables e below (T391.setTop (mkF m 111 #[.val (.int p0), .val (.int p1), .val (.int p2), .val (.int p3), .val (.int p4), .val (.int p5), .val (.int (3 : Int32)), .val (.ref b380), .val (.int p3), .val (.int v395), .unset, .unset, .unset, .unset, .unset] [(.int v398)])) _
      refine XS.istore X391.here hx rfl (hb hby at_111) rfl (l' := #[.val (.int p0), .val (.int p1), .val (.int p2), .val (.int p3), .val (.int p4), .val (.int p5), .val (.int (3 : Int32)), .val (.ref b380), .val (.int p3), .val (.int v395), .val (.int v398), .unset, .unset, .unset, .unset]) rfl ?_
      show Steps p.tables e below (T391.setTop (mkF m 113 #[.val (.int p0), .val (.int p1), .val (.int p2), .val (.int p3), .val (.int p4), .val (.int p5), .val (.int (3 : Int32)), .val (.ref b380), .val (.int p3), .val (.int v395), .val (.int v398), .unset, .unset, .unset, .unset] [])) _
      exact k
    obtain ⟨T401, h401, X401, e401, E401, A401, D401, -, st401⟩ := newO X391 hx hZ hown (hw _ (List.mem_of_getElem? (i := 2) rfl)) (hw _ (List.mem_of_getElem? (i := 3) rfl)) (hw _ (List.mem_of_getElem? (i := 4) rfl)) e391 (g := (mkF m 113 #[.val (.int p0), .val (.int p1), .val (.int p2), .val (.int p3), .val (.int p4), .val (.int p5), .val (.int (3 : Int32)), .val (.ref b380), .val (.int p3), .val (.int v395), .val (.int v398), .unset, .unset, .unset, .unset] [])) rfl (hb hby at_113) (by decide) (by decide)
    obtain ⟨b401, g401⟩ : ∃ z, z = h391.size := ⟨_, rfl⟩
    rw [← g401] at A401 D401 st401
    have ne_b380_b401 : b380 ≠ b401 := Nat.ne_of_lt (Nat.lt_of_lt_of_le (Ef392).lt (Nat.le_of_eq g401.symm))
    have g_b401 : n0 ≤ b401 := Nat.le_trans Z391 (Nat.le_of_eq g401.symm)
    have sz_b401 : h0.size ≤ b401 := Nat.le_trans K391.1 (Nat.le_of_eq g401.symm)
    have Z401 : n0 ≤ h401.size := Nat.le_trans Z391 E401.1
    have K401 : Keep h0 h401 [] := K391.ext E401
    have Ef402 : Exa Z h401 b380 "[I" := (Ef392).ext E401
    have Vf403 : Arv Z h401 b380 k380 .int (3 : Int32) [(.int p1), (.int p2), (.int p3)] (.int (0 : Int32)) := (V391).ext E401
    have Fnumber_b401 : Fld Z h401 b401 "com/example/timely_exodus/timelyexodus/plan/Vehicle" "number" "I" (.int (0 : Int32)) := D401 (Or.inr (hw _ (List.mem_of_getElem? (i := 12) rfl))) (ty := .int) (by decide)
    have FdeparturePeriod_b401 : Fld Z h401 b401 "com/example/timely_exodus/timelyexodus/plan/Vehicle" "departurePeriod" "I" (.int (0 : Int32)) := D401 (Or.inr (hw _ (List.mem_of_getElem? (i := 14) rfl))) (ty := .int) (by decide)
    have Froute_b401 : Fld Z h401 b401 "com/example/timely_exodus/timelyexodus/plan/Vehicle" "route" "[I" .null := D401 (Or.inr (hw _ (List.mem_of_getElem? (i := 25) rfl))) (ty := (.array .int)) (by decide)
    have pre404 : ∀ t, Steps p.tables e below (T401.setTop (mkF m 116 #[.val (.int p0), .val (.int p1), .val (.int p2), .val (.int p3), .val (.int p4), .val (.int p5), .val (.int (3 : Int32)), .val (.ref b380), .val (.int p3), .val (.int v395), .val (.int v398), .unset, .unset, .unset, .unset] [(.ref b401)])) t → Steps p.tables e below (s₁.setTop (entryFrame m #[(.int p0), (.int p1), (.int p2), (.int p3), (.int p4), (.int p5)] maxLocals)) t := fun t k => pre400 t (st401 t k)
    have pre405 : ∀ t, Steps p.tables e below (T401.setTop (mkF m 123 #[.val (.int p0), .val (.int p1), .val (.int p2), .val (.int p3), .val (.int p4), .val (.int p5), .val (.int (3 : Int32)), .val (.ref b380), .val (.int p3), .val (.int v395), .val (.int v398), .unset, .unset, .unset, .unset] [(.ref b380), (.int v398), (.int v395), (.ref b401), (.ref b401)])) t → Steps p.tables e below (s₁.setTop (entryFrame m #[(.int p0), (.int p1), (.int p2), (.int p3), (.int p4), (.int p5)] maxLocals)) t := by
      intro t k
      refine pre404 t ?_
      show Steps p.tables e below (T401.setTop (mkF m 116 #[.val (.int p0), .val (.int p1), .val (.int p2), .val (.int p3), .val (.int p4), .val (.int p5), .val (.int (3 : Int32)), .val (.ref b380), .val (.int p3), .val (.int v395), .val (.int v398), .unset, .unset, .unset, .unset] [(.ref b401)])) _
      refine XS.dup X401.here hx rfl (hb hby at_116) rfl rfl ?_
      show Steps p.tables e below (T401.setTop (mkF m 117 #[.val (.int p0), .val (.int p1), .val (.int p2), .val (.int p3), .val (.int p4), .val (.int p5), .val (.int (3 : Int32)), .val (.ref b380), .val (.int p3), .val (.int v395), .val (.int v398), .unset, .unset, .unset, .unset] [(.ref b401), (.ref b401)])) _
      refine XS.iload X401.here hx rfl (hb hby at_117) rfl ?_
      show Steps p.tables e below (T401.setTop (mkF m 119 #[.val (.int p0), .val (.int p1), .val (.int p2), .val (.int p3), .val (.int p4), .val (.int p5), .val (.int (3 : Int32)), .val (.ref b380), .val (.int p3), .val (.int v395), .val (.int v398), .unset, .unset, .unset, .unset] [(.int v395), (.ref b401), (.ref b401)])) _
      refine XS.iload X401.here hx rfl (hb hby at_119) rfl ?_
      show Steps p.tables e below (T401.setTop (mkF m 121 #[.val (.int p0), .val (.int p1), .val (.int p2), .val (.int p3), .val (.int p4), .val (.int p5), .val (.int (3 : Int32)), .val (.ref b380), .val (.int p3), .val (.int v395), .val (.int v398), .unset, .unset, .unset, .unset] [(.int v398), (.int v395), (.ref b401), (.ref b401)])) _
      refine XS.aload X401.here hx rfl (hb hby at_121) rfl rfl ?_
      show Steps p.tables e below (T401.setTop (mkF m 123 #[.val (.int p0), .val (.int p1), .val (.int p2), .val (.int p3), .val (.int p4), .val (.int p5), .val (.int (3 : Int32)), .val (.ref b380), .val (.int p3), .val (.int v395), .val (.int v398), .unset, .unset, .unset, .unset] [(.ref b380), (.int v398), (.int v395), (.ref b401), (.ref b401)])) _
      exact k
    obtain ⟨_, _, ⟨T406, L406, k406, n406⟩, -, X406, ⟨Lc406, hQ406, l406, y406, z406⟩, st406⟩ := X401.specialBack hx (y := (⟨"com/example/timely_exodus/timelyexodus/plan/Vehicle", "<init>", "(II[I)V"⟩ : MethodName)) rfl hown (mvT hZ (hw _ (List.mem_of_getElem? (i := 5) rfl))) (mvT hZ (hw _ (List.mem_of_getElem? (i := 6) rfl))) (mvT hZ (hw _ (List.mem_of_getElem? (i := 7) rfl))) (by decide) (backOf (W := 1) (rm1_n3 l Z ar0 hw [] b401 v395 v398 b380 k380 p1 p2 p3 (0 : Int32) .null (0 : Int32) h401 n0 Z401 Vf403 Ef402 FdeparturePeriod_b401 Froute_b401 (own_posA hv395) (own_posB hv398) A401 Fnumber_b401 g_b401 ne_b380_b401) hZ (hw _ (List.mem_of_getElem? (i := 7) rfl)) (hw _ (List.mem_of_getElem? (i := 4) rfl)) (by decide) (by decide)) (g := (mkF m 123 #[.val (.int p0), .val (.int p1), .val (.int p2), .val (.int p3), .val (.int p4), .val (.int p5), .val (.int (3 : Int32)), .val (.ref b380), .val (.int p3), .val (.int v395), .val (.int v398), .unset, .unset, .unset, .unset] [(.ref b380), (.int v398), (.int v395), (.ref b401), (.ref b401)])) rfl (by rw [hml]; rfl) (Steps.refl _) (a := b401) (argsL := [(.int v395), (.int v398), (.ref b380)]) (rest := [(.ref b401)]) (lenOf pd_0 rfl) rfl (by show 2 * 0 + _ ≤ _; exact Nat.le_of_eq rfl) (hb hby at_123) (fun _ _ => ⟨rfl, e401, (by decide : 2 + 1 ≤ _), (by decide : 6 + 3 ≤ _)⟩)
    dsimp only [Pt.U, Pt.locs, Pt.cells, Pt.slots] at X406 l406 y406 z406 st406 hQ406
    subst l406 y406 z406
    obtain ⟨h406, e406⟩ : ∃ h, T406.heap = h := ⟨_, rfl⟩
    rw [e406] at hQ406
    obtain ⟨b406, kb406, rfl, N406q, K406q, Q406_0, Q406_1, Q406_2, Q406_3, y_b406, Ob406_0, Ob406_1⟩ := hQ406
    have N406 := Fr.app N391 N406q
    have ne_b380_b406 : b380 ≠ b406 := Nat.ne_of_lt (Nat.lt_of_lt_of_le (Ef402).lt y_b406)
    have ne_b401_b406 : b401 ≠ b406 := Nat.ne_of_lt (Nat.lt_of_lt_of_le (A401).lt y_b406)
    have g_b406 : n0 ≤ b406 := Nat.le_trans Z401 y_b406
    have sz_b406 : h0.size ≤ b406 := Nat.le_trans K401.1 y_b406
    have Z406 : n0 ≤ h406.size := Nat.le_trans Z401 K406q.1
    have K406 : Keep h0 h406 [] := K401.trans K406q (fun x hx => by cases List.mem_singleton.mp hx; exact Or.inr sz_b401)
    have Ef407 : Exa Z h406 b380 "[I" := (Ef402).keep K406q
    have Vf408 : Arv Z h406 b380 k380 .int (3 : Int32) [(.int p1), (.int p2), (.int p3)] (.int (0 : Int32)) := (Vf403).keep K406q (fun q => absurd (List.mem_singleton.mp q) ne_b380_b401)
    have Ef409 : Exa Z h406 b401 "com/example/timely_exodus/timelyexodus/plan/Vehicle" := (A401).keep K406q
    have pre410 : ∀ t, Steps p.tables e below (T406.setTop (mkF m 126 #[.val (.int p0), .val (.int p1), .val (.int p2), .val (.int p3), .val (.int p4), .val (.int p5), .val (.int (3 : Int32)), .val (.ref b380), .val (.int p3), .val (.int v395), .val (.int v398), .unset, .unset, .unset, .unset] [(.ref b401)])) t → Steps p.tables e below (s₁.setTop (entryFrame m #[(.int p0), (.int p1), (.int p2), (.int p3), (.int p4), (.int p5)] maxLocals)) t := fun t k => pre405 t (st406.trans k)
    have pre411 : ∀ t, Steps p.tables e below (T406.setTop (mkF m 130 #[.val (.int p0), .val (.int p1), .val (.int p2), .val (.int p3), .val (.int p4), .val (.int p5), .val (.int (3 : Int32)), .val (.ref b380), .val (.int p3), .val (.int v395), .val (.int v398), .val (.ref b401), .unset, .unset, .unset] [(.ref b401)])) t → Steps p.tables e below (s₁.setTop (entryFrame m #[(.int p0), (.int p1), (.int p2), (.int p3), (.int p4), (.int p5)] maxLocals)) t := by
      intro t k
      refine pre410 t ?_
      show Steps p.tables e below (T406.setTop (mkF m 126 #[.val (.int p0), .val (.int p1), .val (.int p2), .val (.int p3), .val (.int p4), .val (.int p5), .val (.int (3 : Int32)), .val (.ref b380), .val (.int p3), .val (.int v395), .val (.int v398), .unset, .unset, .unset, .unset] [(.ref b401)])) _
      refine XS.astore X406.here hx rfl (hb hby at_126) rfl rfl (l' := #[.val (.int p0), .val (.int p1), .val (.int p2), .val (.int p3), .val (.int p4), .val (.int p5), .val (.int (3 : Int32)), .val (.ref b380), .val (.int p3), .val (.int v395), .val (.int v398), .val (.ref b401), .unset, .unset, .unset]) rfl ?_
      show Steps p.tables e below (T406.setTop (mkF m 128 #[.val (.int p0), .val (.int p1), .val (.int p2), .val (.int p3), .val (.int p4), .val (.int p5), .val (.int (3 : Int32)), .val (.ref b380), .val (.int p3), .val (.int v395), .val (.int v398), .val (.ref b401), .unset, .unset, .unset] [])) _
      refine XS.aload X406.here hx rfl (hb hby at_128) rfl rfl ?_
      show Steps p.tables e below (T406.setTop (mkF m 130 #[.val (.int p0), .val (.int p1), .val (.int p2), .val (.int p3), .val (.int p4), .val (.int p5), .val (.int (3 : Int32)), .val (.ref b380), .val (.int p3), .val (.int v395), .val (.int v398), .val (.ref b401), .unset, .unset, .unset] [(.ref b401)])) _
      exact k
    obtain ⟨cq412, kq412, q412a, q412b, q412c⟩ := isOf hZ e406 Q406_0
    obtain ⟨_, _, ⟨T412, L412, k412, n412⟩, -, X412, ⟨Lc412, hQ412, l412, y412, z412⟩, st412⟩ := X406.virtualBack hx (y := (⟨"com/example/timely_exodus/timelyexodus/plan/Vehicle", "getExitCell", "()I"⟩ : MethodName)) (z := (⟨"com/example/timely_exodus/timelyexodus/plan/Vehicle", "getExitCell", "()I"⟩ : MethodName)) hown (mvT hZ (hw _ (List.mem_of_getElem? (i := 26) rfl))) (mvT hZ (hw _ (List.mem_of_getElem? (i := 27) rfl))) (notFace_of_selects (args := #[]) (mvT hZ (hw _ (List.mem_of_getElem? (i := 29) rfl)))) (mvT hZ (hw _ (List.mem_of_getElem? (i := 29) rfl))) (mvT hZ (hw _ (List.mem_of_getElem? (i := 28) rfl))) (by decide) (backOf (W := 0) (rm3_n3 l Z ar0 hw [] b401 b406 kb406 p1 p2 p3 h406 n0 Z406 Q406_3 Ob406_0) hZ (hw _ (List.mem_of_getElem? (i := 30) rfl)) (hw _ (List.mem_of_getElem? (i := 4) rfl)) (by decide) (by decide)) q412a q412c (g := (mkF m 130 #[.val (.int p0), .val (.int p1), .val (.int p2), .val (.int p3), .val (.int p4), .val (.int p5), .val (.int (3 : Int32)), .val (.ref b380), .val (.int p3), .val (.int v395), .val (.int v398), .val (.ref b401), .unset, .unset, .unset] [(.ref b401)])) rfl (by rw [hml]; rfl) (Steps.refl _) (argsL := []) (rest := []) (lenOf pd_1 rfl) rfl (by show 2 * 0 + _ ≤ _; exact Nat.le_of_eq rfl) (hb hby at_130) (fun _ _ => ⟨rfl, e406, (by decide : 3 + 0 ≤ _), (by decide : 9 + 0 ≤ _)⟩)
    dsimp only [Pt.U, Pt.locs, Pt.cells, Pt.slots] at X412 l412 y412 z412 st412 hQ412
    subst l412 y412 z412
    obtain ⟨rfl, N412q, e412⟩ := hQ412
    have N412 := Fr.app N406 N412q
    have pre413 : ∀ t, Steps p.tables e below (T412.setTop (mkF m 133 #[.val (.int p0), .val (.int p1), .val (.int p2), .val (.int p3), .val (.int p4), .val (.int p5), .val (.int (3 : Int32)), .val (.ref b380), .val (.int p3), .val (.int v395), .val (.int v398), .val (.ref b401), .unset, .unset, .unset] [(.int p3)])) t → Steps p.tables e below (s₁.setTop (entryFrame m #[(.int p0), (.int p1), (.int p2), (.int p3), (.int p4), (.int p5)] maxLocals)) t := fun t k => pre411 t (st412.trans k)
    have pre414 : ∀ t, Steps p.tables e below (T412.setTop (mkF m 155 #[.val (.int p0), .val (.int p1), .val (.int p2), .val (.int p3), .val (.int p4), .val (.int p5), .val (.int (3 : Int32)), .val (.ref b380), .val (.int p3), .val (.int v395), .val (.int v398), .val (.ref b401), .val (.int (1 : Int32)), .unset, .unset] [(.int (p3 ^^^ (-1 : Int32))), (.int (2 : Int32)), (.ref b380)])) t → Steps p.tables e below (s₁.setTop (entryFrame m #[(.int p0), (.int p1), (.int p2), (.int p3), (.int p4), (.int p5)] maxLocals)) t := by
      intro t k
      refine pre413 t ?_
      show Steps p.tables e below (T412.setTop (mkF m 133 #[.val (.int p0), .val (.int p1), .val (.int p2), .val (.int p3), .val (.int p4), .val (.int p5), .val (.int (3 : Int32)), .val (.ref b380), .val (.int p3), .val (.int v395), .val (.int v398), .val (.ref b401), .unset, .unset, .unset] [(.int p3)])) _
      refine XS.iload X412.here hx rfl (hb hby at_133) rfl ?_
      show Steps p.tables e below (T412.setTop (mkF m 135 #[.val (.int p0), .val (.int p1), .val (.int p2), .val (.int p3), .val (.int p4), .val (.int p5), .val (.int (3 : Int32)), .val (.ref b380), .val (.int p3), .val (.int v395), .val (.int v398), .val (.ref b401), .unset, .unset, .unset] [(.int p3), (.int p3)])) _
      show Steps p.tables e below (T412.setTop (mkF m 135 #[.val (.int p0), .val (.int p1), .val (.int p2), .val (.int p3), .val (.int p4), .val (.int p5), .val (.int (3 : Int32)), .val (.ref b380), .val (.int p3), .val (.int v395), .val (.int v398), .val (.ref b401), .unset, .unset, .unset] [(.int p3), (.int p3)])) _
      refine XS.icmpNo X412.here hx rfl (hb hby at_135) rfl (teq (rfl : p3 = p3)).2 ?_
      show Steps p.tables e below (T412.setTop (mkF m 138 #[.val (.int p0), .val (.int p1), .val (.int p2), .val (.int p3), .val (.int p4), .val (.int p5), .val (.int (3 : Int32)), .val (.ref b380), .val (.int p3), .val (.int v395), .val (.int v398), .val (.ref b401), .unset, .unset, .unset] [])) _
      refine XS.iconst X412.here hx rfl (hb hby at_138) ?_
      show Steps p.tables e below (T412.setTop (mkF m 139 #[.val (.int p0), .val (.int p1), .val (.int p2), .val (.int p3), .val (.int p4), .val (.int p5), .val (.int (3 : Int32)), .val (.ref b380), .val (.int p3), .val (.int v395), .val (.int v398), .val (.ref b401), .unset, .unset, .unset] [(.int (1 : Int32))])) _
      refine XS.goto X412.here hx rfl (pc0 := 139) (pc' := 143) rfl (hb hby at_139) (by decide) (by decide) ?_
      show Steps p.tables e below (T412.setTop (mkF m 143 #[.val (.int p0), .val (.int p1), .val (.int p2), .val (.int p3), .val (.int p4), .val (.int p5), .val (.int (3 : Int32)), .val (.ref b380), .val (.int p3), .val (.int v395), .val (.int v398), .val (.ref b401), .unset, .unset, .unset] [(.int (1 : Int32))])) _
      refine XS.istore X412.here hx rfl (hb hby at_143) rfl (l' := #[.val (.int p0), .val (.int p1), .val (.int p2), .val (.int p3), .val (.int p4), .val (.int p5), .val (.int (3 : Int32)), .val (.ref b380), .val (.int p3), .val (.int v395), .val (.int v398), .val (.ref b401), .val (.int (1 : Int32)), .unset, .unset]) rfl ?_
      show Steps p.tables e below (T412.setTop (mkF m 145 #[.val (.int p0), .val (.int p1), .val (.int p2), .val (.int p3), .val (.int p4), .val (.int p5), .val (.int (3 : Int32)), .val (.ref b380), .val (.int p3), .val (.int v395), .val (.int v398), .val (.ref b401), .val (.int (1 : Int32)), .unset, .unset] [])) _
      refine XS.aload X412.here hx rfl (hb hby at_145) rfl rfl ?_
      show Steps p.tables e below (T412.setTop (mkF m 147 #[.val (.int p0), .val (.int p1), .val (.int p2), .val (.int p3), .val (.int p4), .val (.int p5), .val (.int (3 : Int32)), .val (.ref b380), .val (.int p3), .val (.int v395), .val (.int v398), .val (.ref b401), .val (.int (1 : Int32)), .unset, .unset] [(.ref b380)])) _
      refine XS.iload X412.here hx rfl (hb hby at_147) rfl ?_
      show Steps p.tables e below (T412.setTop (mkF m 149 #[.val (.int p0), .val (.int p1), .val (.int p2), .val (.int p3), .val (.int p4), .val (.int p5), .val (.int (3 : Int32)), .val (.ref b380), .val (.int p3), .val (.int v395), .val (.int v398), .val (.ref b401), .val (.int (1 : Int32)), .unset, .unset] [(.int (3 : Int32)), (.ref b380)])) _
      refine XS.iconst X412.here hx rfl (hb hby at_149) ?_
      show Steps p.tables e below (T412.setTop (mkF m 150 #[.val (.int p0), .val (.int p1), .val (.int p2), .val (.int p3), .val (.int p4), .val (.int p5), .val (.int (3 : Int32)), .val (.ref b380), .val (.int p3), .val (.int v395), .val (.int v398), .val (.ref b401), .val (.int (1 : Int32)), .unset, .unset] [(.int (1 : Int32)), (.int (3 : Int32)), (.ref b380)])) _
      refine XS.isub X412.here hx rfl (hb hby at_150) rfl ?_
      show Steps p.tables e below (T412.setTop (mkF m 151 #[.val (.int p0), .val (.int p1), .val (.int p2), .val (.int p3), .val (.int p4), .val (.int p5), .val (.int (3 : Int32)), .val (.ref b380), .val (.int p3), .val (.int v395), .val (.int v398), .val (.ref b401), .val (.int (1 : Int32)), .unset, .unset] [(.int (2 : Int32)), (.ref b380)])) _
      refine XS.iload X412.here hx rfl (hb hby at_151) rfl ?_
      show Steps p.tables e below (T412.setTop (mkF m 153 #[.val (.int p0), .val (.int p1), .val (.int p2), .val (.int p3), .val (.int p4), .val (.int p5), .val (.int (3 : Int32)), .val (.ref b380), .val (.int p3), .val (.int v395), .val (.int v398), .val (.ref b401), .val (.int (1 : Int32)), .unset, .unset] [(.int p3), (.int (2 : Int32)), (.ref b380)])) _
      refine XS.iconst X412.here hx rfl (hb hby at_153) ?_
      show Steps p.tables e below (T412.setTop (mkF m 154 #[.val (.int p0), .val (.int p1), .val (.int p2), .val (.int p3), .val (.int p4), .val (.int p5), .val (.int (3 : Int32)), .val (.ref b380), .val (.int p3), .val (.int v395), .val (.int v398), .val (.ref b401), .val (.int (1 : Int32)), .unset, .unset] [(.int (-1 : Int32)), (.int p3), (.int (2 : Int32)), (.ref b380)])) _
      refine XS.ixor X412.here hx rfl (hb hby at_154) rfl ?_
      show Steps p.tables e below (T412.setTop (mkF m 155 #[.val (.int p0), .val (.int p1), .val (.int p2), .val (.int p3), .val (.int p4), .val (.int p5), .val (.int (3 : Int32)), .val (.ref b380), .val (.int p3), .val (.int v395), .val (.int v398), .val (.ref b401), .val (.int (1 : Int32)), .unset, .unset] [(.int (p3 ^^^ (-1 : Int32))), (.int (2 : Int32)), (.ref b380)])) _
      exact k
    obtain ⟨cl415, Ar415, q415, S415, M415, H415, G415⟩ := id Vf408
    have hin415 : ¬ ((2 : Int32) < 0 ∨ cl415.slots.size ≤ ((2 : Int32)).toNatClampNeg) := inb_of S415 ⟨by decide, by decide⟩
    obtain ⟨T415, h415, X415, e415, W415, st415⟩ := stI X412 hx hZ e412 Ar415 (j := (2 : Int32)) hin415 (g := (mkF m 155 #[.val (.int p0), .val (.int p1), .val (.int p2), .val (.int p3), .val (.int p4), .val (.int p5), .val (.int (3 : Int32)), .val (.ref b380), .val (.int p3), .val (.int v395), .val (.int v398), .val (.ref b401), .val (.int (1 : Int32)), .unset, .unset] [(.int (p3 ^^^ (-1 : Int32))), (.int (2 : Int32)), (.ref b380)])) rfl rfl (hb hby at_155)
    have Z415 : n0 ≤ h415.size := Nat.le_trans Z406 (Keep.of_wr W415).1
    have K415 : Keep h0 h415 [] := K406.wr W415 (Or.inr sz_b380)
    have N415 := Fr.snoc X415 N412 g_b380
    have Ef416 : Exa Z h415 b380 "[I" := (Ef407).wr W415
    have Ef417 : Exa Z h415 b401 "com/example/timely_exodus/timelyexodus/plan/Vehicle" := (Q406_0).wr W415
    have Ff418 : Fld Z h415 b401 "com/example/timely_exodus/timelyexodus/plan/Vehicle" "number" "I" (.int v395) := (Q406_1).other W415 (Or.inl ne_b380_b401.symm)
    have Ff419 : Fld Z h415 b401 "com/example/timely_exodus/timelyexodus/plan/Vehicle" "departurePeriod" "I" (.int v398) := (Q406_2).other W415 (Or.inl ne_b380_b401.symm)
    have Ff420 : Fld Z h415 b401 "com/example/timely_exodus/timelyexodus/plan/Vehicle" "route" "[I" (.ref b406) := (Q406_3).other W415 (Or.inl ne_b380_b401.symm)
    have Vf421 : Arv Z h415 b406 kb406 .int (3 : Int32) [(.int p1), (.int p2), (.int p3)] (.int (0 : Int32)) := (Ob406_0).other W415 ne_b380_b406.symm
    have Ef422 : Exa Z h415 b406 "[I" := (Ob406_1).wr W415
    have V415 : Arv Z h415 b380 k380 .int (3 : Int32) [(.int p1), (.int p2), (.int (p3 ^^^ (-1 : Int32)))] (.int (0 : Int32)) := Arv.set Ar415 q415 S415 M415 H415 G415 rfl W415 2 rfl (Nat.le_of_ble_eq_true rfl)
    have pre423 : ∀ t, Steps p.tables e below (T415.setTop (mkF m 156 #[.val (.int p0), .val (.int p1), .val (.int p2), .val (.int p3), .val (.int p4), .val (.int p5), .val (.int (3 : Int32)), .val (.ref b380), .val (.int p3), .val (.int v395), .val (.int v398), .val (.ref b401), .val (.int (1 : Int32)), .unset, .unset] [])) t → Steps p.tables e below (s₁.setTop (entryFrame m #[(.int p0), (.int p1), (.int p2), (.int p3), (.int p4), (.int p5)] maxLocals)) t := fun t k => pre414 t (st415 t k)
    have pre424 : ∀ t, Steps p.tables e below (T415.setTop (mkF m 158 #[.val (.int p0), .val (.int p1), .val (.int p2), .val (.int p3), .val (.int p4), .val (.int p5), .val (.int (3 : Int32)), .val (.ref b380), .val (.int p3), .val (.int v395), .val (.int v398), .val (.ref b401), .val (.int (1 : Int32)), .unset, .unset] [(.ref b401)])) t → Steps p.tables e below (s₁.setTop (entryFrame m #[(.int p0), (.int p1), (.int p2), (.int p3), (.int p4), (.int p5)] maxLocals)) t := by
      intro t k
      refine pre423 t ?_
      show Steps p.tables e below (T415.setTop (mkF m 156 #[.val (.int p0), .val (.int p1), .val (.int p2), .val (.int p3), .val (.int p4), .val (.int p5), .val (.int (3 : Int32)), .val (.ref b380), .val (.int p3), .val (.int v395), .val (.int v398), .val (.ref b401), .val (.int (1 : Int32)), .unset, .unset] [])) _
      refine XS.aload X415.here hx rfl (hb hby at_156) rfl rfl ?_
      show Steps p.tables e below (T415.setTop (mkF m 158 #[.val (.int p0), .val (.int p1), .val (.int p2), .val (.int p3), .val (.int p4), .val (.int p5), .val (.int (3 : Int32)), .val (.ref b380), .val (.int p3), .val (.int v395), .val (.int v398), .val (.ref b401), .val (.int (1 : Int32)), .unset, .unset] [(.ref b401)])) _
      exact k
    obtain ⟨cq425, kq425, q425a, q425b, q425c⟩ := isOf hZ e415 Ef417
    obtain ⟨_, _, ⟨T425, L425, k425, n425⟩, -, X425, ⟨Lc425, hQ425, l425, y425, z425⟩, st425⟩ := X415.virtualBack hx (y := (⟨"com/example/timely_exodus/timelyexodus/plan/Vehicle", "getRoute", "()[I"⟩ : MethodName)) (z := (⟨"com/example/timely_exodus/timelyexodus/plan/Vehicle", "getRoute", "()[I"⟩ : MethodName)) hown (mvT hZ (hw _ (List.mem_of_getElem? (i := 31) rfl))) (mvT hZ (hw _ (List.mem_of_getElem? (i := 32) rfl))) (notFace_of_selects (args := #[]) (mvT hZ (hw _ (List.mem_of_getElem? (i := 34) rfl)))) (mvT hZ (hw _ (List.mem_of_getElem? (i := 34) rfl))) (mvT hZ (hw _ (List.mem_of_getElem? (i := 33) rfl))) (by decide) (backOf (W := 0) (rm4_n3 l Z ar0 hw [] b401 b406 kb406 p1 p2 p3 h415 n0 Z415 Ff420 Vf421 Ef422) hZ (hw _ (List.mem_of_getElem? (i := 35) rfl)) (hw _ (List.mem_of_getElem? (i := 4) rfl)) (by decide) (by decide)) q425a q425c (g := (mkF m 158 #[.val (.int p0), .val (.int p1), .val (.int p2), .val (.int p3), .val (.int p4), .val (.int p5), .val (.int (3 : Int32)), .val (.ref b380), .val (.int p3), .val (.int v395), .val (.int v398), .val (.ref b401), .val (.int (1 : Int32)), .unset, .unset] [(.ref b401)])) rfl (by rw [hml]; rfl) (Steps.refl _) (argsL := []) (rest := []) (lenOf pd_2 rfl) rfl (by show 2 * 0 + _ ≤ _; exact Nat.le_of_eq rfl) (hb hby at_158) (fun _ _ => ⟨rfl, e415, (by decide : 3 + 1 ≤ _), (by decide : 9 + 3 ≤ _)⟩)
    dsimp only [Pt.U, Pt.locs, Pt.cells, Pt.slots] at X425 l425 y425 z425 st425 hQ425
    subst l425 y425 z425
    obtain ⟨h425, e425⟩ : ∃ h, T425.heap = h := ⟨_, rfl⟩
    rw [e425] at hQ425
    obtain ⟨b425, kb425, rfl, N425q, K425q, y_b425, Ob425_0, Ob425_1⟩ := hQ425
    have N425 := Fr.app N415 N425q
    have ne_b380_b425 : b380 ≠ b425 := Nat.ne_of_lt (Nat.lt_of_lt_of_le (Ef416).lt y_b425)
    have ne_b401_b425 : b401 ≠ b425 := Nat.ne_of_lt (Nat.lt_of_lt_of_le (Ef417).lt y_b425)
    have ne_b406_b425 : b406 ≠ b425 := Nat.ne_of_lt (Nat.lt_of_lt_of_le (Vf421).lt y_b425)
    have g_b425 : n0 ≤ b425 := Nat.le_trans Z415 y_b425
    have sz_b425 : h0.size ≤ b425 := Nat.le_trans K415.1 y_b425
    have Z425 : n0 ≤ h425.size := Nat.le_trans Z415 K425q.1
    have K425 : Keep h0 h425 [] := K415.trans K425q (fun x hx => absurd hx List.not_mem_nil)
    have Ef426 : Exa Z h425 b380 "[I" := (Ef416).keep K425q
    have Ef427 : Exa Z h425 b401 "com/example/timely_exodus/timelyexodus/plan/Vehicle" := (Ef417).keep K425q
    have Ff428 : Fld Z h425 b401 "com/example/timely_exodus/timelyexodus/plan/Vehicle" "number" "I" (.int v395) := (Ff418).keep K425q List.not_mem_nil
    have Ff429 : Fld Z h425 b401 "com/example/timely_exodus/timelyexodus/plan/Vehicle" "departurePeriod" "I" (.int v398) := (Ff419).keep K425q List.not_mem_nil
    have Ff430 : Fld Z h425 b401 "com/example/timely_exodus/timelyexodus/plan/Vehicle" "route" "[I" (.ref b406) := (Ff420).keep K425q List.not_mem_nil
    have Vf431 : Arv Z h425 b406 kb406 .int (3 : Int32) [(.int p1), (.int p2), (.int p3)] (.int (0 : Int32)) := (Vf421).keep K425q List.not_mem_nil
    have Ef432 : Exa Z h425 b406 "[I" := (Ef422).keep K425q
    have Vf433 : Arv Z h425 b380 k380 .int (3 : Int32) [(.int p1), (.int p2), (.int (p3 ^^^ (-1 : Int32)))] (.int (0 : Int32)) := (V415).keep K425q List.not_mem_nil
    have pre434 : ∀ t, Steps p.tables e below (T425.setTop (mkF m 161 #[.val (.int p0), .val (.int p1), .val (.int p2), .val (.int p3), .val (.int p4), .val (.int p5), .val (.int (3 : Int32)), .val (.ref b380), .val (.int p3), .val (.int v395), .val (.int v398), .val (.ref b401), .val (.int (1 : Int32)), .unset, .unset] [(.ref b425)])) t → Steps p.tables e below (s₁.setTop (entryFrame m #[(.int p0), (.int p1), (.int p2), (.int p3), (.int p4), (.int p5)] maxLocals)) t := fun t k => pre424 t (st425.trans k)
    have pre435 : ∀ t, Steps p.tables e below (T425.setTop (mkF m 165 #[.val (.int p0), .val (.int p1), .val (.int p2), .val (.int p3), .val (.int p4), .val (.int p5), .val (.int (3 : Int32)), .val (.ref b380), .val (.int p3), .val (.int v395), .val (.int v398), .val (.ref b401), .val (.int (1 : Int32)), .val (.ref b425), .unset] [(.ref b425)])) t → Steps p.tables e below (s₁.setTop (entryFrame m #[(.int p0), (.int p1), (.int p2), (.int p3), (.int p4), (.int p5)] maxLocals)) t := by
      intro t k
      refine pre434 t ?_
      show Steps p.tables e below (T425.setTop (mkF m 161 #[.val (.int p0), .val (.int p1), .val (.int p2), .val (.int p3), .val (.int p4), .val (.int p5), .val (.int (3 : Int32)), .val (.ref b380), .val (.int p3), .val (.int v395), .val (.int v398), .val (.ref b401), .val (.int (1 : Int32)), .unset, .unset] [(.ref b425)])) _
      refine XS.astore X425.here hx rfl (hb hby at_161) rfl rfl (l' := #[.val (.int p0), .val (.int p1), .val (.int p2), .val (.int p3), .val (.int p4), .val (.int p5), .val (.int (3 : Int32)), .val (.ref b380), .val (.int p3), .val (.int v395), .val (.int v398), .val (.ref b401), .val (.int (1 : Int32)), .val (.ref b425), .unset]) rfl ?_
      show Steps p.tables e below (T425.setTop (mkF m 163 #[.val (.int p0), .val (.int p1), .val (.int p2), .val (.int p3), .val (.int p4), .val (.int p5), .val (.int (3 : Int32)), .val (.ref b380), .val (.int p3), .val (.int v395), .val (.int v398), .val (.ref b401), .val (.int (1 : Int32)), .val (.ref b425), .unset] [])) _
      refine XS.aload X425.here hx rfl (hb hby at_163) rfl rfl ?_
      show Steps p.tables e below (T425.setTop (mkF m 165 #[.val (.int p0), .val (.int p1), .val (.int p2), .val (.int p3), .val (.int p4), .val (.int p5), .val (.int (3 : Int32)), .val (.ref b380), .val (.int p3), .val (.int v395), .val (.int v398), .val (.ref b401), .val (.int (1 : Int32)), .val (.ref b425), .unset] [(.ref b425)])) _
      exact k
    obtain ⟨cl436, Ar436, q436, S436, M436, H436, G436⟩ := id Ob425_0
    have pre437 : ∀ t, Steps p.tables e below (T425.setTop (mkF m 183 #[.val (.int p0), .val (.int p1), .val (.int p2), .val (.int p3), .val (.int p4), .val (.int p5), .val (.int (3 : Int32)), .val (.ref b380), .val (.int p3), .val (.int v395), .val (.int v398), .val (.ref b401), .val (.int (1 : Int32)), .val (.ref b425), .unset] [(.int (p3 ^^^ (-1 : Int32))), (.int (2 : Int32)), (.ref b425)])) t → Steps p.tables e below (s₁.setTop (entryFrame m #[(.int p0), (.int p1), (.int p2), (.int p3), (.int p4), (.int p5)] maxLocals)) t := by
      intro t k
      refine pre435 t ?_
      show Steps p.tables e below (T425.setTop (mkF m 165 #[.val (.int p0), .val (.int p1), .val (.int p2), .val (.int p3), .val (.int p4), .val (.int p5), .val (.int (3 : Int32)), .val (.ref b380), .val (.int p3), .val (.int v395), .val (.int v398), .val (.ref b401), .val (.int (1 : Int32)), .val (.ref b425), .unset] [(.ref b425)])) _
      refine X425.arraylength hx (by rw [e425]; exact Ar436.1) (State.isArrayOf_alike hZ.alike Ar436.2.1) (g := (mkF m 165 #[.val (.int p0), .val (.int p1), .val (.int p2), .val (.int p3), .val (.int p4), .val (.int p5), .val (.int (3 : Int32)), .val (.ref b380), .val (.int p3), .val (.int v395), .val (.int v398), .val (.ref b401), .val (.int (1 : Int32)), .val (.ref b425), .unset] [(.ref b425)])) rfl rfl (hb hby at_165) _ ?_
      rw [len_of S436 M436]
      show Steps p.tables e below (T425.setTop (mkF m 166 #[.val (.int p0), .val (.int p1), .val (.int p2), .val (.int p3), .val (.int p4), .val (.int p5), .val (.int (3 : Int32)), .val (.ref b380), .val (.int p3), .val (.int v395), .val (.int v398), .val (.ref b401), .val (.int (1 : Int32)), .val (.ref b425), .unset] [(.int (3 : Int32))])) _
      refine XS.iload X425.here hx rfl (hb hby at_166) rfl ?_
      show Steps p.tables e below (T425.setTop (mkF m 168 #[.val (.int p0), .val (.int p1), .val (.int p2), .val (.int p3), .val (.int p4), .val (.int p5), .val (.int (3 : Int32)), .val (.ref b380), .val (.int p3), .val (.int v395), .val (.int v398), .val (.ref b401), .val (.int (1 : Int32)), .val (.ref b425), .unset] [(.int (3 : Int32)), (.int (3 : Int32))])) _
      show Steps p.tables e below (T425.setTop (mkF m 168 #[.val (.int p0), .val (.int p1), .val (.int p2), .val (.int p3), .val (.int p4), .val (.int p5), .val (.int (3 : Int32)), .val (.ref b380), .val (.int p3), .val (.int v395), .val (.int v398), .val (.ref b401), .val (.int (1 : Int32)), .val (.ref b425), .unset] [(.int (3 : Int32)), (.int (3 : Int32))])) _
      refine XS.icmpYes X425.here hx rfl (pc0 := 168) (pc' := 173) rfl (hb hby at_168) rfl (teq (by decide : (3 : Int32) = (3 : Int32))).1 (by decide) (by decide) ?_
      show Steps p.tables e below (T425.setTop (mkF m 173 #[.val (.int p0), .val (.int p1), .val (.int p2), .val (.int p3), .val (.int p4), .val (.int p5), .val (.int (3 : Int32)), .val (.ref b380), .val (.int p3), .val (.int v395), .val (.int v398), .val (.ref b401), .val (.int (1 : Int32)), .val (.ref b425), .unset] [])) _
      refine XS.aload X425.here hx rfl (hb hby at_173) rfl rfl ?_
      show Steps p.tables e below (T425.setTop (mkF m 175 #[.val (.int p0), .val (.int p1), .val (.int p2), .val (.int p3), .val (.int p4), .val (.int p5), .val (.int (3 : Int32)), .val (.ref b380), .val (.int p3), .val (.int v395), .val (.int v398), .val (.ref b401), .val (.int (1 : Int32)), .val (.ref b425), .unset] [(.ref b425)])) _
      refine XS.iload X425.here hx rfl (hb hby at_175) rfl ?_
      show Steps p.tables e below (T425.setTop (mkF m 177 #[.val (.int p0), .val (.int p1), .val (.int p2), .val (.int p3), .val (.int p4), .val (.int p5), .val (.int (3 : Int32)), .val (.ref b380), .val (.int p3), .val (.int v395), .val (.int v398), .val (.ref b401), .val (.int (1 : Int32)), .val (.ref b425), .unset] [(.int (3 : Int32)), (.ref b425)])) _
      refine XS.iconst X425.here hx rfl (hb hby at_177) ?_
      show Steps p.tables e below (T425.setTop (mkF m 178 #[.val (.int p0), .val (.int p1), .val (.int p2), .val (.int p3), .val (.int p4), .val (.int p5), .val (.int (3 : Int32)), .val (.ref b380), .val (.int p3), .val (.int v395), .val (.int v398), .val (.ref b401), .val (.int (1 : Int32)), .val (.ref b425), .unset] [(.int (1 : Int32)), (.int (3 : Int32)), (.ref b425)])) _
      refine XS.isub X425.here hx rfl (hb hby at_178) rfl ?_
      show Steps p.tables e below (T425.setTop (mkF m 179 #[.val (.int p0), .val (.int p1), .val (.int p2), .val (.int p3), .val (.int p4), .val (.int p5), .val (.int (3 : Int32)), .val (.ref b380), .val (.int p3), .val (.int v395), .val (.int v398), .val (.ref b401), .val (.int (1 : Int32)), .val (.ref b425), .unset] [(.int (2 : Int32)), (.ref b425)])) _
      refine XS.iload X425.here hx rfl (hb hby at_179) rfl ?_
      show Steps p.tables e below (T425.setTop (mkF m 181 #[.val (.int p0), .val (.int p1), .val (.int p2), .val (.int p3), .val (.int p4), .val (.int p5), .val (.int (3 : Int32)), .val (.ref b380), .val (.int p3), .val (.int v395), .val (.int v398), .val (.ref b401), .val (.int (1 : Int32)), .val (.ref b425), .unset] [(.int p3), (.int (2 : Int32)), (.ref b425)])) _
      refine XS.iconst X425.here hx rfl (hb hby at_181) ?_
      show Steps p.tables e below (T425.setTop (mkF m 182 #[.val (.int p0), .val (.int p1), .val (.int p2), .val (.int p3), .val (.int p4), .val (.int p5), .val (.int (3 : Int32)), .val (.ref b380), .val (.int p3), .val (.int v395), .val (.int v398), .val (.ref b401), .val (.int (1 : Int32)), .val (.ref b425), .unset] [(.int (-1 : Int32)), (.int p3), (.int (2 : Int32)), (.ref b425)])) _
      refine XS.ixor X425.here hx rfl (hb hby at_182) rfl ?_
      show Steps p.tables e below (T425.setTop (mkF m 183 #[.val (.int p0), .val (.int p1), .val (.int p2), .val (.int p3), .val (.int p4), .val (.int p5), .val (.int (3 : Int32)), .val (.ref b380), .val (.int p3), .val (.int v395), .val (.int v398), .val (.ref b401), .val (.int (1 : Int32)), .val (.ref b425), .unset] [(.int (p3 ^^^ (-1 : Int32))), (.int (2 : Int32)), (.ref b425)])) _
      exact k
    obtain ⟨cl438, Ar438, q438, S438, M438, H438, G438⟩ := id Ob425_0
    have hin438 : ¬ ((2 : Int32) < 0 ∨ cl438.slots.size ≤ ((2 : Int32)).toNatClampNeg) := inb_of S438 ⟨by decide, by decide⟩
    obtain ⟨T438, h438, X438, e438, W438, st438⟩ := stI X425 hx hZ e425 Ar438 (j := (2 : Int32)) hin438 (g := (mkF m 183 #[.val (.int p0), .val (.int p1), .val (.int p2), .val (.int p3), .val (.int p4), .val (.int p5), .val (.int (3 : Int32)), .val (.ref b380), .val (.int p3), .val (.int v395), .val (.int v398), .val (.ref b401), .val (.int (1 : Int32)), .val (.ref b425), .unset] [(.int (p3 ^^^ (-1 : Int32))), (.int (2 : Int32)), (.ref b425)])) rfl rfl (hb hby at_183)
    have Z438 : n0 ≤ h438.size := Nat.le_trans Z425 (Keep.of_wr W438).1
    have K438 : Keep h0 h438 [] := K425.wr W438 (Or.inr sz_b425)
    have N438 := Fr.snoc X438 N425 g_b425
    have Ef439 : Exa Z h438 b380 "[I" := (Ef426).wr W438
    have Ef440 : Exa Z h438 b401 "com/example/timely_exodus/timelyexodus/plan/Vehicle" := (Ef427).wr W438
    have Ff441 : Fld Z h438 b401 "com/example/timely_exodus/timelyexodus/plan/Vehicle" "number" "I" (.int v395) := (Ff428).other W438 (Or.inl ne_b401_b425)
    have Ff442 : Fld Z h438 b401 "com/example/timely_exodus/timelyexodus/plan/Vehicle" "departurePeriod" "I" (.int v398) := (Ff429).other W438 (Or.inl ne_b401_b425)
    have Ff443 : Fld Z h438 b401 "com/example/timely_exodus/timelyexodus/plan/Vehicle" "route" "[I" (.ref b406) := (Ff430).other W438 (Or.inl ne_b401_b425)
    have Vf444 : Arv Z h438 b406 kb406 .int (3 : Int32) [(.int p1), (.int p2), (.int p3)] (.int (0 : Int32)) := (Vf431).other W438 ne_b406_b425
    have Ef445 : Exa Z h438 b406 "[I" := (Ef432).wr W438
    have Vf446 : Arv Z h438 b380 k380 .int (3 : Int32) [(.int p1), (.int p2), (.int (p3 ^^^ (-1 : Int32)))] (.int (0 : Int32)) := (Vf433).other W438 ne_b380_b425
    have Ef447 : Exa Z h438 b425 "[I" := (Ob425_1).wr W438
    have V438 : Arv Z h438 b425 kb425 .int (3 : Int32) [(.int p1), (.int p2), (.int (p3 ^^^ (-1 : Int32)))] (.int (0 : Int32)) := Arv.set Ar438 q438 S438 M438 H438 G438 rfl W438 2 rfl (Nat.le_of_ble_eq_true rfl)
    have pre448 : ∀ t, Steps p.tables e below (T438.setTop (mkF m 184 #[.val (.int p0), .val (.int p1), .val (.int p2), .val (.int p3), .val (.int p4), .val (.int p5), .val (.int (3 : Int32)), .val (.ref b380), .val (.int p3), .val (.int v395), .val (.int v398), .val (.ref b401), .val (.int (1 : Int32)), .val (.ref b425), .unset] [])) t → Steps p.tables e below (s₁.setTop (entryFrame m #[(.int p0), (.int p1), (.int p2), (.int p3), (.int p4), (.int p5)] maxLocals)) t := fun t k => pre437 t (st438 t k)
    have pre449 : ∀ t, Steps p.tables e below (T438.setTop (mkF m 186 #[.val (.int p0), .val (.int p1), .val (.int p2), .val (.int p3), .val (.int p4), .val (.int p5), .val (.int (3 : Int32)), .val (.ref b380), .val (.int p3), .val (.int v395), .val (.int v398), .val (.ref b401), .val (.int (1 : Int32)), .val (.ref b425), .unset] [(.ref b401)])) t → Steps p.tables e below (s₁.setTop (entryFrame m #[(.int p0), (.int p1), (.int p2), (.int p3), (.int p4), (.int p5)] maxLocals)) t := by
      intro t k
      refine pre448 t ?_
      show Steps p.tables e below (T438.setTop (mkF m 184 #[.val (.int p0), .val (.int p1), .val (.int p2), .val (.int p3), .val (.int p4), .val (.int p5), .val (.int (3 : Int32)), .val (.ref b380), .val (.int p3), .val (.int v395), .val (.int v398), .val (.ref b401), .val (.int (1 : Int32)), .val (.ref b425), .unset] [])) _
      refine XS.aload X438.here hx rfl (hb hby at_184) rfl rfl ?_
      show Steps p.tables e below (T438.setTop (mkF m 186 #[.val (.int p0), .val (.int p1), .val (.int p2), .val (.int p3), .val (.int p4), .val (.int p5), .val (.int (3 : Int32)), .val (.ref b380), .val (.int p3), .val (.int v395), .val (.int v398), .val (.ref b401), .val (.int (1 : Int32)), .val (.ref b425), .unset] [(.ref b401)])) _
      exact k
    obtain ⟨cq450, kq450, q450a, q450b, q450c⟩ := isOf hZ e438 Ef440
    obtain ⟨_, _, ⟨T450, L450, k450, n450⟩, -, X450, ⟨Lc450, hQ450, l450, y450, z450⟩, st450⟩ := X438.virtualBack hx (y := (⟨"com/example/timely_exodus/timelyexodus/plan/Vehicle", "getExitCell", "()I"⟩ : MethodName)) (z := (⟨"com/example/timely_exodus/timelyexodus/plan/Vehicle", "getExitCell", "()I"⟩ : MethodName)) hown (mvT hZ (hw _ (List.mem_of_getElem? (i := 26) rfl))) (mvT hZ (hw _ (List.mem_of_getElem? (i := 27) rfl))) (notFace_of_selects (args := #[]) (mvT hZ (hw _ (List.mem_of_getElem? (i := 29) rfl)))) (mvT hZ (hw _ (List.mem_of_getElem? (i := 29) rfl))) (mvT hZ (hw _ (List.mem_of_getElem? (i := 28) rfl))) (by decide) (backOf (W := 0) (rm3_n3 l Z ar0 hw [] b401 b406 kb406 p1 p2 p3 h438 n0 Z438 Ff443 Vf444) hZ (hw _ (List.mem_of_getElem? (i := 30) rfl)) (hw _ (List.mem_of_getElem? (i := 4) rfl)) (by decide) (by decide)) q450a q450c (g := (mkF m 186 #[.val (.int p0), .val (.int p1), .val (.int p2), .val (.int p3), .val (.int p4), .val (.int p5), .val (.int (3 : Int32)), .val (.ref b380), .val (.int p3), .val (.int v395), .val (.int v398), .val (.ref b401), .val (.int (1 : Int32)), .val (.ref b425), .unset] [(.ref b401)])) rfl (by rw [hml]; rfl) (Steps.refl _) (argsL := []) (rest := []) (lenOf pd_1 rfl) rfl (by show 2 * 0 + _ ≤ _; exact Nat.le_of_eq rfl) (hb hby at_186) (fun _ _ => ⟨rfl, e438, (by decide : 4 + 0 ≤ _), (by decide : 12 + 0 ≤ _)⟩)
    dsimp only [Pt.U, Pt.locs, Pt.cells, Pt.slots] at X450 l450 y450 z450 st450 hQ450
    subst l450 y450 z450
    obtain ⟨rfl, N450q, e450⟩ := hQ450
    have N450 := Fr.app N438 N450q
    have pre451 : ∀ t, Steps p.tables e below (T450.setTop (mkF m 189 #[.val (.int p0), .val (.int p1), .val (.int p2), .val (.int p3), .val (.int p4), .val (.int p5), .val (.int (3 : Int32)), .val (.ref b380), .val (.int p3), .val (.int v395), .val (.int v398), .val (.ref b401), .val (.int (1 : Int32)), .val (.ref b425), .unset] [(.int p3)])) t → Steps p.tables e below (s₁.setTop (entryFrame m #[(.int p0), (.int p1), (.int p2), (.int p3), (.int p4), (.int p5)] maxLocals)) t := fun t k => pre449 t (st450.trans k)
    obtain ⟨fs, hr, hrun, hended, hW, hsame⟩ := X450.leave (v := some (.int (1 : Int32))) (fun h => by rw [Bd.returns] at h; cases h)
    refine ⟨_, _, pre451 _ ?_, hrun, hended, _, _, rfl, ?_, ⟨_, rfl⟩, hW, hsame.mono (by decide) (by decide)⟩
    · show Steps p.tables e below (T450.setTop (mkF m 189 #[.val (.int p0), .val (.int p1), .val (.int p2), .val (.int p3), .val (.int p4), .val (.int p5), .val (.int (3 : Int32)), .val (.ref b380), .val (.int p3), .val (.int v395), .val (.int v398), .val (.ref b401), .val (.int (1 : Int32)), .val (.ref b425), .unset] [(.int p3)])) _
      refine XS.iload X450.here hx rfl (hb hby at_189) rfl ?_
      show Steps p.tables e below (T450.setTop (mkF m 191 #[.val (.int p0), .val (.int p1), .val (.int p2), .val (.int p3), .val (.int p4), .val (.int p5), .val (.int (3 : Int32)), .val (.ref b380), .val (.int p3), .val (.int v395), .val (.int v398), .val (.ref b401), .val (.int (1 : Int32)), .val (.ref b425), .unset] [(.int p3), (.int p3)])) _
      show Steps p.tables e below (T450.setTop (mkF m 191 #[.val (.int p0), .val (.int p1), .val (.int p2), .val (.int p3), .val (.int p4), .val (.int p5), .val (.int (3 : Int32)), .val (.ref b380), .val (.int p3), .val (.int v395), .val (.int v398), .val (.ref b401), .val (.int (1 : Int32)), .val (.ref b425), .unset] [(.int p3), (.int p3)])) _
      refine XS.icmpNo X450.here hx rfl (hb hby at_191) rfl (teq (rfl : p3 = p3)).2 ?_
      show Steps p.tables e below (T450.setTop (mkF m 194 #[.val (.int p0), .val (.int p1), .val (.int p2), .val (.int p3), .val (.int p4), .val (.int p5), .val (.int (3 : Int32)), .val (.ref b380), .val (.int p3), .val (.int v395), .val (.int v398), .val (.ref b401), .val (.int (1 : Int32)), .val (.ref b425), .unset] [])) _
      refine XS.iconst X450.here hx rfl (hb hby at_194) ?_
      show Steps p.tables e below (T450.setTop (mkF m 195 #[.val (.int p0), .val (.int p1), .val (.int p2), .val (.int p3), .val (.int p4), .val (.int p5), .val (.int (3 : Int32)), .val (.ref b380), .val (.int p3), .val (.int v395), .val (.int v398), .val (.ref b401), .val (.int (1 : Int32)), .val (.ref b425), .unset] [(.int (1 : Int32))])) _
      refine XS.goto X450.here hx rfl (pc0 := 195) (pc' := 199) rfl (hb hby at_195) (by decide) (by decide) ?_
      show Steps p.tables e below (T450.setTop (mkF m 199 #[.val (.int p0), .val (.int p1), .val (.int p2), .val (.int p3), .val (.int p4), .val (.int p5), .val (.int (3 : Int32)), .val (.ref b380), .val (.int p3), .val (.int v395), .val (.int v398), .val (.ref b401), .val (.int (1 : Int32)), .val (.ref b425), .unset] [(.int (1 : Int32))])) _
      refine XS.istore X450.here hx rfl (hb hby at_199) rfl (l' := #[.val (.int p0), .val (.int p1), .val (.int p2), .val (.int p3), .val (.int p4), .val (.int p5), .val (.int (3 : Int32)), .val (.ref b380), .val (.int p3), .val (.int v395), .val (.int v398), .val (.ref b401), .val (.int (1 : Int32)), .val (.ref b425), .val (.int (1 : Int32))]) rfl ?_
      show Steps p.tables e below (T450.setTop (mkF m 201 #[.val (.int p0), .val (.int p1), .val (.int p2), .val (.int p3), .val (.int p4), .val (.int p5), .val (.int (3 : Int32)), .val (.ref b380), .val (.int p3), .val (.int v395), .val (.int v398), .val (.ref b401), .val (.int (1 : Int32)), .val (.ref b425), .val (.int (1 : Int32))] [])) _
      refine XS.iload X450.here hx rfl (hb hby at_201) rfl ?_
      show Steps p.tables e below (T450.setTop (mkF m 203 #[.val (.int p0), .val (.int p1), .val (.int p2), .val (.int p3), .val (.int p4), .val (.int p5), .val (.int (3 : Int32)), .val (.ref b380), .val (.int p3), .val (.int v395), .val (.int v398), .val (.ref b401), .val (.int (1 : Int32)), .val (.ref b425), .val (.int (1 : Int32))] [(.int (1 : Int32))])) _
      show Steps p.tables e below (T450.setTop (mkF m 203 #[.val (.int p0), .val (.int p1), .val (.int p2), .val (.int p3), .val (.int p4), .val (.int p5), .val (.int (3 : Int32)), .val (.ref b380), .val (.int p3), .val (.int v395), .val (.int v398), .val (.ref b401), .val (.int (1 : Int32)), .val (.ref b425), .val (.int (1 : Int32))] [(.int (1 : Int32))])) _
      refine XS.ifNo X450.here hx rfl (hb hby at_203) rfl ((if0 _ _).trans (feq (by decide : ¬ (1 : Int32) = (0 : Int32))).1) ?_
      show Steps p.tables e below (T450.setTop (mkF m 206 #[.val (.int p0), .val (.int p1), .val (.int p2), .val (.int p3), .val (.int p4), .val (.int p5), .val (.int (3 : Int32)), .val (.ref b380), .val (.int p3), .val (.int v395), .val (.int v398), .val (.ref b401), .val (.int (1 : Int32)), .val (.ref b425), .val (.int (1 : Int32))] [])) _
      refine XS.iload X450.here hx rfl (hb hby at_206) rfl ?_
      show Steps p.tables e below (T450.setTop (mkF m 208 #[.val (.int p0), .val (.int p1), .val (.int p2), .val (.int p3), .val (.int p4), .val (.int p5), .val (.int (3 : Int32)), .val (.ref b380), .val (.int p3), .val (.int v395), .val (.int v398), .val (.ref b401), .val (.int (1 : Int32)), .val (.ref b425), .val (.int (1 : Int32))] [(.int (1 : Int32))])) _
      show Steps p.tables e below (T450.setTop (mkF m 208 #[.val (.int p0), .val (.int p1), .val (.int p2), .val (.int p3), .val (.int p4), .val (.int p5), .val (.int (3 : Int32)), .val (.ref b380), .val (.int p3), .val (.int v395), .val (.int v398), .val (.ref b401), .val (.int (1 : Int32)), .val (.ref b425), .val (.int (1 : Int32))] [(.int (1 : Int32))])) _
      refine XS.ifNo X450.here hx rfl (hb hby at_208) rfl ((if0 _ _).trans (feq (by decide : ¬ (1 : Int32) = (0 : Int32))).1) ?_
      show Steps p.tables e below (T450.setTop (mkF m 211 #[.val (.int p0), .val (.int p1), .val (.int p2), .val (.int p3), .val (.int p4), .val (.int p5), .val (.int (3 : Int32)), .val (.ref b380), .val (.int p3), .val (.int v395), .val (.int v398), .val (.ref b401), .val (.int (1 : Int32)), .val (.ref b425), .val (.int (1 : Int32))] [])) _
      refine XS.iconst X450.here hx rfl (hb hby at_211) ?_
      show Steps p.tables e below (T450.setTop (mkF m 212 #[.val (.int p0), .val (.int p1), .val (.int p2), .val (.int p3), .val (.int p4), .val (.int p5), .val (.int (3 : Int32)), .val (.ref b380), .val (.int p3), .val (.int v395), .val (.int v398), .val (.ref b401), .val (.int (1 : Int32)), .val (.ref b425), .val (.int (1 : Int32))] [(.int (1 : Int32))])) _
      refine XS.goto X450.here hx rfl (pc0 := 212) (pc' := 216) rfl (hb hby at_212) (by decide) (by decide) ?_
      show Steps p.tables e below (T450.setTop (mkF m 216 #[.val (.int p0), .val (.int p1), .val (.int p2), .val (.int p3), .val (.int p4), .val (.int p5), .val (.int (3 : Int32)), .val (.ref b380), .val (.int p3), .val (.int v395), .val (.int v398), .val (.ref b401), .val (.int (1 : Int32)), .val (.ref b425), .val (.int (1 : Int32))] [(.int (1 : Int32))])) _
      exact retN X450 hx (t := .boolean) Bd.returns (by simp) (hb hby at_216) hr
    · show Q0 Z p0 p1 p2 p3 p4 p5 h0 n0 _ T450.heap _
      rw [e450]
      exact ⟨rfl, N450⟩
  · have pre452 : ∀ t, Steps p.tables e below (s₁.setTop (mkF m 9 #[.val (.int p0), .val (.int p1), .val (.int p2), .val (.int p3), .val (.int p4), .val (.int p5), .val (.int (4 : Int32)), .unset, .unset, .unset, .unset, .unset, .unset, .unset, .unset] [(.int (4 : Int32))])) t → Steps p.tables e below (s₁.setTop (entryFrame m #[(.int p0), (.int p1), (.int p2), (.int p3), (.int p4), (.int p5)] maxLocals)) t := by
      intro t k
      refine pre244 t ?_
      show Steps p.tables e below (s₁.setTop (mkF m 7 #[.val (.int p0), .val (.int p1), .val (.int p2), .val (.int p3), .val (.int p4), .val (.int p5), .val (.int (4 : Int32)), .unset, .unset, .unset, .unset, .unset, .unset, .unset, .unset] [])) _
      refine XS.iload X0.here hx rfl (hb hby at_7) rfl ?_
      show Steps p.tables e below (s₁.setTop (mkF m 9 #[.val (.int p0), .val (.int p1), .val (.int p2), .val (.int p3), .val (.int p4), .val (.int p5), .val (.int (4 : Int32)), .unset, .unset, .unset, .unset, .unset, .unset, .unset, .unset] [(.int (4 : Int32))])) _
      exact k
    obtain ⟨T453, h453, k453, X453, e453, E453, A453, C453, st453⟩ := newPE X0 hx hZ (hw _ (List.mem_of_getElem? (i := 0) rfl)) e0 (g := (mkF m 9 #[.val (.int p0), .val (.int p1), .val (.int p2), .val (.int p3), .val (.int p4), .val (.int p5), .val (.int (4 : Int32)), .unset, .unset, .unset, .unset, .unset, .unset, .unset, .unset] [(.int (4 : Int32))])) rfl (hb hby at_9) rfl (by decide) (cap := 4) (by decide) (by decide) (by decide) (by decide) (ad := "[I") rfl
    obtain ⟨b453, g453⟩ : ∃ z, z = h0.size := ⟨_, rfl⟩
    rw [← g453] at A453 C453 st453
    have g_b453 : n0 ≤ b453 := Nat.le_trans Z0 (Nat.le_of_eq g453.symm)
    have sz_b453 : h0.size ≤ b453 := Nat.le_trans (Keep.refl h0 []).1 (Nat.le_of_eq g453.symm)
    have Z453 : n0 ≤ h453.size := Nat.le_trans Z0 E453.1
    have K453 : Keep h0 h453 [] := (Keep.refl h0 []).ext E453
    have V_b453 : Arv Z h453 b453 k453 .int (4 : Int32) [(.int (0 : Int32)), (.int (0 : Int32)), (.int (0 : Int32)), (.int (0 : Int32))] (.int (0 : Int32)) := (Arv.new A453 (by decide)).pad (pad_rep [] (.int (0 : Int32)) 4)
    have pre454 : ∀ t, Steps p.tables e below (T453.setTop (mkF m 11 #[.val (.int p0), .val (.int p1), .val (.int p2), .val (.int p3), .val (.int p4), .val (.int p5), .val (.int (4 : Int32)), .unset, .unset, .unset, .unset, .unset, .unset, .unset, .unset] [(.ref b453)])) t → Steps p.tables e below (s₁.setTop (entryFrame m #[(.int p0), (.int p1), (.int p2), (.int p3), (.int p4), (.int p5)] maxLocals)) t := fun t k => pre452 t (st453 t k)
    have pre455 : ∀ t, Steps p.tables e below (T453.setTop (mkF m 17 #[.val (.int p0), .val (.int p1), .val (.int p2), .val (.int p3), .val (.int p4), .val (.int p5), .val (.int (4 : Int32)), .val (.ref b453), .unset, .unset, .unset, .unset, .unset, .unset, .unset] [(.int p1), (.int (0 : Int32)), (.ref b453)])) t → Steps p.tables e below (s₁.setTop (entryFrame m #[(.int p0), (.int p1), (.int p2), (.int p3), (.int p4), (.int p5)] maxLocals)) t := by
      intro t k
      refine pre454 t ?_
      show Steps p.tables e below (T453.setTop (mkF m 11 #[.val (.int p0), .val (.int p1), .val (.int p2), .val (.int p3), .val (.int p4), .val (.int p5), .val (.int (4 : Int32)), .unset, .unset, .unset, .unset, .unset, .unset, .unset, .unset] [(.ref b453)])) _
      refine XS.astore X453.here hx rfl (hb hby at_11) rfl rfl (l' := #[.val (.int p0), .val (.int p1), .val (.int p2), .val (.int p3), .val (.int p4), .val (.int p5), .val (.int (4 : Int32)), .val (.ref b453), .unset, .unset, .unset, .unset, .unset, .unset, .unset]) rfl ?_
      show Steps p.tables e below (T453.setTop (mkF m 13 #[.val (.int p0), .val (.int p1), .val (.int p2), .val (.int p3), .val (.int p4), .val (.int p5), .val (.int (4 : Int32)), .val (.ref b453), .unset, .unset, .unset, .unset, .unset, .unset, .unset] [])) _
      refine XS.aload X453.here hx rfl (hb hby at_13) rfl rfl ?_
      show Steps p.tables e below (T453.setTop (mkF m 15 #[.val (.int p0), .val (.int p1), .val (.int p2), .val (.int p3), .val (.int p4), .val (.int p5), .val (.int (4 : Int32)), .val (.ref b453), .unset, .unset, .unset, .unset, .unset, .unset, .unset] [(.ref b453)])) _
      refine XS.iconst X453.here hx rfl (hb hby at_15) ?_
      show Steps p.tables e below (T453.setTop (mkF m 16 #[.val (.int p0), .val (.int p1), .val (.int p2), .val (.int p3), .val (.int p4), .val (.int p5), .val (.int (4 : Int32)), .val (.ref b453), .unset, .unset, .unset, .unset, .unset, .unset, .unset] [(.int (0 : Int32)), (.ref b453)])) _
      refine XS.iloadN X453.here hx rfl (hb hby at_16) rfl ?_
      show Steps p.tables e below (T453.setTop (mkF m 17 #[.val (.int p0), .val (.int p1), .val (.int p2), .val (.int p3), .val (.int p4), .val (.int p5), .val (.int (4 : Int32)), .val (.ref b453), .unset, .unset, .unset, .unset, .unset, .unset, .unset] [(.int p1), (.int (0 : Int32)), (.ref b453)])) _
      exact k
    obtain ⟨cl456, Ar456, q456, S456, M456, H456, G456⟩ := id V_b453
    have hin456 : ¬ ((0 : Int32) < 0 ∨ cl456.slots.size ≤ ((0 : Int32)).toNatClampNeg) := inb_of S456 ⟨by decide, by decide⟩
    obtain ⟨T456, h456, X456, e456, W456, st456⟩ := stI X453 hx hZ e453 Ar456 (j := (0 : Int32)) hin456 (g := (mkF m 17 #[.val (.int p0), .val (.int p1), .val (.int p2), .val (.int p3), .val (.int p4), .val (.int p5), .val (.int (4 : Int32)), .val (.ref b453), .unset, .unset, .unset, .unset, .unset, .unset, .unset] [(.int p1), (.int (0 : Int32)), (.ref b453)])) rfl rfl (hb hby at_17)
    have Z456 : n0 ≤ h456.size := Nat.le_trans Z453 (Keep.of_wr W456).1
    have K456 : Keep h0 h456 [] := K453.wr W456 (Or.inr sz_b453)
    have N456 := Fr.snoc X456 N0 g_b453
    have Ef457 : Exa Z h456 b453 "[I" := (C453).wr W456
    have V456 : Arv Z h456 b453 k453 .int (4 : Int32) [(.int p1), (.int (0 : Int32)), (.int (0 : Int32)), (.int (0 : Int32))] (.int (0 : Int32)) := Arv.set Ar456 q456 S456 M456 H456 G456 rfl W456 0 rfl (Nat.le_of_ble_eq_true rfl)
    have pre458 : ∀ t, Steps p.tables e below (T456.setTop (mkF m 18 #[.val (.int p0), .val (.int p1), .val (.int p2), .val (.int p3), .val (.int p4), .val (.int p5), .val (.int (4 : Int32)), .val (.ref b453), .unset, .unset, .unset, .unset, .unset, .unset, .unset] [])) t → Steps p.tables e below (s₁.setTop (entryFrame m #[(.int p0), (.int p1), (.int p2), (.int p3), (.int p4), (.int p5)] maxLocals)) t := fun t k => pre455 t (st456 t k)
    have pre459 : ∀ t, Steps p.tables e below (T456.setTop (mkF m 28 #[.val (.int p0), .val (.int p1), .val (.int p2), .val (.int p3), .val (.int p4), .val (.int p5), .val (.int (4 : Int32)), .val (.ref b453), .unset, .unset, .unset, .unset, .unset, .unset, .unset] [(.int p2), (.int (1 : Int32)), (.ref b453)])) t → Steps p.tables e below (s₁.setTop (entryFrame m #[(.int p0), (.int p1), (.int p2), (.int p3), (.int p4), (.int p5)] maxLocals)) t := by
      intro t k
      refine pre458 t ?_
      show Steps p.tables e below (T456.setTop (mkF m 18 #[.val (.int p0), .val (.int p1), .val (.int p2), .val (.int p3), .val (.int p4), .val (.int p5), .val (.int (4 : Int32)), .val (.ref b453), .unset, .unset, .unset, .unset, .unset, .unset, .unset] [])) _
      refine XS.iload X456.here hx rfl (hb hby at_18) rfl ?_
      show Steps p.tables e below (T456.setTop (mkF m 20 #[.val (.int p0), .val (.int p1), .val (.int p2), .val (.int p3), .val (.int p4), .val (.int p5), .val (.int (4 : Int32)), .val (.ref b453), .unset, .unset, .unset, .unset, .unset, .unset, .unset] [(.int (4 : Int32))])) _
      refine XS.iconst X456.here hx rfl (hb hby at_20) ?_
      show Steps p.tables e below (T456.setTop (mkF m 21 #[.val (.int p0), .val (.int p1), .val (.int p2), .val (.int p3), .val (.int p4), .val (.int p5), .val (.int (4 : Int32)), .val (.ref b453), .unset, .unset, .unset, .unset, .unset, .unset, .unset] [(.int (1 : Int32)), (.int (4 : Int32))])) _
      show Steps p.tables e below (T456.setTop (mkF m 21 #[.val (.int p0), .val (.int p1), .val (.int p2), .val (.int p3), .val (.int p4), .val (.int p5), .val (.int (4 : Int32)), .val (.ref b453), .unset, .unset, .unset, .unset, .unset, .unset, .unset] [(.int (1 : Int32)), (.int (4 : Int32))])) _
      refine XS.icmpNo X456.here hx rfl (hb hby at_21) rfl (tlt (by decide : (1 : Int32) < (4 : Int32))).2.2.2 ?_
      show Steps p.tables e below (T456.setTop (mkF m 24 #[.val (.int p0), .val (.int p1), .val (.int p2), .val (.int p3), .val (.int p4), .val (.int p5), .val (.int (4 : Int32)), .val (.ref b453), .unset, .unset, .unset, .unset, .unset, .unset, .unset] [])) _
      refine XS.aload X456.here hx rfl (hb hby at_24) rfl rfl ?_
      show Steps p.tables e below (T456.setTop (mkF m 26 #[.val (.int p0), .val (.int p1), .val (.int p2), .val (.int p3), .val (.int p4), .val (.int p5), .val (.int (4 : Int32)), .val (.ref b453), .unset, .unset, .unset, .unset, .unset, .unset, .unset] [(.ref b453)])) _
      refine XS.iconst X456.here hx rfl (hb hby at_26) ?_
      show Steps p.tables e below (T456.setTop (mkF m 27 #[.val (.int p0), .val (.int p1), .val (.int p2), .val (.int p3), .val (.int p4), .val (.int p5), .val (.int (4 : Int32)), .val (.ref b453), .unset, .unset, .unset, .unset, .unset, .unset, .unset] [(.int (1 : Int32)), (.ref b453)])) _
      refine XS.iloadN X456.here hx rfl (hb hby at_27) rfl ?_
      show Steps p.tables e below (T456.setTop (mkF m 28 #[.val (.int p0), .val (.int p1), .val (.int p2), .val (.int p3), .val (.int p4), .val (.int p5), .val (.int (4 : Int32)), .val (.ref b453), .unset, .unset, .unset, .unset, .unset, .unset, .unset] [(.int p2), (.int (1 : Int32)), (.ref b453)])) _
      exact k
    obtain ⟨cl460, Ar460, q460, S460, M460, H460, G460⟩ := id V456
    have hin460 : ¬ ((1 : Int32) < 0 ∨ cl460.slots.size ≤ ((1 : Int32)).toNatClampNeg) := inb_of S460 ⟨by decide, by decide⟩
    obtain ⟨T460, h460, X460, e460, W460, st460⟩ := stI X456 hx hZ e456 Ar460 (j := (1 : Int32)) hin460 (g := (mkF m 28 #[.val (.int p0), .val (.int p1), .val (.int p2), .val (.int p3), .val (.int p4), .val (.int p5), .val (.int (4 : Int32)), .val (.ref b453), .unset, .unset, .unset, .unset, .unset, .unset, .unset] [(.int p2), (.int (1 : Int32)), (.ref b453)])) rfl rfl (hb hby at_28)
    have Z460 : n0 ≤ h460.size := Nat.le_trans Z456 (Keep.of_wr W460).1
    have K460 : Keep h0 h460 [] := K456.wr W460 (Or.inr sz_b453)
    have N460 := Fr.snoc X460 N456 g_b453
    have Ef461 : Exa Z h460 b453 "[I" := (Ef457).wr W460
    have V460 : Arv Z h460 b453 k453 .int (4 : Int32) [(.int p1), (.int p2), (.int (0 : Int32)), (.int (0 : Int32))] (.int (0 : Int32)) := Arv.set Ar460 q460 S460 M460 H460 G460 rfl W460 1 rfl (Nat.le_of_ble_eq_true rfl)
    have pre462 : ∀ t, Steps p.tables e below (T460.setTop (mkF m 29 #[.val (.int p0), .val (.int p1), .val (.int p2), .val (.int p3), .val (.int p4), .val (.int p5), .val (.int (4 : Int32)), .val (.ref b453), .unset, .unset, .unset, .unset, .unset, .unset, .unset] [])) t → Steps p.tables e below (s₁.setTop (entryFrame m #[(.int p0), (.int p1), (.int p2), (.int p3), (.int p4), (.int p5)] maxLocals)) t := fun t k => pre459 t (st460 t k)
    have pre463 : ∀ t, Steps p.tables e below (T460.setTop (mkF m 39 #[.val (.int p0), .val (.int p1), .val (.int p2), .val (.int p3), .val (.int p4), .val (.int p5), .val (.int (4 : Int32)), .val (.ref b453), .unset, .unset, .unset, .unset, .unset, .unset, .unset] [(.int p3), (.int (2 : Int32)), (.ref b453)])) t → Steps p.tables e below (s₁.setTop (entryFrame m #[(.int p0), (.int p1), (.int p2), (.int p3), (.int p4), (.int p5)] maxLocals)) t := by
      intro t k
      refine pre462 t ?_
      show Steps p.tables e below (T460.setTop (mkF m 29 #[.val (.int p0), .val (.int p1), .val (.int p2), .val (.int p3), .val (.int p4), .val (.int p5), .val (.int (4 : Int32)), .val (.ref b453), .unset, .unset, .unset, .unset, .unset, .unset, .unset] [])) _
      refine XS.iload X460.here hx rfl (hb hby at_29) rfl ?_
      show Steps p.tables e below (T460.setTop (mkF m 31 #[.val (.int p0), .val (.int p1), .val (.int p2), .val (.int p3), .val (.int p4), .val (.int p5), .val (.int (4 : Int32)), .val (.ref b453), .unset, .unset, .unset, .unset, .unset, .unset, .unset] [(.int (4 : Int32))])) _
      refine XS.iconst X460.here hx rfl (hb hby at_31) ?_
      show Steps p.tables e below (T460.setTop (mkF m 32 #[.val (.int p0), .val (.int p1), .val (.int p2), .val (.int p3), .val (.int p4), .val (.int p5), .val (.int (4 : Int32)), .val (.ref b453), .unset, .unset, .unset, .unset, .unset, .unset, .unset] [(.int (2 : Int32)), (.int (4 : Int32))])) _
      show Steps p.tables e below (T460.setTop (mkF m 32 #[.val (.int p0), .val (.int p1), .val (.int p2), .val (.int p3), .val (.int p4), .val (.int p5), .val (.int (4 : Int32)), .val (.ref b453), .unset, .unset, .unset, .unset, .unset, .unset, .unset] [(.int (2 : Int32)), (.int (4 : Int32))])) _
      refine XS.icmpNo X460.here hx rfl (hb hby at_32) rfl (tlt (by decide : (2 : Int32) < (4 : Int32))).2.2.2 ?_
      show Steps p.tables e below (T460.setTop (mkF m 35 #[.val (.int p0), .val (.int p1), .val (.int p2), .val (.int p3), .val (.int p4), .val (.int p5), .val (.int (4 : Int32)), .val (.ref b453), .unset, .unset, .unset, .unset, .unset, .unset, .unset] [])) _
      refine XS.aload X460.here hx rfl (hb hby at_35) rfl rfl ?_
      show Steps p.tables e below (T460.setTop (mkF m 37 #[.val (.int p0), .val (.int p1), .val (.int p2), .val (.int p3), .val (.int p4), .val (.int p5), .val (.int (4 : Int32)), .val (.ref b453), .unset, .unset, .unset, .unset, .unset, .unset, .unset] [(.ref b453)])) _
      refine XS.iconst X460.here hx rfl (hb hby at_37) ?_
      show Steps p.tables e below (T460.setTop (mkF m 38 #[.val (.int p0), .val (.int p1), .val (.int p2), .val (.int p3), .val (.int p4), .val (.int p5), .val (.int (4 : Int32)), .val (.ref b453), .unset, .unset, .unset, .unset, .unset, .unset, .unset] [(.int (2 : Int32)), (.ref b453)])) _
      refine XS.iloadN X460.here hx rfl (hb hby at_38) rfl ?_
      show Steps p.tables e below (T460.setTop (mkF m 39 #[.val (.int p0), .val (.int p1), .val (.int p2), .val (.int p3), .val (.int p4), .val (.int p5), .val (.int (4 : Int32)), .val (.ref b453), .unset, .unset, .unset, .unset, .unset, .unset, .unset] [(.int p3), (.int (2 : Int32)), (.ref b453)])) _
      exact k
    obtain ⟨cl464, Ar464, q464, S464, M464, H464, G464⟩ := id V460
    have hin464 : ¬ ((2 : Int32) < 0 ∨ cl464.slots.size ≤ ((2 : Int32)).toNatClampNeg) := inb_of S464 ⟨by decide, by decide⟩
    obtain ⟨T464, h464, X464, e464, W464, st464⟩ := stI X460 hx hZ e460 Ar464 (j := (2 : Int32)) hin464 (g := (mkF m 39 #[.val (.int p0), .val (.int p1), .val (.int p2), .val (.int p3), .val (.int p4), .val (.int p5), .val (.int (4 : Int32)), .val (.ref b453), .unset, .unset, .unset, .unset, .unset, .unset, .unset] [(.int p3), (.int (2 : Int32)), (.ref b453)])) rfl rfl (hb hby at_39)
    have Z464 : n0 ≤ h464.size := Nat.le_trans Z460 (Keep.of_wr W464).1
    have K464 : Keep h0 h464 [] := K460.wr W464 (Or.inr sz_b453)
    have N464 := Fr.snoc X464 N460 g_b453
    have Ef465 : Exa Z h464 b453 "[I" := (Ef461).wr W464
    have V464 : Arv Z h464 b453 k453 .int (4 : Int32) [(.int p1), (.int p2), (.int p3), (.int (0 : Int32))] (.int (0 : Int32)) := Arv.set Ar464 q464 S464 M464 H464 G464 rfl W464 2 rfl (Nat.le_of_ble_eq_true rfl)
    have pre466 : ∀ t, Steps p.tables e below (T464.setTop (mkF m 40 #[.val (.int p0), .val (.int p1), .val (.int p2), .val (.int p3), .val (.int p4), .val (.int p5), .val (.int (4 : Int32)), .val (.ref b453), .unset, .unset, .unset, .unset, .unset, .unset, .unset] [])) t → Steps p.tables e below (s₁.setTop (entryFrame m #[(.int p0), (.int p1), (.int p2), (.int p3), (.int p4), (.int p5)] maxLocals)) t := fun t k => pre463 t (st464 t k)
    have pre467 : ∀ t, Steps p.tables e below (T464.setTop (mkF m 51 #[.val (.int p0), .val (.int p1), .val (.int p2), .val (.int p3), .val (.int p4), .val (.int p5), .val (.int (4 : Int32)), .val (.ref b453), .unset, .unset, .unset, .unset, .unset, .unset, .unset] [(.int p4), (.int (3 : Int32)), (.ref b453)])) t → Steps p.tables e below (s₁.setTop (entryFrame m #[(.int p0), (.int p1), (.int p2), (.int p3), (.int p4), (.int p5)] maxLocals)) t := by
      intro t k
      refine pre466 t ?_
      show Steps p.tables e below (T464.setTop (mkF m 40 #[.val (.int p0), .val (.int p1), .val (.int p2), .val (.int p3), .val (.int p4), .val (.int p5), .val (.int (4 : Int32)), .val (.ref b453), .unset, .unset, .unset, .unset, .unset, .unset, .unset] [])) _
      refine XS.iload X464.here hx rfl (hb hby at_40) rfl ?_
      show Steps p.tables e below (T464.setTop (mkF m 42 #[.val (.int p0), .val (.int p1), .val (.int p2), .val (.int p3), .val (.int p4), .val (.int p5), .val (.int (4 : Int32)), .val (.ref b453), .unset, .unset, .unset, .unset, .unset, .unset, .unset] [(.int (4 : Int32))])) _
      refine XS.iconst X464.here hx rfl (hb hby at_42) ?_
      show Steps p.tables e below (T464.setTop (mkF m 43 #[.val (.int p0), .val (.int p1), .val (.int p2), .val (.int p3), .val (.int p4), .val (.int p5), .val (.int (4 : Int32)), .val (.ref b453), .unset, .unset, .unset, .unset, .unset, .unset, .unset] [(.int (3 : Int32)), (.int (4 : Int32))])) _
      show Steps p.tables e below (T464.setTop (mkF m 43 #[.val (.int p0), .val (.int p1), .val (.int p2), .val (.int p3), .val (.int p4), .val (.int p5), .val (.int (4 : Int32)), .val (.ref b453), .unset, .unset, .unset, .unset, .unset, .unset, .unset] [(.int (3 : Int32)), (.int (4 : Int32))])) _
      refine XS.icmpNo X464.here hx rfl (hb hby at_43) rfl (tlt (by decide : (3 : Int32) < (4 : Int32))).2.2.2 ?_
      show Steps p.tables e below (T464.setTop (mkF m 46 #[.val (.int p0), .val (.int p1), .val (.int p2), .val (.int p3), .val (.int p4), .val (.int p5), .val (.int (4 : Int32)), .val (.ref b453), .unset, .unset, .unset, .unset, .unset, .unset, .unset] [])) _
      refine XS.aload X464.here hx rfl (hb hby at_46) rfl rfl ?_
      show Steps p.tables e below (T464.setTop (mkF m 48 #[.val (.int p0), .val (.int p1), .val (.int p2), .val (.int p3), .val (.int p4), .val (.int p5), .val (.int (4 : Int32)), .val (.ref b453), .unset, .unset, .unset, .unset, .unset, .unset, .unset] [(.ref b453)])) _
      refine XS.iconst X464.here hx rfl (hb hby at_48) ?_
      show Steps p.tables e below (T464.setTop (mkF m 49 #[.val (.int p0), .val (.int p1), .val (.int p2), .val (.int p3), .val (.int p4), .val (.int p5), .val (.int (4 : Int32)), .val (.ref b453), .unset, .unset, .unset, .unset, .unset, .unset, .unset] [(.int (3 : Int32)), (.ref b453)])) _
      refine XS.iload X464.here hx rfl (hb hby at_49) rfl ?_
      show Steps p.tables e below (T464.setTop (mkF m 51 #[.val (.int p0), .val (.int p1), .val (.int p2), .val (.int p3), .val (.int p4), .val (.int p5), .val (.int (4 : Int32)), .val (.ref b453), .unset, .unset, .unset, .unset, .unset, .unset, .unset] [(.int p4), (.int (3 : Int32)), (.ref b453)])) _
      exact k
    obtain ⟨cl468, Ar468, q468, S468, M468, H468, G468⟩ := id V464
    have hin468 : ¬ ((3 : Int32) < 0 ∨ cl468.slots.size ≤ ((3 : Int32)).toNatClampNeg) := inb_of S468 ⟨by decide, by decide⟩
    obtain ⟨T468, h468, X468, e468, W468, st468⟩ := stI X464 hx hZ e464 Ar468 (j := (3 : Int32)) hin468 (g := (mkF m 51 #[.val (.int p0), .val (.int p1), .val (.int p2), .val (.int p3), .val (.int p4), .val (.int p5), .val (.int (4 : Int32)), .val (.ref b453), .unset, .unset, .unset, .unset, .unset, .unset, .unset] [(.int p4), (.int (3 : Int32)), (.ref b453)])) rfl rfl (hb hby at_51)
    have Z468 : n0 ≤ h468.size := Nat.le_trans Z464 (Keep.of_wr W468).1
    have K468 : Keep h0 h468 [] := K464.wr W468 (Or.inr sz_b453)
    have N468 := Fr.snoc X468 N464 g_b453
    have Ef469 : Exa Z h468 b453 "[I" := (Ef465).wr W468
    have V468 : Arv Z h468 b453 k453 .int (4 : Int32) [(.int p1), (.int p2), (.int p3), (.int p4)] (.int (0 : Int32)) := Arv.set Ar468 q468 S468 M468 H468 G468 rfl W468 3 rfl (Nat.le_of_ble_eq_true rfl)
    have pre470 : ∀ t, Steps p.tables e below (T468.setTop (mkF m 52 #[.val (.int p0), .val (.int p1), .val (.int p2), .val (.int p3), .val (.int p4), .val (.int p5), .val (.int (4 : Int32)), .val (.ref b453), .unset, .unset, .unset, .unset, .unset, .unset, .unset] [])) t → Steps p.tables e below (s₁.setTop (entryFrame m #[(.int p0), (.int p1), (.int p2), (.int p3), (.int p4), (.int p5)] maxLocals)) t := fun t k => pre467 t (st468 t k)
    have pre471 : ∀ t, Steps p.tables e below (T468.setTop (mkF m 99 #[.val (.int p0), .val (.int p1), .val (.int p2), .val (.int p3), .val (.int p4), .val (.int p5), .val (.int (4 : Int32)), .val (.ref b453), .val (.int p4), .unset, .unset, .unset, .unset, .unset, .unset] [(.int ((p5 &&& (65535 : Int32)) + (1 : Int32)))])) t → Steps p.tables e below (s₁.setTop (entryFrame m #[(.int p0), (.int p1), (.int p2), (.int p3), (.int p4), (.int p5)] maxLocals)) t := by
      intro t k
      refine pre470 t ?_
      show Steps p.tables e below (T468.setTop (mkF m 52 #[.val (.int p0), .val (.int p1), .val (.int p2), .val (.int p3), .val (.int p4), .val (.int p5), .val (.int (4 : Int32)), .val (.ref b453), .unset, .unset, .unset, .unset, .unset, .unset, .unset] [])) _
      refine XS.iload X468.here hx rfl (hb hby at_52) rfl ?_
      show Steps p.tables e below (T468.setTop (mkF m 54 #[.val (.int p0), .val (.int p1), .val (.int p2), .val (.int p3), .val (.int p4), .val (.int p5), .val (.int (4 : Int32)), .val (.ref b453), .unset, .unset, .unset, .unset, .unset, .unset, .unset] [(.int (4 : Int32))])) _
      refine XS.iconst X468.here hx rfl (hb hby at_54) ?_
      show Steps p.tables e below (T468.setTop (mkF m 55 #[.val (.int p0), .val (.int p1), .val (.int p2), .val (.int p3), .val (.int p4), .val (.int p5), .val (.int (4 : Int32)), .val (.ref b453), .unset, .unset, .unset, .unset, .unset, .unset, .unset] [(.int (1 : Int32)), (.int (4 : Int32))])) _
      show Steps p.tables e below (T468.setTop (mkF m 55 #[.val (.int p0), .val (.int p1), .val (.int p2), .val (.int p3), .val (.int p4), .val (.int p5), .val (.int (4 : Int32)), .val (.ref b453), .unset, .unset, .unset, .unset, .unset, .unset, .unset] [(.int (1 : Int32)), (.int (4 : Int32))])) _
      refine XS.icmpYes X468.here hx rfl (pc0 := 55) (pc' := 64) rfl (hb hby at_55) rfl (feq (by decide : ¬ (4 : Int32) = (1 : Int32))).2 (by decide) (by decide) ?_
      show Steps p.tables e below (T468.setTop (mkF m 64 #[.val (.int p0), .val (.int p1), .val (.int p2), .val (.int p3), .val (.int p4), .val (.int p5), .val (.int (4 : Int32)), .val (.ref b453), .unset, .unset, .unset, .unset, .unset, .unset, .unset] [])) _
      refine XS.iload X468.here hx rfl (hb hby at_64) rfl ?_
      show Steps p.tables e below (T468.setTop (mkF m 66 #[.val (.int p0), .val (.int p1), .val (.int p2), .val (.int p3), .val (.int p4), .val (.int p5), .val (.int (4 : Int32)), .val (.ref b453), .unset, .unset, .unset, .unset, .unset, .unset, .unset] [(.int (4 : Int32))])) _
      refine XS.iconst X468.here hx rfl (hb hby at_66) ?_
      show Steps p.tables e below (T468.setTop (mkF m 67 #[.val (.int p0), .val (.int p1), .val (.int p2), .val (.int p3), .val (.int p4), .val (.int p5), .val (.int (4 : Int32)), .val (.ref b453), .unset, .unset, .unset, .unset, .unset, .unset, .unset] [(.int (2 : Int32)), (.int (4 : Int32))])) _
      show Steps p.tables e below (T468.setTop (mkF m 67 #[.val (.int p0), .val (.int p1), .val (.int p2), .val (.int p3), .val (.int p4), .val (.int p5), .val (.int (4 : Int32)), .val (.ref b453), .unset, .unset, .unset, .unset, .unset, .unset, .unset] [(.int (2 : Int32)), (.int (4 : Int32))])) _
      refine XS.icmpYes X468.here hx rfl (pc0 := 67) (pc' := 76) rfl (hb hby at_67) rfl (feq (by decide : ¬ (4 : Int32) = (2 : Int32))).2 (by decide) (by decide) ?_
      show Steps p.tables e below (T468.setTop (mkF m 76 #[.val (.int p0), .val (.int p1), .val (.int p2), .val (.int p3), .val (.int p4), .val (.int p5), .val (.int (4 : Int32)), .val (.ref b453), .unset, .unset, .unset, .unset, .unset, .unset, .unset] [])) _
      refine XS.iload X468.here hx rfl (hb hby at_76) rfl ?_
      show Steps p.tables e below (T468.setTop (mkF m 78 #[.val (.int p0), .val (.int p1), .val (.int p2), .val (.int p3), .val (.int p4), .val (.int p5), .val (.int (4 : Int32)), .val (.ref b453), .unset, .unset, .unset, .unset, .unset, .unset, .unset] [(.int (4 : Int32))])) _
      refine XS.iconst X468.here hx rfl (hb hby at_78) ?_
      show Steps p.tables e below (T468.setTop (mkF m 79 #[.val (.int p0), .val (.int p1), .val (.int p2), .val (.int p3), .val (.int p4), .val (.int p5), .val (.int (4 : Int32)), .val (.ref b453), .unset, .unset, .unset, .unset, .unset, .unset, .unset] [(.int (3 : Int32)), (.int (4 : Int32))])) _
      show Steps p.tables e below (T468.setTop (mkF m 79 #[.val (.int p0), .val (.int p1), .val (.int p2), .val (.int p3), .val (.int p4), .val (.int p5), .val (.int (4 : Int32)), .val (.ref b453), .unset, .unset, .unset, .unset, .unset, .unset, .unset] [(.int (3 : Int32)), (.int (4 : Int32))])) _
      refine XS.icmpYes X468.here hx rfl (pc0 := 79) (pc' := 88) rfl (hb hby at_79) rfl (feq (by decide : ¬ (4 : Int32) = (3 : Int32))).2 (by decide) (by decide) ?_
      show Steps p.tables e below (T468.setTop (mkF m 88 #[.val (.int p0), .val (.int p1), .val (.int p2), .val (.int p3), .val (.int p4), .val (.int p5), .val (.int (4 : Int32)), .val (.ref b453), .unset, .unset, .unset, .unset, .unset, .unset, .unset] [])) _
      refine XS.iload X468.here hx rfl (hb hby at_88) rfl ?_
      show Steps p.tables e below (T468.setTop (mkF m 90 #[.val (.int p0), .val (.int p1), .val (.int p2), .val (.int p3), .val (.int p4), .val (.int p5), .val (.int (4 : Int32)), .val (.ref b453), .unset, .unset, .unset, .unset, .unset, .unset, .unset] [(.int p4)])) _
      refine XS.istore X468.here hx rfl (hb hby at_90) rfl (l' := #[.val (.int p0), .val (.int p1), .val (.int p2), .val (.int p3), .val (.int p4), .val (.int p5), .val (.int (4 : Int32)), .val (.ref b453), .val (.int p4), .unset, .unset, .unset, .unset, .unset, .unset]) rfl ?_
      show Steps p.tables e below (T468.setTop (mkF m 92 #[.val (.int p0), .val (.int p1), .val (.int p2), .val (.int p3), .val (.int p4), .val (.int p5), .val (.int (4 : Int32)), .val (.ref b453), .val (.int p4), .unset, .unset, .unset, .unset, .unset, .unset] [])) _
      refine XS.iload X468.here hx rfl (hb hby at_92) rfl ?_
      show Steps p.tables e below (T468.setTop (mkF m 94 #[.val (.int p0), .val (.int p1), .val (.int p2), .val (.int p3), .val (.int p4), .val (.int p5), .val (.int (4 : Int32)), .val (.ref b453), .val (.int p4), .unset, .unset, .unset, .unset, .unset, .unset] [(.int p5)])) _
      refine X468.ldcInt hx hown (mvT hZ (hw _ (List.mem_of_getElem? (i := 1) rfl))) (g := (mkF m 94 #[.val (.int p0), .val (.int p1), .val (.int p2), .val (.int p3), .val (.int p4), .val (.int p5), .val (.int (4 : Int32)), .val (.ref b453), .val (.int p4), .unset, .unset, .unset, .unset, .unset, .unset] [(.int p5)])) rfl (hb hby at_94) _ ?_
      show Steps p.tables e below (T468.setTop (mkF m 96 #[.val (.int p0), .val (.int p1), .val (.int p2), .val (.int p3), .val (.int p4), .val (.int p5), .val (.int (4 : Int32)), .val (.ref b453), .val (.int p4), .unset, .unset, .unset, .unset, .unset, .unset] [(.int (65535 : Int32)), (.int p5)])) _
      refine XS.iand X468.here hx rfl (hb hby at_96) rfl ?_
      show Steps p.tables e below (T468.setTop (mkF m 97 #[.val (.int p0), .val (.int p1), .val (.int p2), .val (.int p3), .val (.int p4), .val (.int p5), .val (.int (4 : Int32)), .val (.ref b453), .val (.int p4), .unset, .unset, .unset, .unset, .unset, .unset] [(.int (p5 &&& (65535 : Int32)))])) _
      refine XS.iconst X468.here hx rfl (hb hby at_97) ?_
      show Steps p.tables e below (T468.setTop (mkF m 98 #[.val (.int p0), .val (.int p1), .val (.int p2), .val (.int p3), .val (.int p4), .val (.int p5), .val (.int (4 : Int32)), .val (.ref b453), .val (.int p4), .unset, .unset, .unset, .unset, .unset, .unset] [(.int (1 : Int32)), (.int (p5 &&& (65535 : Int32)))])) _
      refine XS.iadd X468.here hx rfl (hb hby at_98) rfl ?_
      show Steps p.tables e below (T468.setTop (mkF m 99 #[.val (.int p0), .val (.int p1), .val (.int p2), .val (.int p3), .val (.int p4), .val (.int p5), .val (.int (4 : Int32)), .val (.ref b453), .val (.int p4), .unset, .unset, .unset, .unset, .unset, .unset] [(.int ((p5 &&& (65535 : Int32)) + (1 : Int32)))])) _
      exact k
    obtain ⟨v472, hv472⟩ : ∃ z : Int32, z = ((p5 &&& (65535 : Int32)) + (1 : Int32)) := ⟨_, rfl⟩
    have pre473 : ∀ t, Steps p.tables e below (T468.setTop (mkF m 99 #[.val (.int p0), .val (.int p1), .val (.int p2), .val (.int p3), .val (.int p4), .val (.int p5), .val (.int (4 : Int32)), .val (.ref b453), .val (.int p4), .unset, .unset, .unset, .unset, .unset, .unset] [(.int v472)])) t → Steps p.tables e below (s₁.setTop (entryFrame m #[(.int p0), (.int p1), (.int p2), (.int p3), (.int p4), (.int p5)] maxLocals)) t := by rw [hv472]; exact pre471
    have pre474 : ∀ t, Steps p.tables e below (T468.setTop (mkF m 111 #[.val (.int p0), .val (.int p1), .val (.int p2), .val (.int p3), .val (.int p4), .val (.int p5), .val (.int (4 : Int32)), .val (.ref b453), .val (.int p4), .val (.int v472), .unset, .unset, .unset, .unset, .unset] [(.int ((((p5.toUInt32 >>> ((16 : Int32) &&& 31).toUInt32).toInt32) &&& (65535 : Int32)) + (1 : Int32)))])) t → Steps p.tables e below (s₁.setTop (entryFrame m #[(.int p0), (.int p1), (.int p2), (.int p3), (.int p4), (.int p5)] maxLocals)) t := by
      intro t k
      refine pre473 t ?_
      show Steps p.tables e below (T468.setTop (mkF m 99 #[.val (.int p0), .val (.int p1), .val (.int p2), .val (.int p3), .val (.int p4), .val (.int p5), .val (.int (4 : Int32)), .val (.ref b453), .val (.int p4), .unset, .unset, .unset, .unset, .unset, .unset] [(.int v472)])) _
      refine XS.istore X468.here hx rfl (hb hby at_99) rfl (l' := #[.val (.int p0), .val (.int p1), .val (.int p2), .val (.int p3), .val (.int p4), .val (.int p5), .val (.int (4 : Int32)), .val (.ref b453), .val (.int p4), .val (.int v472), .unset, .unset, .unset, .unset, .unset]) rfl ?_
      show Steps p.tables e below (T468.setTop (mkF m 101 #[.val (.int p0), .val (.int p1), .val (.int p2), .val (.int p3), .val (.int p4), .val (.int p5), .val (.int (4 : Int32)), .val (.ref b453), .val (.int p4), .val (.int v472), .unset, .unset, .unset, .unset, .unset] [])) _
      refine XS.iload X468.here hx rfl (hb hby at_101) rfl ?_
      show Steps p.tables e below (T468.setTop (mkF m 103 #[.val (.int p0), .val (.int p1), .val (.int p2), .val (.int p3), .val (.int p4), .val (.int p5), .val (.int (4 : Int32)), .val (.ref b453), .val (.int p4), .val (.int v472), .unset, .unset, .unset, .unset, .unset] [(.int p5)])) _
      refine XS.bipush X468.here hx rfl (hb hby at_103) ?_
      show Steps p.tables e below (T468.setTop (mkF m 105 #[.val (.int p0), .val (.int p1), .val (.int p2), .val (.int p3), .val (.int p4), .val (.int p5), .val (.int (4 : Int32)), .val (.ref b453), .val (.int p4), .val (.int v472), .unset, .unset, .unset, .unset, .unset] [(.int (16 : Int32)), (.int p5)])) _
      refine XS.iushr X468.here hx rfl (hb hby at_105) rfl ?_
      show Steps p.tables e below (T468.setTop (mkF m 106 #[.val (.int p0), .val (.int p1), .val (.int p2), .val (.int p3), .val (.int p4), .val (.int p5), .val (.int (4 : Int32)), .val (.ref b453), .val (.int p4), .val (.int v472), .unset, .unset, .unset, .unset, .unset] [(.int ((p5.toUInt32 >>> ((16 : Int32) &&& 31).toUInt32).toInt32))])) _
      refine X468.ldcInt hx hown (mvT hZ (hw _ (List.mem_of_getElem? (i := 1) rfl))) (g := (mkF m 106 #[.val (.int p0), .val (.int p1), .val (.int p2), .val (.int p3), .val (.int p4), .val (.int p5), .val (.int (4 : Int32)), .val (.ref b453), .val (.int p4), .val (.int v472), .unset, .unset, .unset, .unset, .unset] [(.int ((p5.toUInt32 >>> ((16 : Int32) &&& 31).toUInt32).toInt32))])) rfl (hb hby at_106) _ ?_
      show Steps p.tables e below (T468.setTop (mkF m 108 #[.val (.int p0), .val (.int p1), .val (.int p2), .val (.int p3), .val (.int p4), .val (.int p5), .val (.int (4 : Int32)), .val (.ref b453), .val (.int p4), .val (.int v472), .unset, .unset, .unset, .unset, .unset] [(.int (65535 : Int32)), (.int ((p5.toUInt32 >>> ((16 : Int32) &&& 31).toUInt32).toInt32))])) _
      refine XS.iand X468.here hx rfl (hb hby at_108) rfl ?_
      show Steps p.tables e below (T468.setTop (mkF m 109 #[.val (.int p0), .val (.int p1), .val (.int p2), .val (.int p3), .val (.int p4), .val (.int p5), .val (.int (4 : Int32)), .val (.ref b453), .val (.int p4), .val (.int v472), .unset, .unset, .unset, .unset, .unset] [(.int (((p5.toUInt32 >>> ((16 : Int32) &&& 31).toUInt32).toInt32) &&& (65535 : Int32)))])) _
      refine XS.iconst X468.here hx rfl (hb hby at_109) ?_
      show Steps p.tables e below (T468.setTop (mkF m 110 #[.val (.int p0), .val (.int p1), .val (.int p2), .val (.int p3), .val (.int p4), .val (.int p5), .val (.int (4 : Int32)), .val (.ref b453), .val (.int p4), .val (.int v472), .unset, .unset, .unset, .unset, .unset] [(.int (1 : Int32)), (.int (((p5.toUInt32 >>> ((16 : Int32) &&& 31).toUInt32).toInt32) &&& (65535 : Int32)))])) _
      refine XS.iadd X468.here hx rfl (hb hby at_110) rfl ?_
      show Steps p.tables e below (T468.setTop (mkF m 111 #[.val (.int p0), .val (.int p1), .val (.int p2), .val (.int p3), .val (.int p4), .val (.int p5), .val (.int (4 : Int32)), .val (.ref b453), .val (.int p4), .val (.int v472), .unset, .unset, .unset, .unset, .unset] [(.int ((((p5.toUInt32 >>> ((16 : Int32) &&& 31).toUInt32).toInt32) &&& (65535 : Int32)) + (1 : Int32)))])) _
      exact k
    obtain ⟨v475, hv475⟩ : ∃ z : Int32, z = ((((p5.toUInt32 >>> ((16 : Int32) &&& 31).toUInt32).toInt32) &&& (65535 : Int32)) + (1 : Int32)) := ⟨_, rfl⟩
    have pre476 : ∀ t, Steps p.tables e below (T468.setTop (mkF m 111 #[.val (.int p0), .val (.int p1), .val (.int p2), .val (.int p3), .val (.int p4), .val (.int p5), .val (.int (4 : Int32)), .val (.ref b453), .val (.int p4), .val (.int v472), .unset, .unset, .unset, .unset, .unset] [(.int v475)])) t → Steps p.tables e below (s₁.setTop (entryFrame m #[(.int p0), (.int p1), (.int p2), (.int p3), (.int p4), (.int p5)] maxLocals)) t := by rw [hv475]; exact pre474
    have pre477 : ∀ t, Steps p.tables e below (T468.setTop (mkF m 113 #[.val (.int p0), .val (.int p1), .val (.int p2), .val (.int p3), .val (.int p4), .val (.int p5), .val (.int (4 : Int32)), .val (.ref b453), .val (.int p4), .val (.int v472), .val (.int v475), .unset, .unset, .unset, .unset] [])) t → Steps p.tables e below (s₁.setTop (entryFrame m #[(.int p0), (.int p1), (.int p2), (.int p3), (.int p4), (.int p5)] maxLocals)) t := by
      intro t k
      refine pre476 t ?_
      show Steps p.tables e below (T468.setTop (mkF m 111 #[.val (.int p0), .val (.int p1), .val (.int p2), .val (.int p3), .val (.int p4), .val (.int p5), .val (.int (4 : Int32)), .val (.ref b453), .val (.int p4), .val (.int v472), .unset, .unset, .unset, .unset, .unset] [(.int v475)])) _
      refine XS.istore X468.here hx rfl (hb hby at_111) rfl (l' := #[.val (.int p0), .val (.int p1), .val (.int p2), .val (.int p3), .val (.int p4), .val (.int p5), .val (.int (4 : Int32)), .val (.ref b453), .val (.int p4), .val (.int v472), .val (.int v475), .unset, .unset, .unset, .unset]) rfl ?_
      show Steps p.tables e below (T468.setTop (mkF m 113 #[.val (.int p0), .val (.int p1), .val (.int p2), .val (.int p3), .val (.int p4), .val (.int p5), .val (.int (4 : Int32)), .val (.ref b453), .val (.int p4), .val (.int v472), .val (.int v475), .unset, .unset, .unset, .unset] [])) _
      exact k
    obtain ⟨T478, h478, X478, e478, E478, A478, D478, -, st478⟩ := newO X468 hx hZ hown (hw _ (List.mem_of_getElem? (i := 2) rfl)) (hw _ (List.mem_of_getElem? (i := 3) rfl)) (hw _ (List.mem_of_getElem? (i := 4) rfl)) e468 (g := (mkF m 113 #[.val (.int p0), .val (.int p1), .val (.int p2), .val (.int p3), .val (.int p4), .val (.int p5), .val (.int (4 : Int32)), .val (.ref b453), .val (.int p4), .val (.int v472), .val (.int v475), .unset, .unset, .unset, .unset] [])) rfl (hb hby at_113) (by decide) (by decide)
    obtain ⟨b478, g478⟩ : ∃ z, z = h468.size := ⟨_, rfl⟩
    rw [← g478] at A478 D478 st478
    have ne_b453_b478 : b453 ≠ b478 := Nat.ne_of_lt (Nat.lt_of_lt_of_le (Ef469).lt (Nat.le_of_eq g478.symm))
    have g_b478 : n0 ≤ b478 := Nat.le_trans Z468 (Nat.le_of_eq g478.symm)
    have sz_b478 : h0.size ≤ b478 := Nat.le_trans K468.1 (Nat.le_of_eq g478.symm)
    have Z478 : n0 ≤ h478.size := Nat.le_trans Z468 E478.1
    have K478 : Keep h0 h478 [] := K468.ext E478
    have Ef479 : Exa Z h478 b453 "[I" := (Ef469).ext E478
    have Vf480 : Arv Z h478 b453 k453 .int (4 : Int32) [(.int p1), (.int p2), (.int p3), (.int p4)] (.int (0 : Int32)) := (V468).ext E478
    have Fnumber_b478 : Fld Z h478 b478 "com/example/timely_exodus/timelyexodus/plan/Vehicle" "number" "I" (.int (0 : Int32)) := D478 (Or.inr (hw _ (List.mem_of_getElem? (i := 12) rfl))) (ty := .int) (by decide)
    have FdeparturePeriod_b478 : Fld Z h478 b478 "com/example/timely_exodus/timelyexodus/plan/Vehicle" "departurePeriod" "I" (.int (0 : Int32)) := D478 (Or.inr (hw _ (List.mem_of_getElem? (i := 14) rfl))) (ty := .int) (by decide)
    have Froute_b478 : Fld Z h478 b478 "com/example/timely_exodus/timelyexodus/plan/Vehicle" "route" "[I" .null := D478 (Or.inr (hw _ (List.mem_of_getElem? (i := 25) rfl))) (ty := (.array .int)) (by decide)
    have pre481 : ∀ t, Steps p.tables e below (T478.setTop (mkF m 116 #[.val (.int p0), .val (.int p1), .val (.int p2), .val (.int p3), .val (.int p4), .val (.int p5), .val (.int (4 : Int32)), .val (.ref b453), .val (.int p4), .val (.int v472), .val (.int v475), .unset, .unset, .unset, .unset] [(.ref b478)])) t → Steps p.tables e below (s₁.setTop (entryFrame m #[(.int p0), (.int p1), (.int p2), (.int p3), (.int p4), (.int p5)] maxLocals)) t := fun t k => pre477 t (st478 t k)
    have pre482 : ∀ t, Steps p.tables e below (T478.setTop (mkF m 123 #[.val (.int p0), .val (.int p1), .val (.int p2), .val (.int p3), .val (.int p4), .val (.int p5), .val (.int (4 : Int32)), .val (.ref b453), .val (.int p4), .val (.int v472), .val (.int v475), .unset, .unset, .unset, .unset] [(.ref b453), (.int v475), (.int v472), (.ref b478), (.ref b478)])) t → Steps p.tables e below (s₁.setTop (entryFrame m #[(.int p0), (.int p1), (.int p2), (.int p3), (.int p4), (.int p5)] maxLocals)) t := by
      intro t k
      refine pre481 t ?_
      show Steps p.tables e below (T478.setTop (mkF m 116 #[.val (.int p0), .val (.int p1), .val (.int p2), .val (.int p3), .val (.int p4), .val (.int p5), .val (.int (4 : Int32)), .val (.ref b453), .val (.int p4), .val (.int v472), .val (.int v475), .unset, .unset, .unset, .unset] [(.ref b478)])) _
      refine XS.dup X478.here hx rfl (hb hby at_116) rfl rfl ?_
      show Steps p.tables e below (T478.setTop (mkF m 117 #[.val (.int p0), .val (.int p1), .val (.int p2), .val (.int p3), .val (.int p4), .val (.int p5), .val (.int (4 : Int32)), .val (.ref b453), .val (.int p4), .val (.int v472), .val (.int v475), .unset, .unset, .unset, .unset] [(.ref b478), (.ref b478)])) _
      refine XS.iload X478.here hx rfl (hb hby at_117) rfl ?_
      show Steps p.tables e below (T478.setTop (mkF m 119 #[.val (.int p0), .val (.int p1), .val (.int p2), .val (.int p3), .val (.int p4), .val (.int p5), .val (.int (4 : Int32)), .val (.ref b453), .val (.int p4), .val (.int v472), .val (.int v475), .unset, .unset, .unset, .unset] [(.int v472), (.ref b478), (.ref b478)])) _
      refine XS.iload X478.here hx rfl (hb hby at_119) rfl ?_
      show Steps p.tables e below (T478.setTop (mkF m 121 #[.val (.int p0), .val (.int p1), .val (.int p2), .val (.int p3), .val (.int p4), .val (.int p5), .val (.int (4 : Int32)), .val (.ref b453), .val (.int p4), .val (.int v472), .val (.int v475), .unset, .unset, .unset, .unset] [(.int v475), (.int v472), (.ref b478), (.ref b478)])) _
      refine XS.aload X478.here hx rfl (hb hby at_121) rfl rfl ?_
      show Steps p.tables e below (T478.setTop (mkF m 123 #[.val (.int p0), .val (.int p1), .val (.int p2), .val (.int p3), .val (.int p4), .val (.int p5), .val (.int (4 : Int32)), .val (.ref b453), .val (.int p4), .val (.int v472), .val (.int v475), .unset, .unset, .unset, .unset] [(.ref b453), (.int v475), (.int v472), (.ref b478), (.ref b478)])) _
      exact k
    obtain ⟨_, _, ⟨T483, L483, k483, n483⟩, -, X483, ⟨Lc483, hQ483, l483, y483, z483⟩, st483⟩ := X478.specialBack hx (y := (⟨"com/example/timely_exodus/timelyexodus/plan/Vehicle", "<init>", "(II[I)V"⟩ : MethodName)) rfl hown (mvT hZ (hw _ (List.mem_of_getElem? (i := 5) rfl))) (mvT hZ (hw _ (List.mem_of_getElem? (i := 6) rfl))) (mvT hZ (hw _ (List.mem_of_getElem? (i := 7) rfl))) (by decide) (backOf (W := 1) (rm1_n4 l Z ar0 hw [] b478 v472 v475 b453 k453 p1 p2 p3 p4 (0 : Int32) .null (0 : Int32) h478 n0 Z478 Vf480 Ef479 FdeparturePeriod_b478 Froute_b478 (own_posA hv472) (own_posB hv475) A478 Fnumber_b478 g_b478 ne_b453_b478) hZ (hw _ (List.mem_of_getElem? (i := 7) rfl)) (hw _ (List.mem_of_getElem? (i := 4) rfl)) (by decide) (by decide)) (g := (mkF m 123 #[.val (.int p0), .val (.int p1), .val (.int p2), .val (.int p3), .val (.int p4), .val (.int p5), .val (.int (4 : Int32)), .val (.ref b453), .val (.int p4), .val (.int v472), .val (.int v475), .unset, .unset, .unset, .unset] [(.ref b453), (.int v475), (.int v472), (.ref b478), (.ref b478)])) rfl (by rw [hml]; rfl) (Steps.refl _) (a := b478) (argsL := [(.int v472), (.int v475), (.ref b453)]) (rest := [(.ref b478)]) (lenOf pd_0 rfl) rfl (by show 2 * 0 + _ ≤ _; exact Nat.le_of_eq rfl) (hb hby at_123) (fun _ _ => ⟨rfl, e478, (by decide : 2 + 1 ≤ _), (by decide : 7 + 4 ≤ _)⟩)
    dsimp only [Pt.U, Pt.locs, Pt.cells, Pt.slots] at X483 l483 y483 z483 st483 hQ483
    subst l483 y483 z483
    obtain ⟨h483, e483⟩ : ∃ h, T483.heap = h := ⟨_, rfl⟩
    rw [e483] at hQ483
    obtain ⟨b483, kb483, rfl, N483q, K483q, Q483_0, Q483_1, Q483_2, Q483_3, y_b483, Ob483_0, Ob483_1⟩ := hQ483
    have N483 := Fr.app N468 N483q
    have ne_b453_b483 : b453 ≠ b483 := Nat.ne_of_lt (Nat.lt_of_lt_of_le (Ef479).lt y_b483)
    have ne_b478_b483 : b478 ≠ b483 := Nat.ne_of_lt (Nat.lt_of_lt_of_le (A478).lt y_b483)
    have g_b483 : n0 ≤ b483 := Nat.le_trans Z478 y_b483
    have sz_b483 : h0.size ≤ b483 := Nat.le_trans K478.1 y_b483
    have Z483 : n0 ≤ h483.size := Nat.le_trans Z478 K483q.1
    have K483 : Keep h0 h483 [] := K478.trans K483q (fun x hx => by cases List.mem_singleton.mp hx; exact Or.inr sz_b478)
    have Ef484 : Exa Z h483 b453 "[I" := (Ef479).keep K483q
    have Vf485 : Arv Z h483 b453 k453 .int (4 : Int32) [(.int p1), (.int p2), (.int p3), (.int p4)] (.int (0 : Int32)) := (Vf480).keep K483q (fun q => absurd (List.mem_singleton.mp q) ne_b453_b478)
    have Ef486 : Exa Z h483 b478 "com/example/timely_exodus/timelyexodus/plan/Vehicle" := (A478).keep K483q
    have pre487 : ∀ t, Steps p.tables e below (T483.setTop (mkF m 126 #[.val (.int p0), .val (.int p1), .val (.int p2), .val (.int p3), .val (.int p4), .val (.int p5), .val (.int (4 : Int32)), .val (.ref b453), .val (.int p4), .val (.int v472), .val (.int v475), .unset, .unset, .unset, .unset] [(.ref b478)])) t → Steps p.tables e below (s₁.setTop (entryFrame m #[(.int p0), (.int p1), (.int p2), (.int p3), (.int p4), (.int p5)] maxLocals)) t := fun t k => pre482 t (st483.trans k)
    have pre488 : ∀ t, Steps p.tables e below (T483.setTop (mkF m 130 #[.val (.int p0), .val (.int p1), .val (.int p2), .val (.int p3), .val (.int p4), .val (.int p5), .val (.int (4 : Int32)), .val (.ref b453), .val (.int p4), .val (.int v472), .val (.int v475), .val (.ref b478), .unset, .unset, .unset] [(.ref b478)])) t → Steps p.tables e below (s₁.setTop (entryFrame m #[(.int p0), (.int p1), (.int p2), (.int p3), (.int p4), (.int p5)] maxLocals)) t := by
      intro t k
      refine pre487 t ?_
      show Steps p.tables e below (T483.setTop (mkF m 126 #[.val (.int p0), .val (.int p1), .val (.int p2), .val (.int p3), .val (.int p4), .val (.int p5), .val (.int (4 : Int32)), .val (.ref b453), .val (.int p4), .val (.int v472), .val (.int v475), .unset, .unset, .unset, .unset] [(.ref b478)])) _
      refine XS.astore X483.here hx rfl (hb hby at_126) rfl rfl (l' := #[.val (.int p0), .val (.int p1), .val (.int p2), .val (.int p3), .val (.int p4), .val (.int p5), .val (.int (4 : Int32)), .val (.ref b453), .val (.int p4), .val (.int v472), .val (.int v475), .val (.ref b478), .unset, .unset, .unset]) rfl ?_
      show Steps p.tables e below (T483.setTop (mkF m 128 #[.val (.int p0), .val (.int p1), .val (.int p2), .val (.int p3), .val (.int p4), .val (.int p5), .val (.int (4 : Int32)), .val (.ref b453), .val (.int p4), .val (.int v472), .val (.int v475), .val (.ref b478), .unset, .unset, .unset] [])) _
      refine XS.aload X483.here hx rfl (hb hby at_128) rfl rfl ?_
      show Steps p.tables e below (T483.setTop (mkF m 130 #[.val (.int p0), .val (.int p1), .val (.int p2), .val (.int p3), .val (.int p4), .val (.int p5), .val (.int (4 : Int32)), .val (.ref b453), .val (.int p4), .val (.int v472), .val (.int v475), .val (.ref b478), .unset, .unset, .unset] [(.ref b478)])) _
      exact k
    obtain ⟨cq489, kq489, q489a, q489b, q489c⟩ := isOf hZ e483 Q483_0
    obtain ⟨_, _, ⟨T489, L489, k489, n489⟩, -, X489, ⟨Lc489, hQ489, l489, y489, z489⟩, st489⟩ := X483.virtualBack hx (y := (⟨"com/example/timely_exodus/timelyexodus/plan/Vehicle", "getExitCell", "()I"⟩ : MethodName)) (z := (⟨"com/example/timely_exodus/timelyexodus/plan/Vehicle", "getExitCell", "()I"⟩ : MethodName)) hown (mvT hZ (hw _ (List.mem_of_getElem? (i := 26) rfl))) (mvT hZ (hw _ (List.mem_of_getElem? (i := 27) rfl))) (notFace_of_selects (args := #[]) (mvT hZ (hw _ (List.mem_of_getElem? (i := 29) rfl)))) (mvT hZ (hw _ (List.mem_of_getElem? (i := 29) rfl))) (mvT hZ (hw _ (List.mem_of_getElem? (i := 28) rfl))) (by decide) (backOf (W := 0) (rm3_n4 l Z ar0 hw [] b478 b483 kb483 p1 p2 p3 p4 h483 n0 Z483 Q483_3 Ob483_0) hZ (hw _ (List.mem_of_getElem? (i := 30) rfl)) (hw _ (List.mem_of_getElem? (i := 4) rfl)) (by decide) (by decide)) q489a q489c (g := (mkF m 130 #[.val (.int p0), .val (.int p1), .val (.int p2), .val (.int p3), .val (.int p4), .val (.int p5), .val (.int (4 : Int32)), .val (.ref b453), .val (.int p4), .val (.int v472), .val (.int v475), .val (.ref b478), .unset, .unset, .unset] [(.ref b478)])) rfl (by rw [hml]; rfl) (Steps.refl _) (argsL := []) (rest := []) (lenOf pd_1 rfl) rfl (by show 2 * 0 + _ ≤ _; exact Nat.le_of_eq rfl) (hb hby at_130) (fun _ _ => ⟨rfl, e483, (by decide : 3 + 0 ≤ _), (by decide : 11 + 0 ≤ _)⟩)
    dsimp only [Pt.U, Pt.locs, Pt.cells, Pt.slots] at X489 l489 y489 z489 st489 hQ489
    subst l489 y489 z489
    obtain ⟨rfl, N489q, e489⟩ := hQ489
    have N489 := Fr.app N483 N489q
    have pre490 : ∀ t, Steps p.tables e below (T489.setTop (mkF m 133 #[.val (.int p0), .val (.int p1), .val (.int p2), .val (.int p3), .val (.int p4), .val (.int p5), .val (.int (4 : Int32)), .val (.ref b453), .val (.int p4), .val (.int v472), .val (.int v475), .val (.ref b478), .unset, .unset, .unset] [(.int p4)])) t → Steps p.tables e below (s₁.setTop (entryFrame m #[(.int p0), (.int p1), (.int p2), (.int p3), (.int p4), (.int p5)] maxLocals)) t := fun t k => pre488 t (st489.trans k)
    have pre491 : ∀ t, Steps p.tables e below (T489.setTop (mkF m 155 #[.val (.int p0), .val (.int p1), .val (.int p2), .val (.int p3), .val (.int p4), .val (.int p5), .val (.int (4 : Int32)), .val (.ref b453), .val (.int p4), .val (.int v472), .val (.int v475), .val (.ref b478), .val (.int (1 : Int32)), .unset, .unset] [(.int (p4 ^^^ (-1 : Int32))), (.int (3 : Int32)), (.ref b453)])) t → Steps p.tables e below (s₁.setTop (entryFrame m #[(.int p0), (.int p1), (.int p2), (.int p3), (.int p4), (.int p5)] maxLocals)) t := by
      intro t k
      refine pre490 t ?_
      show Steps p.tables e below (T489.setTop (mkF m 133 #[.val (.int p0), .val (.int p1), .val (.int p2), .val (.int p3), .val (.int p4), .val (.int p5), .val (.int (4 : Int32)), .val (.ref b453), .val (.int p4), .val (.int v472), .val (.int v475), .val (.ref b478), .unset, .unset, .unset] [(.int p4)])) _
      refine XS.iload X489.here hx rfl (hb hby at_133) rfl ?_
      show Steps p.tables e below (T489.setTop (mkF m 135 #[.val (.int p0), .val (.int p1), .val (.int p2), .val (.int p3), .val (.int p4), .val (.int p5), .val (.int (4 : Int32)), .val (.ref b453), .val (.int p4), .val (.int v472), .val (.int v475), .val (.ref b478), .unset, .unset, .unset] [(.int p4), (.int p4)])) _
      show Steps p.tables e below (T489.setTop (mkF m 135 #[.val (.int p0), .val (.int p1), .val (.int p2), .val (.int p3), .val (.int p4), .val (.int p5), .val (.int (4 : Int32)), .val (.ref b453), .val (.int p4), .val (.int v472), .val (.int v475), .val (.ref b478), .unset, .unset, .unset] [(.int p4), (.int p4)])) _
      refine XS.icmpNo X489.here hx rfl (hb hby at_135) rfl (teq (rfl : p4 = p4)).2 ?_
      show Steps p.tables e below (T489.setTop (mkF m 138 #[.val (.int p0), .val (.int p1), .val (.int p2), .val (.int p3), .val (.int p4), .val (.int p5), .val (.int (4 : Int32)), .val (.ref b453), .val (.int p4), .val (.int v472), .val (.int v475), .val (.ref b478), .unset, .unset, .unset] [])) _
      refine XS.iconst X489.here hx rfl (hb hby at_138) ?_
      show Steps p.tables e below (T489.setTop (mkF m 139 #[.val (.int p0), .val (.int p1), .val (.int p2), .val (.int p3), .val (.int p4), .val (.int p5), .val (.int (4 : Int32)), .val (.ref b453), .val (.int p4), .val (.int v472), .val (.int v475), .val (.ref b478), .unset, .unset, .unset] [(.int (1 : Int32))])) _
      refine XS.goto X489.here hx rfl (pc0 := 139) (pc' := 143) rfl (hb hby at_139) (by decide) (by decide) ?_
      show Steps p.tables e below (T489.setTop (mkF m 143 #[.val (.int p0), .val (.int p1), .val (.int p2), .val (.int p3), .val (.int p4), .val (.int p5), .val (.int (4 : Int32)), .val (.ref b453), .val (.int p4), .val (.int v472), .val (.int v475), .val (.ref b478), .unset, .unset, .unset] [(.int (1 : Int32))])) _
      refine XS.istore X489.here hx rfl (hb hby at_143) rfl (l' := #[.val (.int p0), .val (.int p1), .val (.int p2), .val (.int p3), .val (.int p4), .val (.int p5), .val (.int (4 : Int32)), .val (.ref b453), .val (.int p4), .val (.int v472), .val (.int v475), .val (.ref b478), .val (.int (1 : Int32)), .unset, .unset]) rfl ?_
      show Steps p.tables e below (T489.setTop (mkF m 145 #[.val (.int p0), .val (.int p1), .val (.int p2), .val (.int p3), .val (.int p4), .val (.int p5), .val (.int (4 : Int32)), .val (.ref b453), .val (.int p4), .val (.int v472), .val (.int v475), .val (.ref b478), .val (.int (1 : Int32)), .unset, .unset] [])) _
      refine XS.aload X489.here hx rfl (hb hby at_145) rfl rfl ?_
      show Steps p.tables e below (T489.setTop (mkF m 147 #[.val (.int p0), .val (.int p1), .val (.int p2), .val (.int p3), .val (.int p4), .val (.int p5), .val (.int (4 : Int32)), .val (.ref b453), .val (.int p4), .val (.int v472), .val (.int v475), .val (.ref b478), .val (.int (1 : Int32)), .unset, .unset] [(.ref b453)])) _
      refine XS.iload X489.here hx rfl (hb hby at_147) rfl ?_
      show Steps p.tables e below (T489.setTop (mkF m 149 #[.val (.int p0), .val (.int p1), .val (.int p2), .val (.int p3), .val (.int p4), .val (.int p5), .val (.int (4 : Int32)), .val (.ref b453), .val (.int p4), .val (.int v472), .val (.int v475), .val (.ref b478), .val (.int (1 : Int32)), .unset, .unset] [(.int (4 : Int32)), (.ref b453)])) _
      refine XS.iconst X489.here hx rfl (hb hby at_149) ?_
      show Steps p.tables e below (T489.setTop (mkF m 150 #[.val (.int p0), .val (.int p1), .val (.int p2), .val (.int p3), .val (.int p4), .val (.int p5), .val (.int (4 : Int32)), .val (.ref b453), .val (.int p4), .val (.int v472), .val (.int v475), .val (.ref b478), .val (.int (1 : Int32)), .unset, .unset] [(.int (1 : Int32)), (.int (4 : Int32)), (.ref b453)])) _
      refine XS.isub X489.here hx rfl (hb hby at_150) rfl ?_
      show Steps p.tables e below (T489.setTop (mkF m 151 #[.val (.int p0), .val (.int p1), .val (.int p2), .val (.int p3), .val (.int p4), .val (.int p5), .val (.int (4 : Int32)), .val (.ref b453), .val (.int p4), .val (.int v472), .val (.int v475), .val (.ref b478), .val (.int (1 : Int32)), .unset, .unset] [(.int (3 : Int32)), (.ref b453)])) _
      refine XS.iload X489.here hx rfl (hb hby at_151) rfl ?_
      show Steps p.tables e below (T489.setTop (mkF m 153 #[.val (.int p0), .val (.int p1), .val (.int p2), .val (.int p3), .val (.int p4), .val (.int p5), .val (.int (4 : Int32)), .val (.ref b453), .val (.int p4), .val (.int v472), .val (.int v475), .val (.ref b478), .val (.int (1 : Int32)), .unset, .unset] [(.int p4), (.int (3 : Int32)), (.ref b453)])) _
      refine XS.iconst X489.here hx rfl (hb hby at_153) ?_
      show Steps p.tables e below (T489.setTop (mkF m 154 #[.val (.int p0), .val (.int p1), .val (.int p2), .val (.int p3), .val (.int p4), .val (.int p5), .val (.int (4 : Int32)), .val (.ref b453), .val (.int p4), .val (.int v472), .val (.int v475), .val (.ref b478), .val (.int (1 : Int32)), .unset, .unset] [(.int (-1 : Int32)), (.int p4), (.int (3 : Int32)), (.ref b453)])) _
      refine XS.ixor X489.here hx rfl (hb hby at_154) rfl ?_
      show Steps p.tables e below (T489.setTop (mkF m 155 #[.val (.int p0), .val (.int p1), .val (.int p2), .val (.int p3), .val (.int p4), .val (.int p5), .val (.int (4 : Int32)), .val (.ref b453), .val (.int p4), .val (.int v472), .val (.int v475), .val (.ref b478), .val (.int (1 : Int32)), .unset, .unset] [(.int (p4 ^^^ (-1 : Int32))), (.int (3 : Int32)), (.ref b453)])) _
      exact k
    obtain ⟨cl492, Ar492, q492, S492, M492, H492, G492⟩ := id Vf485
    have hin492 : ¬ ((3 : Int32) < 0 ∨ cl492.slots.size ≤ ((3 : Int32)).toNatClampNeg) := inb_of S492 ⟨by decide, by decide⟩
    obtain ⟨T492, h492, X492, e492, W492, st492⟩ := stI X489 hx hZ e489 Ar492 (j := (3 : Int32)) hin492 (g := (mkF m 155 #[.val (.int p0), .val (.int p1), .val (.int p2), .val (.int p3), .val (.int p4), .val (.int p5), .val (.int (4 : Int32)), .val (.ref b453), .val (.int p4), .val (.int v472), .val (.int v475), .val (.ref b478), .val (.int (1 : Int32)), .unset, .unset] [(.int (p4 ^^^ (-1 : Int32))), (.int (3 : Int32)), (.ref b453)])) rfl rfl (hb hby at_155)
    have Z492 : n0 ≤ h492.size := Nat.le_trans Z483 (Keep.of_wr W492).1
    have K492 : Keep h0 h492 [] := K483.wr W492 (Or.inr sz_b453)
    have N492 := Fr.snoc X492 N489 g_b453
    have Ef493 : Exa Z h492 b453 "[I" := (Ef484).wr W492
    have Ef494 : Exa Z h492 b478 "com/example/timely_exodus/timelyexodus/plan/Vehicle" := (Q483_0).wr W492
    have Ff495 : Fld Z h492 b478 "com/example/timely_exodus/timelyexodus/plan/Vehicle" "number" "I" (.int v472) := (Q483_1).other W492 (Or.inl ne_b453_b478.symm)
    have Ff496 : Fld Z h492 b478 "com/example/timely_exodus/timelyexodus/plan/Vehicle" "departurePeriod" "I" (.int v475) := (Q483_2).other W492 (Or.inl ne_b453_b478.symm)
    have Ff497 : Fld Z h492 b478 "com/example/timely_exodus/timelyexodus/plan/Vehicle" "route" "[I" (.ref b483) := (Q483_3).other W492 (Or.inl ne_b453_b478.symm)
    have Vf498 : Arv Z h492 b483 kb483 .int (4 : Int32) [(.int p1), (.int p2), (.int p3), (.int p4)] (.int (0 : Int32)) := (Ob483_0).other W492 ne_b453_b483.symm
    have Ef499 : Exa Z h492 b483 "[I" := (Ob483_1).wr W492
    have V492 : Arv Z h492 b453 k453 .int (4 : Int32) [(.int p1), (.int p2), (.int p3), (.int (p4 ^^^ (-1 : Int32)))] (.int (0 : Int32)) := Arv.set Ar492 q492 S492 M492 H492 G492 rfl W492 3 rfl (Nat.le_of_ble_eq_true rfl)
    have pre500 : ∀ t, Steps p.tables e below (T492.setTop (mkF m 156 #[.val (.int p0), .val (.int p1), .val (.int p2), .val (.int p3), .val (.int p4), .val (.int p5), .val (.int (4 : Int32)), .val (.ref b453), .val (.int p4), .val (.int v472), .val (.int v475), .val (.ref b478), .val (.int (1 : Int32)), .unset, .unset] [])) t → Steps p.tables e below (s₁.setTop (entryFrame m #[(.int p0), (.int p1), (.int p2), (.int p3), (.int p4), (.int p5)] maxLocals)) t := fun t k => pre491 t (st492 t k)
    have pre501 : ∀ t, Steps p.tables e below (T492.setTop (mkF m 158 #[.val (.int p0), .val (.int p1), .val (.int p2), .val (.int p3), .val (.int p4), .val (.int p5), .val (.int (4 : Int32)), .val (.ref b453), .val (.int p4), .val (.int v472), .val (.int v475), .val (.ref b478), .val (.int (1 : Int32)), .unset, .unset] [(.ref b478)])) t → Steps p.tables e below (s₁.setTop (entryFrame m #[(.int p0), (.int p1), (.int p2), (.int p3), (.int p4), (.int p5)] maxLocals)) t := by
      intro t k
      refine pre500 t ?_
      show Steps p.tables e below (T492.setTop (mkF m 156 #[.val (.int p0), .val (.int p1), .val (.int p2), .val (.int p3), .val (.int p4), .val (.int p5), .val (.int (4 : Int32)), .val (.ref b453), .val (.int p4), .val (.int v472), .val (.int v475), .val (.ref b478), .val (.int (1 : Int32)), .unset, .unset] [])) _
      refine XS.aload X492.here hx rfl (hb hby at_156) rfl rfl ?_
      show Steps p.tables e below (T492.setTop (mkF m 158 #[.val (.int p0), .val (.int p1), .val (.int p2), .val (.int p3), .val (.int p4), .val (.int p5), .val (.int (4 : Int32)), .val (.ref b453), .val (.int p4), .val (.int v472), .val (.int v475), .val (.ref b478), .val (.int (1 : Int32)), .unset, .unset] [(.ref b478)])) _
      exact k
    obtain ⟨cq502, kq502, q502a, q502b, q502c⟩ := isOf hZ e492 Ef494
    obtain ⟨_, _, ⟨T502, L502, k502, n502⟩, -, X502, ⟨Lc502, hQ502, l502, y502, z502⟩, st502⟩ := X492.virtualBack hx (y := (⟨"com/example/timely_exodus/timelyexodus/plan/Vehicle", "getRoute", "()[I"⟩ : MethodName)) (z := (⟨"com/example/timely_exodus/timelyexodus/plan/Vehicle", "getRoute", "()[I"⟩ : MethodName)) hown (mvT hZ (hw _ (List.mem_of_getElem? (i := 31) rfl))) (mvT hZ (hw _ (List.mem_of_getElem? (i := 32) rfl))) (notFace_of_selects (args := #[]) (mvT hZ (hw _ (List.mem_of_getElem? (i := 34) rfl)))) (mvT hZ (hw _ (List.mem_of_getElem? (i := 34) rfl))) (mvT hZ (hw _ (List.mem_of_getElem? (i := 33) rfl))) (by decide) (backOf (W := 0) (rm4_n4 l Z ar0 hw [] b478 b483 kb483 p1 p2 p3 p4 h492 n0 Z492 Ff497 Vf498 Ef499) hZ (hw _ (List.mem_of_getElem? (i := 35) rfl)) (hw _ (List.mem_of_getElem? (i := 4) rfl)) (by decide) (by decide)) q502a q502c (g := (mkF m 158 #[.val (.int p0), .val (.int p1), .val (.int p2), .val (.int p3), .val (.int p4), .val (.int p5), .val (.int (4 : Int32)), .val (.ref b453), .val (.int p4), .val (.int v472), .val (.int v475), .val (.ref b478), .val (.int (1 : Int32)), .unset, .unset] [(.ref b478)])) rfl (by rw [hml]; rfl) (Steps.refl _) (argsL := []) (rest := []) (lenOf pd_2 rfl) rfl (by show 2 * 0 + _ ≤ _; exact Nat.le_of_eq rfl) (hb hby at_158) (fun _ _ => ⟨rfl, e492, (by decide : 3 + 1 ≤ _), (by decide : 11 + 4 ≤ _)⟩)
    dsimp only [Pt.U, Pt.locs, Pt.cells, Pt.slots] at X502 l502 y502 z502 st502 hQ502
    subst l502 y502 z502
    obtain ⟨h502, e502⟩ : ∃ h, T502.heap = h := ⟨_, rfl⟩
    rw [e502] at hQ502
    obtain ⟨b502, kb502, rfl, N502q, K502q, y_b502, Ob502_0, Ob502_1⟩ := hQ502
    have N502 := Fr.app N492 N502q
    have ne_b453_b502 : b453 ≠ b502 := Nat.ne_of_lt (Nat.lt_of_lt_of_le (Ef493).lt y_b502)
    have ne_b478_b502 : b478 ≠ b502 := Nat.ne_of_lt (Nat.lt_of_lt_of_le (Ef494).lt y_b502)
    have ne_b483_b502 : b483 ≠ b502 := Nat.ne_of_lt (Nat.lt_of_lt_of_le (Vf498).lt y_b502)
    have g_b502 : n0 ≤ b502 := Nat.le_trans Z492 y_b502
    have sz_b502 : h0.size ≤ b502 := Nat.le_trans K492.1 y_b502
    have Z502 : n0 ≤ h502.size := Nat.le_trans Z492 K502q.1
    have K502 : Keep h0 h502 [] := K492.trans K502q (fun x hx => absurd hx List.not_mem_nil)
    have Ef503 : Exa Z h502 b453 "[I" := (Ef493).keep K502q
    have Ef504 : Exa Z h502 b478 "com/example/timely_exodus/timelyexodus/plan/Vehicle" := (Ef494).keep K502q
    have Ff505 : Fld Z h502 b478 "com/example/timely_exodus/timelyexodus/plan/Vehicle" "number" "I" (.int v472) := (Ff495).keep K502q List.not_mem_nil
    have Ff506 : Fld Z h502 b478 "com/example/timely_exodus/timelyexodus/plan/Vehicle" "departurePeriod" "I" (.int v475) := (Ff496).keep K502q List.not_mem_nil
    have Ff507 : Fld Z h502 b478 "com/example/timely_exodus/timelyexodus/plan/Vehicle" "route" "[I" (.ref b483) := (Ff497).keep K502q List.not_mem_nil
    have Vf508 : Arv Z h502 b483 kb483 .int (4 : Int32) [(.int p1), (.int p2), (.int p3), (.int p4)] (.int (0 : Int32)) := (Vf498).keep K502q List.not_mem_nil
    have Ef509 : Exa Z h502 b483 "[I" := (Ef499).keep K502q
    have Vf510 : Arv Z h502 b453 k453 .int (4 : Int32) [(.int p1), (.int p2), (.int p3), (.int (p4 ^^^ (-1 : Int32)))] (.int (0 : Int32)) := (V492).keep K502q List.not_mem_nil
    have pre511 : ∀ t, Steps p.tables e below (T502.setTop (mkF m 161 #[.val (.int p0), .val (.int p1), .val (.int p2), .val (.int p3), .val (.int p4), .val (.int p5), .val (.int (4 : Int32)), .val (.ref b453), .val (.int p4), .val (.int v472), .val (.int v475), .val (.ref b478), .val (.int (1 : Int32)), .unset, .unset] [(.ref b502)])) t → Steps p.tables e below (s₁.setTop (entryFrame m #[(.int p0), (.int p1), (.int p2), (.int p3), (.int p4), (.int p5)] maxLocals)) t := fun t k => pre501 t (st502.trans k)
    have pre512 : ∀ t, Steps p.tables e below (T502.setTop (mkF m 165 #[.val (.int p0), .val (.int p1), .val (.int p2), .val (.int p3), .val (.int p4), .val (.int p5), .val (.int (4 : Int32)), .val (.ref b453), .val (.int p4), .val (.int v472), .val (.int v475), .val (.ref b478), .val (.int (1 : Int32)), .val (.ref b502), .unset] [(.ref b502)])) t → Steps p.tables e below (s₁.setTop (entryFrame m #[(.int p0), (.int p1), (.int p2), (.int p3), (.int p4), (.int p5)] maxLocals)) t := by
      intro t k
      refine pre511 t ?_
      show Steps p.tables e below (T502.setTop (mkF m 161 #[.val (.int p0), .val (.int p1), .val (.int p2), .val (.int p3), .val (.int p4), .val (.int p5), .val (.int (4 : Int32)), .val (.ref b453), .val (.int p4), .val (.int v472), .val (.int v475), .val (.ref b478), .val (.int (1 : Int32)), .unset, .unset] [(.ref b502)])) _
      refine XS.astore X502.here hx rfl (hb hby at_161) rfl rfl (l' := #[.val (.int p0), .val (.int p1), .val (.int p2), .val (.int p3), .val (.int p4), .val (.int p5), .val (.int (4 : Int32)), .val (.ref b453), .val (.int p4), .val (.int v472), .val (.int v475), .val (.ref b478), .val (.int (1 : Int32)), .val (.ref b502), .unset]) rfl ?_
      show Steps p.tables e below (T502.setTop (mkF m 163 #[.val (.int p0), .val (.int p1), .val (.int p2), .val (.int p3), .val (.int p4), .val (.int p5), .val (.int (4 : Int32)), .val (.ref b453), .val (.int p4), .val (.int v472), .val (.int v475), .val (.ref b478), .val (.int (1 : Int32)), .val (.ref b502), .unset] [])) _
      refine XS.aload X502.here hx rfl (hb hby at_163) rfl rfl ?_
      show Steps p.tables e below (T502.setTop (mkF m 165 #[.val (.int p0), .val (.int p1), .val (.int p2), .val (.int p3), .val (.int p4), .val (.int p5), .val (.int (4 : Int32)), .val (.ref b453), .val (.int p4), .val (.int v472), .val (.int v475), .val (.ref b478), .val (.int (1 : Int32)), .val (.ref b502), .unset] [(.ref b502)])) _
      exact k
    obtain ⟨cl513, Ar513, q513, S513, M513, H513, G513⟩ := id Ob502_0
    have pre514 : ∀ t, Steps p.tables e below (T502.setTop (mkF m 183 #[.val (.int p0), .val (.int p1), .val (.int p2), .val (.int p3), .val (.int p4), .val (.int p5), .val (.int (4 : Int32)), .val (.ref b453), .val (.int p4), .val (.int v472), .val (.int v475), .val (.ref b478), .val (.int (1 : Int32)), .val (.ref b502), .unset] [(.int (p4 ^^^ (-1 : Int32))), (.int (3 : Int32)), (.ref b502)])) t → Steps p.tables e below (s₁.setTop (entryFrame m #[(.int p0), (.int p1), (.int p2), (.int p3), (.int p4), (.int p5)] maxLocals)) t := by
      intro t k
      refine pre512 t ?_
      show Steps p.tables e below (T502.setTop (mkF m 165 #[.val (.int p0), .val (.int p1), .val (.int p2), .val (.int p3), .val (.int p4), .val (.int p5), .val (.int (4 : Int32)), .val (.ref b453), .val (.int p4), .val (.int v472), .val (.int v475), .val (.ref b478), .val (.int (1 : Int32)), .val (.ref b502), .unset] [(.ref b502)])) _
      refine X502.arraylength hx (by rw [e502]; exact Ar513.1) (State.isArrayOf_alike hZ.alike Ar513.2.1) (g := (mkF m 165 #[.val (.int p0), .val (.int p1), .val (.int p2), .val (.int p3), .val (.int p4), .val (.int p5), .val (.int (4 : Int32)), .val (.ref b453), .val (.int p4), .val (.int v472), .val (.int v475), .val (.ref b478), .val (.int (1 : Int32)), .val (.ref b502), .unset] [(.ref b502)])) rfl rfl (hb hby at_165) _ ?_
      rw [len_of S513 M513]
      show Steps p.tables e below (T502.setTop (mkF m 166 #[.val (.int p0), .val (.int p1), .val (.int p2), .val (.int p3), .val (.int p4), .val (.int p5), .val (.int (4 : Int32)), .val (.ref b453), .val (.int p4), .val (.int v472), .val (.int v475), .val (.ref b478), .val (.int (1 : Int32)), .val (.ref b502), .unset] [(.int (4 : Int32))])) _
      refine XS.iload X502.here hx rfl (hb hby at_166) rfl ?_
      show Steps p.tables e below (T502.setTop (mkF m 168 #[.val (.int p0), .val (.int p1), .val (.int p2), .val (.int p3), .val (.int p4), .val (.int p5), .val (.int (4 : Int32)), .val (.ref b453), .val (.int p4), .val (.int v472), .val (.int v475), .val (.ref b478), .val (.int (1 : Int32)), .val (.ref b502), .unset] [(.int (4 : Int32)), (.int (4 : Int32))])) _
      show Steps p.tables e below (T502.setTop (mkF m 168 #[.val (.int p0), .val (.int p1), .val (.int p2), .val (.int p3), .val (.int p4), .val (.int p5), .val (.int (4 : Int32)), .val (.ref b453), .val (.int p4), .val (.int v472), .val (.int v475), .val (.ref b478), .val (.int (1 : Int32)), .val (.ref b502), .unset] [(.int (4 : Int32)), (.int (4 : Int32))])) _
      refine XS.icmpYes X502.here hx rfl (pc0 := 168) (pc' := 173) rfl (hb hby at_168) rfl (teq (by decide : (4 : Int32) = (4 : Int32))).1 (by decide) (by decide) ?_
      show Steps p.tables e below (T502.setTop (mkF m 173 #[.val (.int p0), .val (.int p1), .val (.int p2), .val (.int p3), .val (.int p4), .val (.int p5), .val (.int (4 : Int32)), .val (.ref b453), .val (.int p4), .val (.int v472), .val (.int v475), .val (.ref b478), .val (.int (1 : Int32)), .val (.ref b502), .unset] [])) _
      refine XS.aload X502.here hx rfl (hb hby at_173) rfl rfl ?_
      show Steps p.tables e below (T502.setTop (mkF m 175 #[.val (.int p0), .val (.int p1), .val (.int p2), .val (.int p3), .val (.int p4), .val (.int p5), .val (.int (4 : Int32)), .val (.ref b453), .val (.int p4), .val (.int v472), .val (.int v475), .val (.ref b478), .val (.int (1 : Int32)), .val (.ref b502), .unset] [(.ref b502)])) _
      refine XS.iload X502.here hx rfl (hb hby at_175) rfl ?_
      show Steps p.tables e below (T502.setTop (mkF m 177 #[.val (.int p0), .val (.int p1), .val (.int p2), .val (.int p3), .val (.int p4), .val (.int p5), .val (.int (4 : Int32)), .val (.ref b453), .val (.int p4), .val (.int v472), .val (.int v475), .val (.ref b478), .val (.int (1 : Int32)), .val (.ref b502), .unset] [(.int (4 : Int32)), (.ref b502)])) _
      refine XS.iconst X502.here hx rfl (hb hby at_177) ?_
      show Steps p.tables e below (T502.setTop (mkF m 178 #[.val (.int p0), .val (.int p1), .val (.int p2), .val (.int p3), .val (.int p4), .val (.int p5), .val (.int (4 : Int32)), .val (.ref b453), .val (.int p4), .val (.int v472), .val (.int v475), .val (.ref b478), .val (.int (1 : Int32)), .val (.ref b502), .unset] [(.int (1 : Int32)), (.int (4 : Int32)), (.ref b502)])) _
      refine XS.isub X502.here hx rfl (hb hby at_178) rfl ?_
      show Steps p.tables e below (T502.setTop (mkF m 179 #[.val (.int p0), .val (.int p1), .val (.int p2), .val (.int p3), .val (.int p4), .val (.int p5), .val (.int (4 : Int32)), .val (.ref b453), .val (.int p4), .val (.int v472), .val (.int v475), .val (.ref b478), .val (.int (1 : Int32)), .val (.ref b502), .unset] [(.int (3 : Int32)), (.ref b502)])) _
      refine XS.iload X502.here hx rfl (hb hby at_179) rfl ?_
      show Steps p.tables e below (T502.setTop (mkF m 181 #[.val (.int p0), .val (.int p1), .val (.int p2), .val (.int p3), .val (.int p4), .val (.int p5), .val (.int (4 : Int32)), .val (.ref b453), .val (.int p4), .val (.int v472), .val (.int v475), .val (.ref b478), .val (.int (1 : Int32)), .val (.ref b502), .unset] [(.int p4), (.int (3 : Int32)), (.ref b502)])) _
      refine XS.iconst X502.here hx rfl (hb hby at_181) ?_
      show Steps p.tables e below (T502.setTop (mkF m 182 #[.val (.int p0), .val (.int p1), .val (.int p2), .val (.int p3), .val (.int p4), .val (.int p5), .val (.int (4 : Int32)), .val (.ref b453), .val (.int p4), .val (.int v472), .val (.int v475), .val (.ref b478), .val (.int (1 : Int32)), .val (.ref b502), .unset] [(.int (-1 : Int32)), (.int p4), (.int (3 : Int32)), (.ref b502)])) _
      refine XS.ixor X502.here hx rfl (hb hby at_182) rfl ?_
      show Steps p.tables e below (T502.setTop (mkF m 183 #[.val (.int p0), .val (.int p1), .val (.int p2), .val (.int p3), .val (.int p4), .val (.int p5), .val (.int (4 : Int32)), .val (.ref b453), .val (.int p4), .val (.int v472), .val (.int v475), .val (.ref b478), .val (.int (1 : Int32)), .val (.ref b502), .unset] [(.int (p4 ^^^ (-1 : Int32))), (.int (3 : Int32)), (.ref b502)])) _
      exact k
    obtain ⟨cl515, Ar515, q515, S515, M515, H515, G515⟩ := id Ob502_0
    have hin515 : ¬ ((3 : Int32) < 0 ∨ cl515.slots.size ≤ ((3 : Int32)).toNatClampNeg) := inb_of S515 ⟨by decide, by decide⟩
    obtain ⟨T515, h515, X515, e515, W515, st515⟩ := stI X502 hx hZ e502 Ar515 (j := (3 : Int32)) hin515 (g := (mkF m 183 #[.val (.int p0), .val (.int p1), .val (.int p2), .val (.int p3), .val (.int p4), .val (.int p5), .val (.int (4 : Int32)), .val (.ref b453), .val (.int p4), .val (.int v472), .val (.int v475), .val (.ref b478), .val (.int (1 : Int32)), .val (.ref b502), .unset] [(.int (p4 ^^^ (-1 : Int32))), (.int (3 : Int32)), (.ref b502)])) rfl rfl (hb hby at_183)
    have Z515 : n0 ≤ h515.size := Nat.le_trans Z502 (Keep.of_wr W515).1
    have K515 : Keep h0 h515 [] := K502.wr W515 (Or.inr sz_b502)
    have N515 := Fr.snoc X515 N502 g_b502
    have Ef516 : Exa Z h515 b453 "[I" := (Ef503).wr W515
    have Ef517 : Exa Z h515 b478 "com/example/timely_exodus/timelyexodus/plan/Vehicle" := (Ef504).wr W515
    have Ff518 : Fld Z h515 b478 "com/example/timely_exodus/timelyexodus/plan/Vehicle" "number" "I" (.int v472) := (Ff505).other W515 (Or.inl ne_b478_b502)
    have Ff519 : Fld Z h515 b478 "com/example/timely_exodus/timelyexodus/plan/Vehicle" "departurePeriod" "I" (.int v475) := (Ff506).other W515 (Or.inl ne_b478_b502)
    have Ff520 : Fld Z h515 b478 "com/example/timely_exodus/timelyexodus/plan/Vehicle" "route" "[I" (.ref b483) := (Ff507).other W515 (Or.inl ne_b478_b502)
    have Vf521 : Arv Z h515 b483 kb483 .int (4 : Int32) [(.int p1), (.int p2), (.int p3), (.int p4)] (.int (0 : Int32)) := (Vf508).other W515 ne_b483_b502
    have Ef522 : Exa Z h515 b483 "[I" := (Ef509).wr W515
    have Vf523 : Arv Z h515 b453 k453 .int (4 : Int32) [(.int p1), (.int p2), (.int p3), (.int (p4 ^^^ (-1 : Int32)))] (.int (0 : Int32)) := (Vf510).other W515 ne_b453_b502
    have Ef524 : Exa Z h515 b502 "[I" := (Ob502_1).wr W515
    have V515 : Arv Z h515 b502 kb502 .int (4 : Int32) [(.int p1), (.int p2), (.int p3), (.int (p4 ^^^ (-1 : Int32)))] (.int (0 : Int32)) := Arv.set Ar515 q515 S515 M515 H515 G515 rfl W515 3 rfl (Nat.le_of_ble_eq_true rfl)
    have pre525 : ∀ t, Steps p.tables e below (T515.setTop (mkF m 184 #[.val (.int p0), .val (.int p1), .val (.int p2), .val (.int p3), .val (.int p4), .val (.int p5), .val (.int (4 : Int32)), .val (.ref b453), .val (.int p4), .val (.int v472), .val (.int v475), .val (.ref b478), .val (.int (1 : Int32)), .val (.ref b502), .unset] [])) t → Steps p.tables e below (s₁.setTop (entryFrame m #[(.int p0), (.int p1), (.int p2), (.int p3), (.int p4), (.int p5)] maxLocals)) t := fun t k => pre514 t (st515 t k)
    have pre526 : ∀ t, Steps p.tables e below (T515.setTop (mkF m 186 #[.val (.int p0), .val (.int p1), .val (.int p2), .val (.int p3), .val (.int p4), .val (.int p5), .val (.int (4 : Int32)), .val (.ref b453), .val (.int p4), .val (.int v472), .val (.int v475), .val (.ref b478), .val (.int (1 : Int32)), .val (.ref b502), .unset] [(.ref b478)])) t → Steps p.tables e below (s₁.setTop (entryFrame m #[(.int p0), (.int p1), (.int p2), (.int p3), (.int p4), (.int p5)] maxLocals)) t := by
      intro t k
      refine pre525 t ?_
      show Steps p.tables e below (T515.setTop (mkF m 184 #[.val (.int p0), .val (.int p1), .val (.int p2), .val (.int p3), .val (.int p4), .val (.int p5), .val (.int (4 : Int32)), .val (.ref b453), .val (.int p4), .val (.int v472), .val (.int v475), .val (.ref b478), .val (.int (1 : Int32)), .val (.ref b502), .unset] [])) _
      refine XS.aload X515.here hx rfl (hb hby at_184) rfl rfl ?_
      show Steps p.tables e below (T515.setTop (mkF m 186 #[.val (.int p0), .val (.int p1), .val (.int p2), .val (.int p3), .val (.int p4), .val (.int p5), .val (.int (4 : Int32)), .val (.ref b453), .val (.int p4), .val (.int v472), .val (.int v475), .val (.ref b478), .val (.int (1 : Int32)), .val (.ref b502), .unset] [(.ref b478)])) _
      exact k
    obtain ⟨cq527, kq527, q527a, q527b, q527c⟩ := isOf hZ e515 Ef517
    obtain ⟨_, _, ⟨T527, L527, k527, n527⟩, -, X527, ⟨Lc527, hQ527, l527, y527, z527⟩, st527⟩ := X515.virtualBack hx (y := (⟨"com/example/timely_exodus/timelyexodus/plan/Vehicle", "getExitCell", "()I"⟩ : MethodName)) (z := (⟨"com/example/timely_exodus/timelyexodus/plan/Vehicle", "getExitCell", "()I"⟩ : MethodName)) hown (mvT hZ (hw _ (List.mem_of_getElem? (i := 26) rfl))) (mvT hZ (hw _ (List.mem_of_getElem? (i := 27) rfl))) (notFace_of_selects (args := #[]) (mvT hZ (hw _ (List.mem_of_getElem? (i := 29) rfl)))) (mvT hZ (hw _ (List.mem_of_getElem? (i := 29) rfl))) (mvT hZ (hw _ (List.mem_of_getElem? (i := 28) rfl))) (by decide) (backOf (W := 0) (rm3_n4 l Z ar0 hw [] b478 b483 kb483 p1 p2 p3 p4 h515 n0 Z515 Ff520 Vf521) hZ (hw _ (List.mem_of_getElem? (i := 30) rfl)) (hw _ (List.mem_of_getElem? (i := 4) rfl)) (by decide) (by decide)) q527a q527c (g := (mkF m 186 #[.val (.int p0), .val (.int p1), .val (.int p2), .val (.int p3), .val (.int p4), .val (.int p5), .val (.int (4 : Int32)), .val (.ref b453), .val (.int p4), .val (.int v472), .val (.int v475), .val (.ref b478), .val (.int (1 : Int32)), .val (.ref b502), .unset] [(.ref b478)])) rfl (by rw [hml]; rfl) (Steps.refl _) (argsL := []) (rest := []) (lenOf pd_1 rfl) rfl (by show 2 * 0 + _ ≤ _; exact Nat.le_of_eq rfl) (hb hby at_186) (fun _ _ => ⟨rfl, e515, (by decide : 4 + 0 ≤ _), (by decide : 15 + 0 ≤ _)⟩)
    dsimp only [Pt.U, Pt.locs, Pt.cells, Pt.slots] at X527 l527 y527 z527 st527 hQ527
    subst l527 y527 z527
    obtain ⟨rfl, N527q, e527⟩ := hQ527
    have N527 := Fr.app N515 N527q
    have pre528 : ∀ t, Steps p.tables e below (T527.setTop (mkF m 189 #[.val (.int p0), .val (.int p1), .val (.int p2), .val (.int p3), .val (.int p4), .val (.int p5), .val (.int (4 : Int32)), .val (.ref b453), .val (.int p4), .val (.int v472), .val (.int v475), .val (.ref b478), .val (.int (1 : Int32)), .val (.ref b502), .unset] [(.int p4)])) t → Steps p.tables e below (s₁.setTop (entryFrame m #[(.int p0), (.int p1), (.int p2), (.int p3), (.int p4), (.int p5)] maxLocals)) t := fun t k => pre526 t (st527.trans k)
    obtain ⟨fs, hr, hrun, hended, hW, hsame⟩ := X527.leave (v := some (.int (1 : Int32))) (fun h => by rw [Bd.returns] at h; cases h)
    refine ⟨_, _, pre528 _ ?_, hrun, hended, _, _, rfl, ?_, ⟨_, rfl⟩, hW, hsame.mono (by decide) (by decide)⟩
    · show Steps p.tables e below (T527.setTop (mkF m 189 #[.val (.int p0), .val (.int p1), .val (.int p2), .val (.int p3), .val (.int p4), .val (.int p5), .val (.int (4 : Int32)), .val (.ref b453), .val (.int p4), .val (.int v472), .val (.int v475), .val (.ref b478), .val (.int (1 : Int32)), .val (.ref b502), .unset] [(.int p4)])) _
      refine XS.iload X527.here hx rfl (hb hby at_189) rfl ?_
      show Steps p.tables e below (T527.setTop (mkF m 191 #[.val (.int p0), .val (.int p1), .val (.int p2), .val (.int p3), .val (.int p4), .val (.int p5), .val (.int (4 : Int32)), .val (.ref b453), .val (.int p4), .val (.int v472), .val (.int v475), .val (.ref b478), .val (.int (1 : Int32)), .val (.ref b502), .unset] [(.int p4), (.int p4)])) _
      show Steps p.tables e below (T527.setTop (mkF m 191 #[.val (.int p0), .val (.int p1), .val (.int p2), .val (.int p3), .val (.int p4), .val (.int p5), .val (.int (4 : Int32)), .val (.ref b453), .val (.int p4), .val (.int v472), .val (.int v475), .val (.ref b478), .val (.int (1 : Int32)), .val (.ref b502), .unset] [(.int p4), (.int p4)])) _
      refine XS.icmpNo X527.here hx rfl (hb hby at_191) rfl (teq (rfl : p4 = p4)).2 ?_
      show Steps p.tables e below (T527.setTop (mkF m 194 #[.val (.int p0), .val (.int p1), .val (.int p2), .val (.int p3), .val (.int p4), .val (.int p5), .val (.int (4 : Int32)), .val (.ref b453), .val (.int p4), .val (.int v472), .val (.int v475), .val (.ref b478), .val (.int (1 : Int32)), .val (.ref b502), .unset] [])) _
      refine XS.iconst X527.here hx rfl (hb hby at_194) ?_
      show Steps p.tables e below (T527.setTop (mkF m 195 #[.val (.int p0), .val (.int p1), .val (.int p2), .val (.int p3), .val (.int p4), .val (.int p5), .val (.int (4 : Int32)), .val (.ref b453), .val (.int p4), .val (.int v472), .val (.int v475), .val (.ref b478), .val (.int (1 : Int32)), .val (.ref b502), .unset] [(.int (1 : Int32))])) _
      refine XS.goto X527.here hx rfl (pc0 := 195) (pc' := 199) rfl (hb hby at_195) (by decide) (by decide) ?_
      show Steps p.tables e below (T527.setTop (mkF m 199 #[.val (.int p0), .val (.int p1), .val (.int p2), .val (.int p3), .val (.int p4), .val (.int p5), .val (.int (4 : Int32)), .val (.ref b453), .val (.int p4), .val (.int v472), .val (.int v475), .val (.ref b478), .val (.int (1 : Int32)), .val (.ref b502), .unset] [(.int (1 : Int32))])) _
      refine XS.istore X527.here hx rfl (hb hby at_199) rfl (l' := #[.val (.int p0), .val (.int p1), .val (.int p2), .val (.int p3), .val (.int p4), .val (.int p5), .val (.int (4 : Int32)), .val (.ref b453), .val (.int p4), .val (.int v472), .val (.int v475), .val (.ref b478), .val (.int (1 : Int32)), .val (.ref b502), .val (.int (1 : Int32))]) rfl ?_
      show Steps p.tables e below (T527.setTop (mkF m 201 #[.val (.int p0), .val (.int p1), .val (.int p2), .val (.int p3), .val (.int p4), .val (.int p5), .val (.int (4 : Int32)), .val (.ref b453), .val (.int p4), .val (.int v472), .val (.int v475), .val (.ref b478), .val (.int (1 : Int32)), .val (.ref b502), .val (.int (1 : Int32))] [])) _
      refine XS.iload X527.here hx rfl (hb hby at_201) rfl ?_
      show Steps p.tables e below (T527.setTop (mkF m 203 #[.val (.int p0), .val (.int p1), .val (.int p2), .val (.int p3), .val (.int p4), .val (.int p5), .val (.int (4 : Int32)), .val (.ref b453), .val (.int p4), .val (.int v472), .val (.int v475), .val (.ref b478), .val (.int (1 : Int32)), .val (.ref b502), .val (.int (1 : Int32))] [(.int (1 : Int32))])) _
      show Steps p.tables e below (T527.setTop (mkF m 203 #[.val (.int p0), .val (.int p1), .val (.int p2), .val (.int p3), .val (.int p4), .val (.int p5), .val (.int (4 : Int32)), .val (.ref b453), .val (.int p4), .val (.int v472), .val (.int v475), .val (.ref b478), .val (.int (1 : Int32)), .val (.ref b502), .val (.int (1 : Int32))] [(.int (1 : Int32))])) _
      refine XS.ifNo X527.here hx rfl (hb hby at_203) rfl ((if0 _ _).trans (feq (by decide : ¬ (1 : Int32) = (0 : Int32))).1) ?_
      show Steps p.tables e below (T527.setTop (mkF m 206 #[.val (.int p0), .val (.int p1), .val (.int p2), .val (.int p3), .val (.int p4), .val (.int p5), .val (.int (4 : Int32)), .val (.ref b453), .val (.int p4), .val (.int v472), .val (.int v475), .val (.ref b478), .val (.int (1 : Int32)), .val (.ref b502), .val (.int (1 : Int32))] [])) _
      refine XS.iload X527.here hx rfl (hb hby at_206) rfl ?_
      show Steps p.tables e below (T527.setTop (mkF m 208 #[.val (.int p0), .val (.int p1), .val (.int p2), .val (.int p3), .val (.int p4), .val (.int p5), .val (.int (4 : Int32)), .val (.ref b453), .val (.int p4), .val (.int v472), .val (.int v475), .val (.ref b478), .val (.int (1 : Int32)), .val (.ref b502), .val (.int (1 : Int32))] [(.int (1 : Int32))])) _
      show Steps p.tables e below (T527.setTop (mkF m 208 #[.val (.int p0), .val (.int p1), .val (.int p2), .val (.int p3), .val (.int p4), .val (.int p5), .val (.int (4 : Int32)), .val (.ref b453), .val (.int p4), .val (.int v472), .val (.int v475), .val (.ref b478), .val (.int (1 : Int32)), .val (.ref b502), .val (.int (1 : Int32))] [(.int (1 : Int32))])) _
      refine XS.ifNo X527.here hx rfl (hb hby at_208) rfl ((if0 _ _).trans (feq (by decide : ¬ (1 : Int32) = (0 : Int32))).1) ?_
      show Steps p.tables e below (T527.setTop (mkF m 211 #[.val (.int p0), .val (.int p1), .val (.int p2), .val (.int p3), .val (.int p4), .val (.int p5), .val (.int (4 : Int32)), .val (.ref b453), .val (.int p4), .val (.int v472), .val (.int v475), .val (.ref b478), .val (.int (1 : Int32)), .val (.ref b502), .val (.int (1 : Int32))] [])) _
      refine XS.iconst X527.here hx rfl (hb hby at_211) ?_
      show Steps p.tables e below (T527.setTop (mkF m 212 #[.val (.int p0), .val (.int p1), .val (.int p2), .val (.int p3), .val (.int p4), .val (.int p5), .val (.int (4 : Int32)), .val (.ref b453), .val (.int p4), .val (.int v472), .val (.int v475), .val (.ref b478), .val (.int (1 : Int32)), .val (.ref b502), .val (.int (1 : Int32))] [(.int (1 : Int32))])) _
      refine XS.goto X527.here hx rfl (pc0 := 212) (pc' := 216) rfl (hb hby at_212) (by decide) (by decide) ?_
      show Steps p.tables e below (T527.setTop (mkF m 216 #[.val (.int p0), .val (.int p1), .val (.int p2), .val (.int p3), .val (.int p4), .val (.int p5), .val (.int (4 : Int32)), .val (.ref b453), .val (.int p4), .val (.int v472), .val (.int v475), .val (.ref b478), .val (.int (1 : Int32)), .val (.ref b502), .val (.int (1 : Int32))] [(.int (1 : Int32))])) _
      exact retN X527 hx (t := .boolean) Bd.returns (by simp) (hb hby at_216) hr
    · show Q0 Z p0 p1 p2 p3 p4 p5 h0 n0 _ T527.heap _
      rw [e527]
      exact ⟨rfl, N527⟩
set_option maxRecDepth 65536 in
set_option maxHeartbeats 40000000 in
theorem comes_1 {Post : Tables → Env → Array Value → State → Outcome → State → Prop} (hpost : ∀ tb e args s v u, (limb_1_1.after args s (.returned v) u = true ∧ limb_1_2.after args s (.returned v) u = true ∧ True) → FrameEnd s (.returned v) u (Jvm.fieldLocs frame_1_writes args s ++ Jvm.arrayLocs frame_1_arrays args s ++ Jvm.staticLocs frame_1_statics s) 16 128 → Post tb e args s (.returned v) u) :
    ArmFor flags0 classFile x code maxLocals ret World_1 tables_1 room_1 Calls_1 rest_1 Pre_1 Post := by
  intro l hfl _ _ p e ha hc hk s m args below hf hA hF happ hP
  obtain ⟨hcalls, hrest, hpre⟩ := hP
  obtain ⟨-, -, -, hnamed, -, -, -, hat⟩ := (Spec.applies_iff hf).mp happ
  obtain ⟨hg, hn⟩ := and_e (Cond.before_iff.mp (show (Jvm.Cond.and given_1 narrow_1).before args s = true from hpre))
  obtain ⟨hcount, hg0⟩ := and_e hg
  obtain ⟨ha0, hg1⟩ := and_e hg0
  obtain ⟨ha1, hg2⟩ := and_e hg1
  obtain ⟨ha2, hg3⟩ := and_e hg2
  obtain ⟨ha3, hg4⟩ := and_e hg3
  obtain ⟨ha4, hg5⟩ := and_e hg4
  have ha5 := hg5
  obtain ⟨w0, w1, w2, w3, w4, w5, rfl⟩ : ∃ w0 w1 w2 w3 w4 w5 : Value, args = #[w0, w1, w2, w3, w4, w5] := by
    have hs : args.size = 6 := by simpa [Cond.value, given_1] using hcount
    obtain ⟨L⟩ := args
    match L, hs with
    | [w0, w1, w2, w3, w4, w5], _ => exact ⟨w0, w1, w2, w3, w4, w5, rfl⟩
  have hw := fun d (hd : d ∈ tables_1) => atoms_spec (ws := Jvm.Cond.code x code maxLocals ret :: tables_1) hat d (List.mem_cons_of_mem _ hd)
  have hfit : Fit s := fun {y c} hc i hi => by
    obtain ⟨ha, rfl⟩ := Array.getElem?_eq_some_iff.mp hc
    have q := List.all_eq_true.mp ((Array.all_eq_true_iff_forall_mem.mp hF) _ (Array.getElem_mem ha)) i (List.mem_range.mpr hi)
    simpa [Array.getElem?_eq_getElem hi] using q
  obtain ⟨i0, ei0⟩ := is_v ha0
  obtain rfl : w0 = (.int i0) := Option.some.inj ei0
  obtain ⟨i1, ei1⟩ := is_v ha1
  obtain rfl : w1 = (.int i1) := Option.some.inj ei1
  obtain ⟨i2, ei2⟩ := is_v ha2
  obtain rfl : w2 = (.int i2) := Option.some.inj ei2
  obtain ⟨i3, ei3⟩ := is_v ha3
  obtain rfl : w3 = (.int i3) := Option.some.inj ei3
  obtain ⟨i4, ei4⟩ := is_v ha4
  obtain rfl : w4 = (.int i4) := Option.some.inj ei4
  obtain ⟨i5, ei5⟩ := is_v ha5
  obtain rfl : w5 = (.int i5) := Option.some.inj ei5
  obtain ⟨n, o, h1, h2, h3, _, L, rfl, ⟨rfl, N⟩, hq⟩ := rm0 l s _ hw tables_1 i0 i1 i2 i3 i4 i5 s.heap s.heap.size (Nat.le_refl _) p e ha hc hk s m _ below hf ((Spec.applies_iff_loose hf).mp happ).1 ⟨rfl, State.Warmed39.refl s, rfl⟩ trivial
  refine ⟨n, _, h1, h2, h3, hpost _ _ _ _ _ _ ⟨Cond.after_iff.mpr rfl, Cond.after_iff.mpr (eq_i res_at (Term.int_eval (1)) rfl), trivial⟩ ⟨hq.1, hq.2.1, (hq.2.2.sift fun y hy => Or.inr (N y hy)).mono (by decide) (by decide)⟩⟩
theorem main_1_1 : Claimed_1_1 := comes_1 fun _ _ _ _ _ _ h hF => ⟨h.1, hF⟩
theorem main_1_2 : Claimed_1_2 := comes_1 fun _ _ _ _ _ _ h hF => ⟨h.2.1, hF⟩
end Jvm.Pilot.@@N@@
namespace Jvm.Pilot.@@N@@
open Jvm Jvm.ClassFile Sem Op Lib Jvm.Free Jvm.Stand Jvm.Pilot.@@N@@.Jvm.D
/-! MADE BY PROGRAM (witnessworld.py) out of the Statement's table words and the real class files: 9 classes; the members and pool entries that the words name. The judged class is class 1, her method 1. -/
namespace start1
open Jvm.ClassFile
def u (s : String) : CpInfo := .utf8 (stringToUtf16 s)
/-- a pool by its gaps: so many unusable entries, then the entry; so many at the end -/
def gap : Nat → List CpInfo → List CpInfo
  | 0, r => r
  | n + 1, r => .unusable :: gap n r
def poolList (es : List (Nat × CpInfo)) (last : Nat) : List CpInfo := es.foldr (fun e r => gap e.1 (e.2 :: r)) (gap last [])
def pool (es : List (Nat × CpInfo)) (last : Nat) : Array CpInfo := ⟨poolList es last⟩
def fileOf (pool : Array CpInfo) (this : Nat) (attrs : Array Attribute := #[]) (ms : Array MethodInfo := #[]) (fl : Nat := 33) (sup : Nat := 0) (ifs : Array Nat := #[]) (fds : Array FieldInfo := #[]) : ClassFile where
  minorVersion := 0
  majorVersion := 65
  constantPool := pool
  accessFlags := fl
  thisClass := this
  superClass := sup
  interfaces := ifs
  fields := fds
  methods := ms
  attributes := attrs
def plain (name : String) (sup : Option ClassId) : Class where
  name := name
  kind := .ordinary
  loader := none
  accessFlags := 33
  super := sup
  interfaces := #[]
  cf := none
  fields := #[]
  methods := #[]
  instanceTypes := #[]
  staticTypes := #[]
  resolved := #[]
  callSites := []
  init := .initialized
  statics := none
  mirror := none

def pool0 : Array CpInfo := pool [(5, u "<init>"), (0, u "()V"), (1, .class_ 10), (1, u "java/lang/Object"), (85, u "clone"), (0, u "()Ljava/lang/Object;")] 26

def k0c0 : Code := { maxStack := 0, maxLocals := 1, code := object_method_1_code, exceptionTable := #[], attributes := #[] }
def k0m0 : Method := { name := "<init>", desc := "()V", sig := { parameters := [], returnType := none }, accessFlags := 1, code := some k0c0 }
def k0m1 : Method := { name := "clone", desc := "()Ljava/lang/Object;", sig := { parameters := [], returnType := some (.object "java/lang/Object") }, accessFlags := 260, code := none }
/-- java/lang/Object -/
def k0 : Class := { plain "java/lang/Object" none with
  accessFlags := 33
  interfaces := #[]
  cf := some (fileOf pool0 8 #[] #[{ accessFlags := 1, nameIndex := 5, descriptorIndex := 6, attributes := #[] }, { accessFlags := 260, nameIndex := 96, descriptorIndex := 97, attributes := #[] }] 33 0 #[] #[])
  fields := #[]
  methods := #[k0m0, k0m1]
  instanceTypes := #[]
  staticTypes := #[]
  resolved := Array.replicate 124 none
  statics := none }

def pool1 : Array CpInfo := pool [(2, .class_ 4), (1, u "java/lang/Object"), (0, u "<init>"), (0, u "()V"), (0, .integer 65535), (0, .class_ 9), (0, u "com/example/timely_exodus/timelyexodus/plan/Vehicle"), (0, .methodref 8 11), (0, .nameAndType 5 12), (0, u "(II[I)V"), (0, .methodref 8 14), (0, .nameAndType 15 16), (0, u "getExitCell"), (0, u "()I"), (0, .methodref 8 18), (0, .nameAndType 19 20), (0, u "getRoute"), (0, u "()[I"), (0, .class_ 22), (0, u "com/example/timely_exodus/timelyexodus/plan/VehicleGetExitCellPinLaw"), (2, u "law"), (0, u "(IIIIII)Z")] 5

def k1m0 : Method := { name := "<init>", desc := "()V", sig := { parameters := [], returnType := none }, accessFlags := 1, code := none }
def k1c1 : Code := { maxStack := 5, maxLocals := 15, code := code, exceptionTable := #[], attributes := #[] }
def k1m1 : Method := { name := "law", desc := "(IIIIII)Z", sig := { parameters := [.int, .int, .int, .int, .int, .int], returnType := some .boolean }, accessFlags := 9, code := some k1c1 }
/-- com/example/timely_exodus/timelyexodus/plan/VehicleGetExitCellPinLaw -/
def k1 : Class := { plain "com/example/timely_exodus/timelyexodus/plan/VehicleGetExitCellPinLaw" (some 0) with
  accessFlags := 49
  interfaces := #[]
  cf := some (fileOf pool1 21 #[] #[{ accessFlags := 1, nameIndex := 5, descriptorIndex := 6, attributes := #[] }, { accessFlags := 9, nameIndex := 25, descriptorIndex := 26, attributes := #[] }] 49 2 #[] #[])
  fields := #[]
  methods := #[k1m0, k1m1]
  instanceTypes := #[]
  staticTypes := #[]
  resolved := Array.replicate 32 none
  statics := none }

def pool2 : Array CpInfo := pool [(1, .methodref 2 3), (0, .class_ 4), (0, .nameAndType 5 6), (0, u "java/lang/Object"), (0, u "<init>"), (0, u "()V"), (7, .fieldref 15 16), (0, .class_ 17), (0, .nameAndType 18 19), (0, u "com/example/timely_exodus/timelyexodus/plan/Vehicle"), (0, u "number"), (0, u "I"), (0, .fieldref 15 21), (0, .nameAndType 22 19), (0, u "departurePeriod"), (0, .methodref 24 25), (0, .class_ 26), (0, .nameAndType 27 28), (0, u "[I"), (0, u "clone"), (0, u "()Ljava/lang/Object;"), (0, .fieldref 15 30), (0, .nameAndType 31 26), (0, u "route"), (0, u "(II[I)V"), (4, u "()I"), (2, u "getExitCell"), (0, u "getRoute"), (0, u "()[I")] 2

def k2c0 : Code := { maxStack := 3, maxLocals := 4, code := prog_38_method_1_code, exceptionTable := #[], attributes := #[] }
def k2m0 : Method := { name := "<init>", desc := "(II[I)V", sig := { parameters := [.int, .int, (.array .int)], returnType := none }, accessFlags := 1, code := some k2c0 }
def k2c1 : Code := { maxStack := 3, maxLocals := 1, code := prog_38_method_5_code, exceptionTable := #[], attributes := #[] }
def k2m1 : Method := { name := "getExitCell", desc := "()I", sig := { parameters := [], returnType := some .int }, accessFlags := 1, code := some k2c1 }
def k2c2 : Code := { maxStack := 1, maxLocals := 1, code := prog_38_method_6_code, exceptionTable := #[], attributes := #[] }
def k2m2 : Method := { name := "getRoute", desc := "()[I", sig := { parameters := [], returnType := some (.array .int) }, accessFlags := 1, code := some k2c2 }
/-- com/example/timely_exodus/timelyexodus/plan/Vehicle -/
def k2 : Class := { plain "com/example/timely_exodus/timelyexodus/plan/Vehicle" (some 0) with
  accessFlags := 49
  interfaces := #[]
  cf := some (fileOf pool2 15 #[] #[{ accessFlags := 1, nameIndex := 5, descriptorIndex := 32, attributes := #[] }, { accessFlags := 1, nameIndex := 40, descriptorIndex := 37, attributes := #[] }, { accessFlags := 1, nameIndex := 41, descriptorIndex := 42, attributes := #[] }] 49 2 #[] #[{ accessFlags := 18, nameIndex := 18, descriptorIndex := 19, attributes := #[] }, { accessFlags := 18, nameIndex := 22, descriptorIndex := 19, attributes := #[] }, { accessFlags := 18, nameIndex := 31, descriptorIndex := 26, attributes := #[] }])
  fields := #[{ name := "number", type := .int, accessFlags := 18, slot := 0, constantValue := 0 }, { name := "departurePeriod", type := .int, accessFlags := 18, slot := 1, constantValue := 0 }, { name := "route", type := (.array .int), accessFlags := 18, slot := 2, constantValue := 0 }]
  methods := #[k2m0, k2m1, k2m2]
  instanceTypes := #[.int, .int, (.array .int)]
  staticTypes := #[]
  resolved := Array.replicate 45 none
  statics := none }

def pool3 : Array CpInfo := pool [(1, .class_ 2), (0, u "java/lang/Cloneable"), (0, .class_ 4), (0, u "java/lang/Object")] 2

/-- java/lang/Cloneable -/
def k3 : Class := { plain "java/lang/Cloneable" (some 0) with
  accessFlags := 1537
  interfaces := #[]
  cf := some (fileOf pool3 1 #[] #[] 1537 3 #[] #[])
  fields := #[]
  methods := #[]
  instanceTypes := #[]
  staticTypes := #[]
  resolved := Array.replicate 7 none
  statics := none }

def pool4 : Array CpInfo := pool [(1, u "java/io/Serializable"), (0, .class_ 1), (0, u "java/lang/Object"), (0, .class_ 3)] 3

/-- java/io/Serializable -/
def k4 : Class := { plain "java/io/Serializable" (some 0) with
  accessFlags := 1537
  interfaces := #[]
  cf := some (fileOf pool4 2 #[] #[] 1537 4 #[] #[])
  fields := #[]
  methods := #[]
  instanceTypes := #[]
  staticTypes := #[]
  resolved := Array.replicate 8 none
  statics := none }

/-- the primitive byte -/
def k5 : Class := { plain "byte" none with kind := .primitive 'B', accessFlags := 0x411 }
/-- [B -/
def k6 : Class := { plain "[B" (some 0) with kind := .array 5 .byte, interfaces := #[3, 4], accessFlags := 1041 }

/-- the primitive int -/
def k7 : Class := { plain "int" none with kind := .primitive 'I', accessFlags := 0x411 }
/-- [I -/
def k8 : Class := { plain "[I" (some 0) with kind := .array 7 .int, interfaces := #[3, 4], accessFlags := 1041 }

def heap : Heap := #[]
def classes : Array Class := #[k0, k1, k2, k3, k4, k5, k6, k7, k8]
def interned : List (Array UInt16 × Addr) := []
def slotsUsed : Nat := 0
def theMethod : MethodId := ⟨1, 1⟩
def args0 : Array Value := #[.int 5, .int 7, .int 5, .int 7, .int 3, .int 3]
def aboutOver (below : List Frame) : State where
  vm := { classes := classes, interned := interned.toArray }
  heap := heap
  slotsUsed := slotsUsed
  threads := #[{ frames := .invoking theMethod args0 :: below }]
def below0 : List Frame := [.native { method := ⟨0, 0⟩, args := #[] }]
def about1 : State := aboutOver below0
def p0 : Program := .bare "" "" ""
def e0 : Env := launch0.env 0 0 0
theorem w_frames : about1.frames = Frame.invoking theMethod args0 :: below0 := rfl
set_option maxRecDepth 65536 in
theorem w_args : argsFit about1.vm theMethod args0 = true := by decide +kernel
set_option maxRecDepth 65536 in
theorem w_heap : heapFits about1 = true := by decide +kernel
set_option maxRecDepth 65536 in
theorem w_runnable : about1.curStatus? = some .runnable := by decide +kernel
set_option maxRecDepth 65536 in
theorem w_alone : about1.alone = true := by decide +kernel
set_option maxRecDepth 65536 in
theorem w_named : about1.methodNamed? x = some theMethod := by decide +kernel
set_option maxRecDepth 65536 in
theorem w_hears : about1.hears theMethod below0 = true := by decide +kernel
set_option maxRecDepth 65536 in
theorem w_ripe : about1.ripe theMethod args0 below0 = true := by decide +kernel
theorem w_running : about1.status = .running := rfl
set_option maxRecDepth 65536 in
theorem w_room : about1.hasRoom e0.platform room_1 = true :=
  launch0.hasRoom_least _ room_1 (by decide +kernel) (by decide +kernel) (by decide +kernel) (by decide +kernel) (by decide +kernel) (by decide +kernel)
theorem allAtoms_all (ts : List Jvm.Cond) (a : Array Jvm.Value) (st : Jvm.State) : (allAtoms ts).before a st = ts.all (fun c => c.before a st) := by
  induction ts with
  | nil => rfl
  | cons c t ih =>
    show (Jvm.Cond.and c (allAtoms t)).before a st = _
    rw [Jvm.Cond.before_and, ih, List.all_cons]
def words1 : List Jvm.Cond := Jvm.Cond.code x code maxLocals ret :: tables_1
/-- a 'code' word, met by the world's own term for the bytes: nothing is compared byte by byte -/
theorem code_word {y : MethodName} {bytes : ByteArray} {mx : Nat} {rt : Option FieldType} {a : Array Value} {s : State} {m : MethodId} {meth : Method} {c : Code} (h1 : s.methodNamed? y = some m) (h2 : s.vm.method? m = some meth) (h3 : meth.code = some c) (h4 : c.code = bytes)
    (h5 : (c.maxLocals == mx && c.exceptionTable.isEmpty && decide (c.maxStack ≤ mostOperands) && decide (meth.sig.returnType = rt) && !meth.locks && decide (parseMethodDescriptor y.desc = some meth.sig)) = true) : (Jvm.Cond.code y bytes mx rt).before a s = true := by
  simp only [Bool.and_eq_true, beq_iff_eq, Bool.not_eq_true', decide_eq_true_eq] at h5
  obtain ⟨⟨⟨⟨⟨g1, g2⟩, g3⟩, g4⟩, g5⟩, g6⟩ := h5
  simp [Cond.before, Cond.holds, Cond.value, h1, h2, h3, h4, g1, g2, g3, g4, g5, g6]
def isCode : Jvm.Cond → Bool
  | .code _ _ _ _ => true
  | _ => false
theorem all_split {L : List Jvm.Cond} {P : Jvm.Cond → Bool} (h1 : L.all (fun c => isCode c || P c) = true) (h2 : ∀ c ∈ L.filter isCode, P c = true) : L.all P = true := by
  refine List.all_eq_true.mpr fun c hc => ?_
  have h := List.all_eq_true.mp h1 c hc
  rcases Bool.eq_false_or_eq_true (isCode c) with hi | hi
  · exact h2 c (List.mem_filter.mpr ⟨hc, hi⟩)
  · simpa [hi] using h
set_option maxRecDepth 65536 in
theorem w_c0 : (Jvm.Cond.code x code maxLocals ret).before args0 about1 = true := code_word (m := ⟨1, 1⟩) (meth := k1m1) (c := k1c1) (by decide +kernel) rfl rfl rfl (by decide +kernel)
set_option maxRecDepth 65536 in
theorem w_c1 : (Jvm.Cond.code ({ cls := "com/example/timely_exodus/timelyexodus/plan/Vehicle", name := "<init>", desc := "(II[I)V" } : Jvm.MethodName) prog_38_method_1_code (4 : Nat) (Option.none : Option Jvm.ClassFile.FieldType)).before args0 about1 = true := code_word (m := ⟨2, 0⟩) (meth := k2m0) (c := k2c0) (by decide +kernel) rfl rfl rfl (by decide +kernel)
set_option maxRecDepth 65536 in
theorem w_c2 : (Jvm.Cond.code ({ cls := "java/lang/Object", name := "<init>", desc := "()V" } : Jvm.MethodName) object_method_1_code (1 : Nat) (Option.none : Option Jvm.ClassFile.FieldType)).before args0 about1 = true := code_word (m := ⟨0, 0⟩) (meth := k0m0) (c := k0c0) (by decide +kernel) rfl rfl rfl (by decide +kernel)
set_option maxRecDepth 65536 in
theorem w_c3 : (Jvm.Cond.code ({ cls := "com/example/timely_exodus/timelyexodus/plan/Vehicle", name := "getExitCell", desc := "()I" } : Jvm.MethodName) prog_38_method_5_code (1 : Nat) (Option.some Jvm.ClassFile.FieldType.int)).before args0 about1 = true := code_word (m := ⟨2, 1⟩) (meth := k2m1) (c := k2c1) (by decide +kernel) rfl rfl rfl (by decide +kernel)
set_option maxRecDepth 65536 in
theorem w_c4 : (Jvm.Cond.code ({ cls := "com/example/timely_exodus/timelyexodus/plan/Vehicle", name := "getRoute", desc := "()[I" } : Jvm.MethodName) prog_38_method_6_code (1 : Nat) (Option.some (Jvm.ClassFile.FieldType.array Jvm.ClassFile.FieldType.int))).before args0 about1 = true := code_word (m := ⟨2, 2⟩) (meth := k2m2) (c := k2c2) (by decide +kernel) rfl rfl rfl (by decide +kernel)
def codes1 : List Jvm.Cond := [Jvm.Cond.code x code maxLocals ret, Jvm.Cond.code ({ cls := "com/example/timely_exodus/timelyexodus/plan/Vehicle", name := "<init>", desc := "(II[I)V" } : Jvm.MethodName) prog_38_method_1_code (4 : Nat) (Option.none : Option Jvm.ClassFile.FieldType), Jvm.Cond.code ({ cls := "java/lang/Object", name := "<init>", desc := "()V" } : Jvm.MethodName) object_method_1_code (1 : Nat) (Option.none : Option Jvm.ClassFile.FieldType), Jvm.Cond.code ({ cls := "com/example/timely_exodus/timelyexodus/plan/Vehicle", name := "getExitCell", desc := "()I" } : Jvm.MethodName) prog_38_method_5_code (1 : Nat) (Option.some Jvm.ClassFile.FieldType.int), Jvm.Cond.code ({ cls := "com/example/timely_exodus/timelyexodus/plan/Vehicle", name := "getRoute", desc := "()[I" } : Jvm.MethodName) prog_38_method_6_code (1 : Nat) (Option.some (Jvm.ClassFile.FieldType.array Jvm.ClassFile.FieldType.int))]
set_option maxRecDepth 65536 in
theorem codes_eq : words1.filter isCode = codes1 := rfl
theorem w_codes : ∀ c ∈ words1.filter isCode, c.before args0 about1 = true := by
  rw [codes_eq]
  intro c hc
  simp only [codes1, List.mem_cons, List.not_mem_nil, or_false] at hc
  rcases hc with rfl | rfl | rfl | rfl | rfl
  · exact w_c0
  · exact w_c1
  · exact w_c2
  · exact w_c3
  · exact w_c4
set_option maxRecDepth 65536 in
theorem w_t1 : (words1.take 24).all (fun c => isCode c || c.before args0 about1) = true := by decide +kernel
set_option maxRecDepth 65536 in
theorem w_t2 : (words1.drop 24).all (fun c => isCode c || c.before args0 about1) = true := by decide +kernel
theorem w_tables : (allAtoms (Jvm.Cond.code x code maxLocals ret :: tables_1)).before args0 about1 = true := by
  rw [allAtoms_all]
  show words1.all (fun c => c.before args0 about1) = true
  refine all_split ?_ w_codes
  rw [← List.take_append_drop 24 words1, List.all_append, w_t1, w_t2]
  rfl
set_option maxRecDepth 65536 in
theorem w_case : (Jvm.Cond.and given_1 narrow_1).before args0 about1 = true := by decide +kernel
theorem w_applies : (headSpec (Jvm.Cond.code x code maxLocals ret :: tables_1) room_1).applies x e0.platform about1 = true :=
  (Spec.applies_iff w_frames).mpr ⟨w_running, w_runnable, w_alone, w_named, w_hears, w_ripe, w_room, w_tables⟩
theorem atStart : AtStart classFile x code maxLocals ret World_1 tables_1 room_1 Calls_1 rest_1 Pre_1 launch0 p0 e0 about1 theMethod args0 below0 :=
  ⟨lists_1, trivial, launch0.admits_env _ _ _, launch0.least_env, fairChoices_fair.cas, fairChoices_fair.clock, w_frames, w_args, w_heap, w_applies, trivial, trivial, w_case⟩
end start1
theorem witness_1 : WitnessClaimed_1 := ⟨start1.p0, start1.e0, start1.about1, start1.theMethod, start1.args0, start1.below0, start1.atStart⟩
end Jvm.Pilot.@@N@@
