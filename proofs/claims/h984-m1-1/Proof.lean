import JvmDerived
import JvmDerived.Pilot.@@N@@Statement
import JvmDerived.Pilot.@@N@@Code
set_option linter.unusedVariables false
set_option linter.unusedSimpArgs false
@@BLOCK:NumsL.lean.txt@@
namespace Jvm.Pilot.@@N@@
open Jvm Jvm.ClassFile Sem Op Lib Jvm.Free Jvm.Stand Jvm.LawKit Jvm.RoadKit Bundle Jvm.Pilot.@@N@@.Jvm.D
theorem own_eqL {x y : Int64} (h : x = y) : lcmpW x y = 0 := by rw [lcW]; exact (lc_eq x y).2 h
theorem own_neL {x y : Int64} (h : ¬ x = y) : ¬ lcmpW x y = 0 := by rw [lcW]; exact fun q => h ((lc_eq x y).1 q)
theorem own_ltL {x y : Int64} (h : x < y) : lcmpW x y < 0 := by rw [lcW]; exact (lc_lt x y).2 h
theorem own_nltL {x y : Int64} (h : ¬ x < y) : ¬ lcmpW x y < 0 := by rw [lcW]; exact fun q => h ((lc_lt x y).1 q)
theorem own_gtL {x y : Int64} (h : y < x) : 0 < lcmpW x y := by rw [lcW]; exact (lc_gt x y).2 h
theorem own_ns_exa {Z : State} {h : Heap} {a : Addr} {C : String} (E : Exa Z h a C) : ∀ cell : Cell, h[a]? = some cell → cell.vm.isStatics = false := by
  obtain ⟨c, k, h1, -, -, h4, -⟩ := E
  intro cell hc; cases h1.symm.trans hc; exact h4
theorem own_ns1 {h : Heap} {a : Addr} (p : ∀ cell : Cell, h[a]? = some cell → cell.vm.isStatics = false) : ∀ x ∈ [a], ∀ cell : Cell, h[x]? = some cell → cell.vm.isStatics = false := by
  intro x hx; cases List.mem_singleton.mp hx; exact p
theorem own_ns2 {h : Heap} {a b : Addr} (p : ∀ cell : Cell, h[a]? = some cell → cell.vm.isStatics = false) (q : ∀ cell : Cell, h[b]? = some cell → cell.vm.isStatics = false) : ∀ x ∈ [a, b], ∀ cell : Cell, h[x]? = some cell → cell.vm.isStatics = false := by
  intro x hx; simp only [List.mem_cons, List.not_mem_nil, or_false] at hx; rcases hx with rfl | rfl <;> first | exact p | exact q
theorem own_sta_keep {Z : State} {h h' : Heap} {ws : List Addr} {C n d : String} {v : Value} (F : Sta Z h C n d v) (K : Keep h h' ws) (hn : ∀ x ∈ ws, ∀ cell : Cell, h[x]? = some cell → cell.vm.isStatics = false) : Sta Z h' C n d v := by
  obtain ⟨cf, i, k, f, st, cell, h1, h2, h3, h4, h5, h6, r⟩ := F
  exact ⟨cf, i, k, f, st, cell, h1, h2, h3, h4, K.2.1 _ _ h5 (fun q => by rw [hn _ q _ h5] at h6; cases h6), h6, r⟩
theorem own_sta_keep0 {Z : State} {h h' : Heap} {C n d : String} {v : Value} (F : Sta Z h C n d v) (K : Keep h h' []) : Sta Z h' C n d v := by
  obtain ⟨cf, i, k, f, st, cell, h1, h2, h3, h4, h5, r⟩ := F
  exact ⟨cf, i, k, f, st, cell, h1, h2, h3, h4, K.2.1 _ _ h5 List.not_mem_nil, r⟩
theorem own_ngtL {x y : Int64} (h : ¬ y < x) : ¬ 0 < lcmpW x y := by rw [lcW]; exact fun q => h ((lc_gt x y).1 q)
def own_Cache (Z : State) (h : Heap) (s_cache : Addr) : Prop := Sta Z h "java/lang/Long$LongCache" "cache" "[Ljava/lang/Long;" (.ref s_cache) ∧ ∃ cl : Cell, Arr Z h s_cache cl (.object "java/lang/Long") ∧ cl.slots.size = (256 : Int32).toNatClampNeg ∧ ∀ j : Int32, ¬ j < 0 → j < 256 → ∃ b : Addr, cl.slots[j.toNatClampNeg]? = some (.ref b) ∧ Exa Z h b "java/lang/Long"
theorem own_Cache_keep {Z : State} {h h' : Heap} {a : Addr} (C : own_Cache Z h a) (K : Keep h h' []) : own_Cache Z h' a := by
  obtain ⟨S, cl, A, s, f⟩ := C
  refine ⟨own_sta_keep0 S K, cl, ⟨K.2.1 _ _ A.1 List.not_mem_nil, A.2⟩, s, fun j h1 h2 => ?_⟩
  obtain ⟨b, e, E⟩ := f j h1 h2
  exact ⟨b, e, E.keep K⟩
theorem own_cidx {q : Int64} (h1 : ¬ q < (-128 : Int64)) (h2 : ¬ (127 : Int64) < q) : ¬ (q.toInt32 + 128) < 0 ∧ (q.toInt32 + 128) < 256 := by
  have e1 : (-128 : Int64).toInt = -128 := by decide
  have e2 : (127 : Int64).toInt = 127 := by decide
  have e3 : (128 : Int32).toInt = 128 := by decide
  have e4 : (0 : Int32).toInt = 0 := by decide
  have e5 : (256 : Int32).toInt = 256 := by decide
  rw [Int64.lt_iff_toInt_lt, e1] at h1
  rw [Int64.lt_iff_toInt_lt, e2] at h2
  have a : q.toInt32.toInt = q.toInt := Jvm.Kit.i32_of_i64 (by omega) (by omega)
  have b : (q.toInt32 + 128).toInt = q.toInt + 128 := by rw [Jvm.Kit.i32_add (by rw [a, e3]; omega) (by rw [a, e3]; omega), a, e3]
  rw [Int32.lt_iff_toInt_lt, Int32.lt_iff_toInt_lt, b, e4, e5]
  omega
theorem pn_0 : plainName "java/lang/Number" = true := by first | (simp [plainName, overriddenIn]; done) | decide +kernel
theorem d6_0 : decode jdk_18_method_1_code 0 = .ok (.aload_n 0, 1) := by decide +kernel
theorem d6_1 : decode jdk_18_method_1_code 1 = .ok (.invokespecial 1, 3) := by decide +kernel
theorem d6_4 : decode jdk_18_method_1_code 4 = .ok (.return_, 1) := by decide +kernel
theorem ef_6 (m : MethodId) (x0 : Addr) : entryFrame m #[(.ref x0)] 1 = mkF m 0 #[.val (.ref x0)] [] := by first | (simp [entryFrame, mkF, argsToLocals, Value.category]; done) | rfl
def Q6 (Z : State) (a0 : Addr) (h0 : Heap) (n0 : Nat) (v : Option Value) (h : Heap) (L : List Loc) : Prop := v = none ∧ Fr n0 L ∧ h = h0
set_option maxRecDepth 65536 in
set_option maxHeartbeats 40000000 in
theorem rm6 (l : Launch) (Z : State) (ar0 : Array Value) (hw : ∀ d ∈ tables_1, d.before ar0 Z = true) (ws : List Jvm.Cond) (a0 : Addr) (h0 : Heap) (n0 : Nat) (Z0 : n0 ≤ h0.size) :
    MetFree l (⟨"java/lang/Number", "<init>", "()V"⟩ : MethodName) (head1 (Jvm.Cond.code (⟨"java/lang/Number", "<init>", "()V"⟩ : MethodName) jdk_18_method_1_code 1 none :: ws) ({ frames := 1, cells := 0, slots := 0, locals := 12 } : Room)) (fun a U => a = #[(.ref a0)] ∧ Z.Warmed39 U.vm ∧ U.heap = h0) (fun _ _ _ _ _ => True) (fun _ U o U' => ∃ v L, o = .returned v ∧ Q6 Z a0 h0 n0 v U'.heap L ∧ FrameEnd U o U' L ({ frames := 1, cells := 0, slots := 0, locals := 12 } : Room).cells ({ frames := 1, cells := 0, slots := 0, locals := 12 } : Room).slots) := by
  refine MetFree.of_bodySF (plainFor_of_name pn_0) hisR ?_
  intro p e s m args below meth c s₁ Bd hml0 hP hK
  obtain ⟨rfl, hZ, hh⟩ := hP
  have hx := Bd.exec
  have hby := Bd.bytes
  have hml : c.maxLocals = 1 := hml0
  have hown : s.vm.findClass "java/lang/Number" = some m.cls := findClass_of_methodNamed Bd.named
  have hnm := (name_of_methodNamed Bd.named Bd.method).1
  have X0 : Stand p l e ({ frames := 1, cells := 0, slots := 0, locals := 12 } : Room) s m #[(.ref a0)] below meth c s₁ [] 0 0 := Stand.of_body Bd
  have e0 : s₁.heap = h0 := by rw [← hh, Bd.state]; rfl
  have N0 := Fr.nil n0
  have pre0 : ∀ t, Steps p.tables e below (s₁.setTop (mkF m 0 #[.val (.ref a0)] [])) t → Steps p.tables e below (s₁.setTop (entryFrame m #[(.ref a0)] 1)) t := fun t k => castTop (ef_6 m a0) k
  have pre1 : ∀ t, Steps p.tables e below (s₁.setTop (mkF m 1 #[.val (.ref a0)] [(.ref a0)])) t → Steps p.tables e below (s₁.setTop (entryFrame m #[(.ref a0)] 1)) t := by
    intro t k
    refine pre0 t ?_
    show Steps p.tables e below (s₁.setTop (mkF m 0 #[.val (.ref a0)] [])) _
    refine XS.aloadN X0.here hx rfl (hb hby d6_0) rfl rfl ?_
    show Steps p.tables e below (s₁.setTop (mkF m 1 #[.val (.ref a0)] [(.ref a0)])) _
    exact k
  obtain ⟨T2, X2, e2, st2⟩ := initO X0 hx hZ hown (hw _ (List.mem_of_getElem? (i := 43) rfl)) (hw _ (List.mem_of_getElem? (i := 7) rfl)) (hw _ (List.mem_of_getElem? (i := 8) rfl)) e0 (g := (mkF m 1 #[.val (.ref a0)] [(.ref a0)])) rfl (by rw [hml]; rfl) rfl (hb hby d6_1) (by decide) (W := 0) (by show 2 * 0 + _ ≤ _; exact Nat.le_of_eq rfl) (by decide)
  have pre3 : ∀ t, Steps p.tables e below (T2.setTop (mkF m 4 #[.val (.ref a0)] [])) t → Steps p.tables e below (s₁.setTop (entryFrame m #[(.ref a0)] 1)) t := fun t k => pre1 t (st2 t k)
  obtain ⟨fs, hr, hrun, hended, hW, hsame⟩ := X2.leave (v := none) (fun _ => rfl)
  refine ⟨_, _, pre3 _ ?_, hrun, hended, _, _, rfl, ?_, ⟨_, rfl⟩, hW, hsame.mono (by decide) (by decide)⟩
  · show Steps p.tables e below (T2.setTop (mkF m 4 #[.val (.ref a0)] [])) _
    exact X2.returnOut hx Bd.returns (hb hby d6_4) hr
  · show Q6 Z a0 h0 n0 _ T2.heap _
    rw [e2]
    exact ⟨rfl, N0, rfl⟩
theorem pd_0 : parseMethodDescriptor "()V" = some ⟨[], none⟩ := by decide +kernel
theorem pn_1 : plainName "java/lang/Long" = true := by first | (simp [plainName, overriddenIn]; done) | decide +kernel
theorem d5_0 : decode jdk_35_method_26_code 0 = .ok (.aload_n 0, 1) := by decide +kernel
theorem d5_1 : decode jdk_35_method_26_code 1 = .ok (.invokespecial 270, 3) := by decide +kernel
theorem d5_4 : decode jdk_35_method_26_code 4 = .ok (.aload_n 0, 1) := by decide +kernel
theorem d5_5 : decode jdk_35_method_26_code 5 = .ok (.lload_n 1, 1) := by decide +kernel
theorem d5_6 : decode jdk_35_method_26_code 6 = .ok (.putfield 273, 3) := by decide +kernel
theorem d5_9 : decode jdk_35_method_26_code 9 = .ok (.return_, 1) := by decide +kernel
theorem ef_5 (m : MethodId) (x0 : Addr) (x1 : Int64) : entryFrame m #[(.ref x0), (.long x1)] 3 = mkF m 0 #[.val (.ref x0), .val (.long x1), .second] [] := by first | (simp [entryFrame, mkF, argsToLocals, Value.category]; done) | rfl
def Q5 (Z : State) (a0 : Addr) (q1 : Int64) (w_value_a0 : Int64) (h0 : Heap) (n0 : Nat) (v : Option Value) (h : Heap) (L : List Loc) : Prop := v = none ∧ Fr n0 L ∧ Keep h0 h [a0] ∧ Exa Z h a0 "java/lang/Long" ∧ Fld Z h a0 "java/lang/Long" "value" "J" (.long q1)
set_option maxRecDepth 65536 in
set_option maxHeartbeats 40000000 in
theorem rm5 (l : Launch) (Z : State) (ar0 : Array Value) (hw : ∀ d ∈ tables_1, d.before ar0 Z = true) (ws : List Jvm.Cond) (a0 : Addr) (q1 : Int64) (w_value_a0 : Int64) (h0 : Heap) (n0 : Nat) (Z0 : n0 ≤ h0.size) (E_a0 : Exa Z h0 a0 "java/lang/Long") (F_value_a0 : Fld Z h0 a0 "java/lang/Long" "value" "J" (.long w_value_a0)) (g_a0 : n0 ≤ a0) :
    MetFree l (⟨"java/lang/Long", "<init>", "(J)V"⟩ : MethodName) (head1 (Jvm.Cond.code (⟨"java/lang/Long", "<init>", "(J)V"⟩ : MethodName) jdk_35_method_26_code 3 none :: ws) ({ frames := 2, cells := 0, slots := 0, locals := 24 } : Room)) (fun a U => a = #[(.ref a0), (.long q1)] ∧ Z.Warmed39 U.vm ∧ U.heap = h0) (fun _ _ _ _ _ => True) (fun _ U o U' => ∃ v L, o = .returned v ∧ Q5 Z a0 q1 w_value_a0 h0 n0 v U'.heap L ∧ FrameEnd U o U' L ({ frames := 2, cells := 0, slots := 0, locals := 24 } : Room).cells ({ frames := 2, cells := 0, slots := 0, locals := 24 } : Room).slots) := by
  refine MetFree.of_bodySF (plainFor_of_name pn_1) hisR ?_
  intro p e s m args below meth c s₁ Bd hml0 hP hK
  obtain ⟨rfl, hZ, hh⟩ := hP
  have hx := Bd.exec
  have hby := Bd.bytes
  have hml : c.maxLocals = 3 := hml0
  have hown : s.vm.findClass "java/lang/Long" = some m.cls := findClass_of_methodNamed Bd.named
  have hnm := (name_of_methodNamed Bd.named Bd.method).1
  have X0 : Stand p l e ({ frames := 2, cells := 0, slots := 0, locals := 24 } : Room) s m #[(.ref a0), (.long q1)] below meth c s₁ [] 0 0 := Stand.of_body Bd
  have e0 : s₁.heap = h0 := by rw [← hh, Bd.state]; rfl
  have N0 := Fr.nil n0
  have pre0 : ∀ t, Steps p.tables e below (s₁.setTop (mkF m 0 #[.val (.ref a0), .val (.long q1), .second] [])) t → Steps p.tables e below (s₁.setTop (entryFrame m #[(.ref a0), (.long q1)] 3)) t := fun t k => castTop (ef_5 m a0 q1) k
  have pre4 : ∀ t, Steps p.tables e below (s₁.setTop (mkF m 1 #[.val (.ref a0), .val (.long q1), .second] [(.ref a0)])) t → Steps p.tables e below (s₁.setTop (entryFrame m #[(.ref a0), (.long q1)] 3)) t := by
    intro t k
    refine pre0 t ?_
    show Steps p.tables e below (s₁.setTop (mkF m 0 #[.val (.ref a0), .val (.long q1), .second] [])) _
    refine XS.aloadN X0.here hx rfl (hb hby d5_0) rfl rfl ?_
    show Steps p.tables e below (s₁.setTop (mkF m 1 #[.val (.ref a0), .val (.long q1), .second] [(.ref a0)])) _
    exact k
  obtain ⟨_, _, ⟨T5, L5, k5, n5⟩, -, X5, ⟨Lc5, hQ5, l5, y5, z5⟩, st5⟩ := X0.specialBack hx (y := (⟨"java/lang/Number", "<init>", "()V"⟩ : MethodName)) rfl hown (mvT hZ (hw _ (List.mem_of_getElem? (i := 37) rfl))) (mvT hZ (hw _ (List.mem_of_getElem? (i := 38) rfl))) (mvT hZ (hw _ (List.mem_of_getElem? (i := 42) rfl))) (by decide) (backOf (W := 0) (rm6 l Z ar0 hw [] a0 h0 n0 Z0) hZ (hw _ (List.mem_of_getElem? (i := 42) rfl)) (hw _ (List.mem_of_getElem? (i := 41) rfl)) (by decide) (by decide)) (g := (mkF m 1 #[.val (.ref a0), .val (.long q1), .second] [(.ref a0)])) rfl (by rw [hml]; rfl) (Steps.refl _) (a := a0) (argsL := []) (rest := []) (lenOf pd_0 rfl) rfl (by show 2 * 0 + _ ≤ _; exact Nat.le_of_eq rfl) (hb hby d5_1) (fun _ _ => ⟨rfl, e0, (by decide : 0 + 0 ≤ _), (by decide : 0 + 0 ≤ _)⟩)
  dsimp only [Pt.U, Pt.locs, Pt.cells, Pt.slots] at X5 l5 y5 z5 st5 hQ5
  subst l5 y5 z5
  obtain ⟨rfl, N5q, e5⟩ := hQ5
  have N5 := Fr.app N0 N5q
  have pre6 : ∀ t, Steps p.tables e below (T5.setTop (mkF m 4 #[.val (.ref a0), .val (.long q1), .second] [])) t → Steps p.tables e below (s₁.setTop (entryFrame m #[(.ref a0), (.long q1)] 3)) t := fun t k => pre4 t (st5.trans k)
  have pre7 : ∀ t, Steps p.tables e below (T5.setTop (mkF m 6 #[.val (.ref a0), .val (.long q1), .second] [(.long q1), (.ref a0)])) t → Steps p.tables e below (s₁.setTop (entryFrame m #[(.ref a0), (.long q1)] 3)) t := by
    intro t k
    refine pre6 t ?_
    show Steps p.tables e below (T5.setTop (mkF m 4 #[.val (.ref a0), .val (.long q1), .second] [])) _
    refine XS.aloadN X5.here hx rfl (hb hby d5_4) rfl rfl ?_
    show Steps p.tables e below (T5.setTop (mkF m 5 #[.val (.ref a0), .val (.long q1), .second] [(.ref a0)])) _
    refine XS.lloadN X5.here hx rfl (hb hby d5_5) rfl ?_
    show Steps p.tables e below (T5.setTop (mkF m 6 #[.val (.ref a0), .val (.long q1), .second] [(.long q1), (.ref a0)])) _
    exact k
  obtain ⟨T8, h8, X8, e8, W8, st8⟩ := putF X5 hx hZ hown (host := "") (Or.inl (hw _ (List.mem_of_getElem? (i := 44) rfl))) Via.refl e5 F_value_a0 E_a0 (Or.inr ⟨(hw _ (List.mem_of_getElem? (i := 45) rfl)), rfl, hnm⟩) (hw _ (List.mem_of_getElem? (i := 32) rfl)) (ty := .long) (by decide) rfl rfl (g := (mkF m 6 #[.val (.ref a0), .val (.long q1), .second] [(.long q1), (.ref a0)])) rfl rfl (hb hby d5_6)
  have Z8 : n0 ≤ h8.size := Nat.le_trans Z0 (Keep.of_wr W8).1
  have K8 : Keep h0 h8 [a0] := (Keep.refl h0 [a0]).wr W8 (Or.inl (List.mem_of_getElem? (i := 0) rfl))
  have N8 := Fr.snoc X8 N5 g_a0
  have Ef9 : Exa Z h8 a0 "java/lang/Long" := (E_a0).wr W8
  have Fw8 : Fld Z h8 a0 "java/lang/Long" "value" "J" (.long q1) := (F_value_a0).same W8
  have pre10 : ∀ t, Steps p.tables e below (T8.setTop (mkF m 9 #[.val (.ref a0), .val (.long q1), .second] [])) t → Steps p.tables e below (s₁.setTop (entryFrame m #[(.ref a0), (.long q1)] 3)) t := fun t k => pre7 t (st8 t k)
  obtain ⟨fs, hr, hrun, hended, hW, hsame⟩ := X8.leave (v := none) (fun _ => rfl)
  refine ⟨_, _, pre10 _ ?_, hrun, hended, _, _, rfl, ?_, ⟨_, rfl⟩, hW, hsame.mono (by decide) (by decide)⟩
  · show Steps p.tables e below (T8.setTop (mkF m 9 #[.val (.ref a0), .val (.long q1), .second] [])) _
    exact X8.returnOut hx Bd.returns (hb hby d5_9) hr
  · show Q5 Z a0 q1 w_value_a0 h0 n0 _ T8.heap _
    rw [e8]
    exact ⟨rfl, N8, K8, Ef9, Fw8⟩
theorem pd_1 : parseMethodDescriptor "(J)V" = some ⟨[.long], none⟩ := by decide +kernel
theorem d3_0 : decode jdk_35_method_24_code 0 = .ok (.sipush 128, 3) := by decide +kernel
theorem d3_3 : decode jdk_35_method_24_code 3 = .ok (.istore_n 2, 1) := by decide +kernel
theorem d3_4 : decode jdk_35_method_24_code 4 = .ok (.lload_n 0, 1) := by decide +kernel
theorem d3_5 : decode jdk_35_method_24_code 5 = .ok (.ldc2_w 230, 3) := by decide +kernel
theorem d3_8 : decode jdk_35_method_24_code 8 = .ok (.lcmp, 1) := by decide +kernel
theorem d3_9 : decode jdk_35_method_24_code 9 = .ok (.ifCond .lt 22, 3) := by decide +kernel
theorem d3_12 : decode jdk_35_method_24_code 12 = .ok (.lload_n 0, 1) := by decide +kernel
theorem d3_13 : decode jdk_35_method_24_code 13 = .ok (.ldc2_w 232, 3) := by decide +kernel
theorem d3_16 : decode jdk_35_method_24_code 16 = .ok (.lcmp, 1) := by decide +kernel
theorem d3_17 : decode jdk_35_method_24_code 17 = .ok (.ifCond .gt 14, 3) := by decide +kernel
theorem d3_20 : decode jdk_35_method_24_code 20 = .ok (.getstatic 234, 3) := by decide +kernel
theorem d3_23 : decode jdk_35_method_24_code 23 = .ok (.lload_n 0, 1) := by decide +kernel
theorem d3_24 : decode jdk_35_method_24_code 24 = .ok (.l2i, 1) := by decide +kernel
theorem d3_25 : decode jdk_35_method_24_code 25 = .ok (.sipush 128, 3) := by decide +kernel
theorem d3_28 : decode jdk_35_method_24_code 28 = .ok (.iadd, 1) := by decide +kernel
theorem d3_29 : decode jdk_35_method_24_code 29 = .ok (.aaload, 1) := by decide +kernel
theorem d3_30 : decode jdk_35_method_24_code 30 = .ok (.areturn, 1) := by decide +kernel
theorem d3_31 : decode jdk_35_method_24_code 31 = .ok (.new 1, 3) := by decide +kernel
theorem d3_34 : decode jdk_35_method_24_code 34 = .ok (.dup, 1) := by decide +kernel
theorem d3_35 : decode jdk_35_method_24_code 35 = .ok (.lload_n 0, 1) := by decide +kernel
theorem d3_36 : decode jdk_35_method_24_code 36 = .ok (.invokespecial 240, 3) := by decide +kernel
theorem d3_39 : decode jdk_35_method_24_code 39 = .ok (.areturn, 1) := by decide +kernel
theorem ef_3 (m : MethodId) (x0 : Int64) : entryFrame m #[(.long x0)] 3 = mkF m 0 #[.val (.long x0), .second, .unset] [] := by first | (simp [entryFrame, mkF, argsToLocals, Value.category]; done) | rfl
def Q3 (Z : State) (q0 : Int64) (s_cache : Addr) (h0 : Heap) (n0 : Nat) (v : Option Value) (h : Heap) (L : List Loc) : Prop := ∃ (b : Addr), v = some (.ref b) ∧ Fr n0 L ∧ Keep h0 h [] ∧ Exa Z h b "java/lang/Long"
set_option maxRecDepth 65536 in
set_option maxHeartbeats 40000000 in
theorem rm3 (l : Launch) (Z : State) (ar0 : Array Value) (hw : ∀ d ∈ tables_1, d.before ar0 Z = true) (ws : List Jvm.Cond) (q0 : Int64) (s_cache : Addr) (h0 : Heap) (n0 : Nat) (Z0 : n0 ≤ h0.size) (hC : own_Cache Z h0 s_cache) :
    MetFree l (⟨"java/lang/Long", "valueOf", "(J)Ljava/lang/Long;"⟩ : MethodName) (head1 (Jvm.Cond.code (⟨"java/lang/Long", "valueOf", "(J)Ljava/lang/Long;"⟩ : MethodName) jdk_35_method_24_code 3 (some (.object "java/lang/Long")) :: ws) ({ frames := 3, cells := 1, slots := 1, locals := 39 } : Room)) (fun a U => a = #[(.long q0)] ∧ Z.Warmed39 U.vm ∧ U.heap = h0) (fun _ _ _ _ _ => True) (fun _ U o U' => ∃ v L, o = .returned v ∧ Q3 Z q0 s_cache h0 n0 v U'.heap L ∧ FrameEnd U o U' L ({ frames := 3, cells := 1, slots := 1, locals := 39 } : Room).cells ({ frames := 3, cells := 1, slots := 1, locals := 39 } : Room).slots) := by
  refine MetFree.of_bodySF (plainFor_of_name pn_1) hisR ?_
  intro p e s m args below meth c s₁ Bd hml0 hP hK
  obtain ⟨rfl, hZ, hh⟩ := hP
  have hx := Bd.exec
  have hby := Bd.bytes
  have hml : c.maxLocals = 3 := hml0
  have hown : s.vm.findClass "java/lang/Long" = some m.cls := findClass_of_methodNamed Bd.named
  have hnm := (name_of_methodNamed Bd.named Bd.method).1
  have X0 : Stand p l e ({ frames := 3, cells := 1, slots := 1, locals := 39 } : Room) s m #[(.long q0)] below meth c s₁ [] 0 0 := Stand.of_body Bd
  have e0 : s₁.heap = h0 := by rw [← hh, Bd.state]; rfl
  have N0 := Fr.nil n0
  have pre0 : ∀ t, Steps p.tables e below (s₁.setTop (mkF m 0 #[.val (.long q0), .second, .unset] [])) t → Steps p.tables e below (s₁.setTop (entryFrame m #[(.long q0)] 3)) t := fun t k => castTop (ef_3 m q0) k
  have pre11 : ∀ t, Steps p.tables e below (s₁.setTop (mkF m 9 #[.val (.long q0), .second, .val (.int (128 : Int32))] [(.int (lcmpW q0 (-128 : Int64)))])) t → Steps p.tables e below (s₁.setTop (entryFrame m #[(.long q0)] 3)) t := by
    intro t k
    refine pre0 t ?_
    show Steps p.tables e below (s₁.setTop (mkF m 0 #[.val (.long q0), .second, .unset] [])) _
    refine XS.sipush X0.here hx rfl (hb hby d3_0) ?_
    show Steps p.tables e below (s₁.setTop (mkF m 3 #[.val (.long q0), .second, .unset] [(.int (128 : Int32))])) _
    refine XS.istoreN X0.here hx rfl (hb hby d3_3) rfl (l' := #[.val (.long q0), .second, .val (.int (128 : Int32))]) rfl ?_
    show Steps p.tables e below (s₁.setTop (mkF m 4 #[.val (.long q0), .second, .val (.int (128 : Int32))] [])) _
    refine XS.lloadN X0.here hx rfl (hb hby d3_4) rfl ?_
    show Steps p.tables e below (s₁.setTop (mkF m 5 #[.val (.long q0), .second, .val (.int (128 : Int32))] [(.long q0)])) _
    refine X0.ldc2Long hx hown (mvT hZ (hw _ (List.mem_of_getElem? (i := 17) rfl))) (g := (mkF m 5 #[.val (.long q0), .second, .val (.int (128 : Int32))] [(.long q0)])) rfl (hb hby d3_5) _ ?_
    show Steps p.tables e below (s₁.setTop (mkF m 8 #[.val (.long q0), .second, .val (.int (128 : Int32))] [(.long (-128 : Int64)), (.long q0)])) _
    refine XS.lcmp X0.here hx rfl (hb hby d3_8) rfl ?_
    show Steps p.tables e below (s₁.setTop (mkF m 9 #[.val (.long q0), .second, .val (.int (128 : Int32))] [(.int (lcmpW q0 (-128 : Int64)))])) _
    exact k
  by_cases hc9_12 : q0 < (-128 : Int64)
  · have pre13 : ∀ t, Steps p.tables e below (s₁.setTop (mkF m 31 #[.val (.long q0), .second, .val (.int (128 : Int32))] [])) t → Steps p.tables e below (s₁.setTop (entryFrame m #[(.long q0)] 3)) t := by
      intro t k
      refine pre11 t ?_
      show Steps p.tables e below (s₁.setTop (mkF m 9 #[.val (.long q0), .second, .val (.int (128 : Int32))] [(.int (lcmpW q0 (-128 : Int64)))])) _
      refine XS.ifYes X0.here hx rfl (pc0 := 9) (pc' := 31) rfl (hb hby d3_9) rfl ((if0 _ _).trans (tlt (own_ltL hc9_12)).1) (by decide) (by decide) ?_
      show Steps p.tables e below (s₁.setTop (mkF m 31 #[.val (.long q0), .second, .val (.int (128 : Int32))] [])) _
      exact k
    obtain ⟨T14, h14, X14, e14, E14, A14, D14, -, st14⟩ := newO X0 hx hZ hown (hw _ (List.mem_of_getElem? (i := 31) rfl)) (hw _ (List.mem_of_getElem? (i := 32) rfl)) (hw _ (List.mem_of_getElem? (i := 15) rfl)) e0 (g := (mkF m 31 #[.val (.long q0), .second, .val (.int (128 : Int32))] [])) rfl (hb hby d3_31) (by decide) (by decide)
    obtain ⟨b14, g14⟩ : ∃ z, z = h0.size := ⟨_, rfl⟩
    rw [← g14] at A14 D14 st14
    have g_b14 : n0 ≤ b14 := Nat.le_trans Z0 (Nat.le_of_eq g14.symm)
    have sz_b14 : h0.size ≤ b14 := Nat.le_trans (Keep.refl h0 []).1 (Nat.le_of_eq g14.symm)
    have Z14 : n0 ≤ h14.size := Nat.le_trans Z0 E14.1
    have K14 : Keep h0 h14 [] := (Keep.refl h0 []).ext E14
    have Sf15 : Sta Z h14 "java/lang/Long$LongCache" "cache" "[Ljava/lang/Long;" (.ref s_cache) := (hC.1).ext E14
    have Fvalue_b14 : Fld Z h14 b14 "java/lang/Long" "value" "J" (.long (0 : Int64)) := D14 (Or.inr (hw _ (List.mem_of_getElem? (i := 45) rfl))) (ty := .long) (by decide)
    have pre16 : ∀ t, Steps p.tables e below (T14.setTop (mkF m 34 #[.val (.long q0), .second, .val (.int (128 : Int32))] [(.ref b14)])) t → Steps p.tables e below (s₁.setTop (entryFrame m #[(.long q0)] 3)) t := fun t k => pre13 t (st14 t k)
    have pre17 : ∀ t, Steps p.tables e below (T14.setTop (mkF m 36 #[.val (.long q0), .second, .val (.int (128 : Int32))] [(.long q0), (.ref b14), (.ref b14)])) t → Steps p.tables e below (s₁.setTop (entryFrame m #[(.long q0)] 3)) t := by
      intro t k
      refine pre16 t ?_
      show Steps p.tables e below (T14.setTop (mkF m 34 #[.val (.long q0), .second, .val (.int (128 : Int32))] [(.ref b14)])) _
      refine XS.dup X14.here hx rfl (hb hby d3_34) rfl rfl ?_
      show Steps p.tables e below (T14.setTop (mkF m 35 #[.val (.long q0), .second, .val (.int (128 : Int32))] [(.ref b14), (.ref b14)])) _
      refine XS.lloadN X14.here hx rfl (hb hby d3_35) rfl ?_
      show Steps p.tables e below (T14.setTop (mkF m 36 #[.val (.long q0), .second, .val (.int (128 : Int32))] [(.long q0), (.ref b14), (.ref b14)])) _
      exact k
    obtain ⟨_, _, ⟨T18, L18, k18, n18⟩, -, X18, ⟨Lc18, hQ18, l18, y18, z18⟩, st18⟩ := X14.specialBack hx (y := (⟨"java/lang/Long", "<init>", "(J)V"⟩ : MethodName)) rfl hown (mvT hZ (hw _ (List.mem_of_getElem? (i := 33) rfl))) (mvT hZ (hw _ (List.mem_of_getElem? (i := 34) rfl))) (mvT hZ (hw _ (List.mem_of_getElem? (i := 36) rfl))) (by decide) (backOf (W := 1) (rm5 l Z ar0 hw [] b14 q0 (0 : Int64) h14 n0 Z14 A14 Fvalue_b14 g_b14) hZ (hw _ (List.mem_of_getElem? (i := 36) rfl)) (hw _ (List.mem_of_getElem? (i := 15) rfl)) (by decide) (by decide)) (g := (mkF m 36 #[.val (.long q0), .second, .val (.int (128 : Int32))] [(.long q0), (.ref b14), (.ref b14)])) rfl (by rw [hml]; rfl) (Steps.refl _) (a := b14) (argsL := [(.long q0)]) (rest := [(.ref b14)]) (lenOf pd_1 rfl) rfl (by show 2 * 0 + _ ≤ _; exact Nat.le_of_eq rfl) (hb hby d3_36) (fun _ _ => ⟨rfl, e14, (by decide : 1 + 0 ≤ _), (by decide : 1 + 0 ≤ _)⟩)
    dsimp only [Pt.U, Pt.locs, Pt.cells, Pt.slots] at X18 l18 y18 z18 st18 hQ18
    subst l18 y18 z18
    obtain ⟨h18, e18⟩ : ∃ h, T18.heap = h := ⟨_, rfl⟩
    rw [e18] at hQ18
    obtain ⟨rfl, N18q, K18q, Q18_0, Q18_1⟩ := hQ18
    have N18 := Fr.app N0 N18q
    have Z18 : n0 ≤ h18.size := Nat.le_trans Z14 K18q.1
    have K18 : Keep h0 h18 [] := K14.trans K18q (fun x hx => by cases List.mem_singleton.mp hx; exact Or.inr sz_b14)
    have Sf19 : Sta Z h18 "java/lang/Long$LongCache" "cache" "[Ljava/lang/Long;" (.ref s_cache) := own_sta_keep Sf15 K18q (own_ns1 (own_ns_exa A14))
    have Ef20 : Exa Z h18 b14 "java/lang/Long" := (A14).keep K18q
    have pre21 : ∀ t, Steps p.tables e below (T18.setTop (mkF m 39 #[.val (.long q0), .second, .val (.int (128 : Int32))] [(.ref b14)])) t → Steps p.tables e below (s₁.setTop (entryFrame m #[(.long q0)] 3)) t := fun t k => pre17 t (st18.trans k)
    obtain ⟨fs, hr, hrun, hended, hW, hsame⟩ := X18.leave (v := some (.ref b14)) (fun h => by rw [Bd.returns] at h; cases h)
    refine ⟨_, _, pre21 _ ?_, hrun, hended, _, _, rfl, ?_, ⟨_, rfl⟩, hW, hsame.mono (by decide) (by decide)⟩
    · show Steps p.tables e below (T18.setTop (mkF m 39 #[.val (.long q0), .second, .val (.int (128 : Int32))] [(.ref b14)])) _
      exact retOut X18 hx Bd.returns rfl (Or.inr (Or.inr (Or.inr (Or.inr ⟨rfl, rfl, rfl⟩)))) (hb hby d3_39) hr
    · show Q3 Z q0 s_cache h0 n0 _ T18.heap _
      rw [e18]
      exact ⟨b14, rfl, N18, K18, Q18_0⟩
  · have pre22 : ∀ t, Steps p.tables e below (s₁.setTop (mkF m 17 #[.val (.long q0), .second, .val (.int (128 : Int32))] [(.int (lcmpW q0 (127 : Int64)))])) t → Steps p.tables e below (s₁.setTop (entryFrame m #[(.long q0)] 3)) t := by
      intro t k
      refine pre11 t ?_
      show Steps p.tables e below (s₁.setTop (mkF m 9 #[.val (.long q0), .second, .val (.int (128 : Int32))] [(.int (lcmpW q0 (-128 : Int64)))])) _
      refine XS.ifNo X0.here hx rfl (hb hby d3_9) rfl ((if0 _ _).trans (flt (own_nltL hc9_12)).1) ?_
      show Steps p.tables e below (s₁.setTop (mkF m 12 #[.val (.long q0), .second, .val (.int (128 : Int32))] [])) _
      refine XS.lloadN X0.here hx rfl (hb hby d3_12) rfl ?_
      show Steps p.tables e below (s₁.setTop (mkF m 13 #[.val (.long q0), .second, .val (.int (128 : Int32))] [(.long q0)])) _
      refine X0.ldc2Long hx hown (mvT hZ (hw _ (List.mem_of_getElem? (i := 18) rfl))) (g := (mkF m 13 #[.val (.long q0), .second, .val (.int (128 : Int32))] [(.long q0)])) rfl (hb hby d3_13) _ ?_
      show Steps p.tables e below (s₁.setTop (mkF m 16 #[.val (.long q0), .second, .val (.int (128 : Int32))] [(.long (127 : Int64)), (.long q0)])) _
      refine XS.lcmp X0.here hx rfl (hb hby d3_16) rfl ?_
      show Steps p.tables e below (s₁.setTop (mkF m 17 #[.val (.long q0), .second, .val (.int (128 : Int32))] [(.int (lcmpW q0 (127 : Int64)))])) _
      exact k
    by_cases hc17_23 : (127 : Int64) < q0
    · have pre24 : ∀ t, Steps p.tables e below (s₁.setTop (mkF m 31 #[.val (.long q0), .second, .val (.int (128 : Int32))] [])) t → Steps p.tables e below (s₁.setTop (entryFrame m #[(.long q0)] 3)) t := by
        intro t k
        refine pre22 t ?_
        show Steps p.tables e below (s₁.setTop (mkF m 17 #[.val (.long q0), .second, .val (.int (128 : Int32))] [(.int (lcmpW q0 (127 : Int64)))])) _
        refine XS.ifYes X0.here hx rfl (pc0 := 17) (pc' := 31) rfl (hb hby d3_17) rfl ((if0 _ _).trans (tlt (own_gtL hc17_23)).2.2.1) (by decide) (by decide) ?_
        show Steps p.tables e below (s₁.setTop (mkF m 31 #[.val (.long q0), .second, .val (.int (128 : Int32))] [])) _
        exact k
      obtain ⟨T25, h25, X25, e25, E25, A25, D25, -, st25⟩ := newO X0 hx hZ hown (hw _ (List.mem_of_getElem? (i := 31) rfl)) (hw _ (List.mem_of_getElem? (i := 32) rfl)) (hw _ (List.mem_of_getElem? (i := 15) rfl)) e0 (g := (mkF m 31 #[.val (.long q0), .second, .val (.int (128 : Int32))] [])) rfl (hb hby d3_31) (by decide) (by decide)
      obtain ⟨b25, g25⟩ : ∃ z, z = h0.size := ⟨_, rfl⟩
      rw [← g25] at A25 D25 st25
      have g_b25 : n0 ≤ b25 := Nat.le_trans Z0 (Nat.le_of_eq g25.symm)
      have sz_b25 : h0.size ≤ b25 := Nat.le_trans (Keep.refl h0 []).1 (Nat.le_of_eq g25.symm)
      have Z25 : n0 ≤ h25.size := Nat.le_trans Z0 E25.1
      have K25 : Keep h0 h25 [] := (Keep.refl h0 []).ext E25
      have Sf26 : Sta Z h25 "java/lang/Long$LongCache" "cache" "[Ljava/lang/Long;" (.ref s_cache) := (hC.1).ext E25
      have Fvalue_b25 : Fld Z h25 b25 "java/lang/Long" "value" "J" (.long (0 : Int64)) := D25 (Or.inr (hw _ (List.mem_of_getElem? (i := 45) rfl))) (ty := .long) (by decide)
      have pre27 : ∀ t, Steps p.tables e below (T25.setTop (mkF m 34 #[.val (.long q0), .second, .val (.int (128 : Int32))] [(.ref b25)])) t → Steps p.tables e below (s₁.setTop (entryFrame m #[(.long q0)] 3)) t := fun t k => pre24 t (st25 t k)
      have pre28 : ∀ t, Steps p.tables e below (T25.setTop (mkF m 36 #[.val (.long q0), .second, .val (.int (128 : Int32))] [(.long q0), (.ref b25), (.ref b25)])) t → Steps p.tables e below (s₁.setTop (entryFrame m #[(.long q0)] 3)) t := by
        intro t k
        refine pre27 t ?_
        show Steps p.tables e below (T25.setTop (mkF m 34 #[.val (.long q0), .second, .val (.int (128 : Int32))] [(.ref b25)])) _
        refine XS.dup X25.here hx rfl (hb hby d3_34) rfl rfl ?_
        show Steps p.tables e below (T25.setTop (mkF m 35 #[.val (.long q0), .second, .val (.int (128 : Int32))] [(.ref b25), (.ref b25)])) _
        refine XS.lloadN X25.here hx rfl (hb hby d3_35) rfl ?_
        show Steps p.tables e below (T25.setTop (mkF m 36 #[.val (.long q0), .second, .val (.int (128 : Int32))] [(.long q0), (.ref b25), (.ref b25)])) _
        exact k
      obtain ⟨_, _, ⟨T29, L29, k29, n29⟩, -, X29, ⟨Lc29, hQ29, l29, y29, z29⟩, st29⟩ := X25.specialBack hx (y := (⟨"java/lang/Long", "<init>", "(J)V"⟩ : MethodName)) rfl hown (mvT hZ (hw _ (List.mem_of_getElem? (i := 33) rfl))) (mvT hZ (hw _ (List.mem_of_getElem? (i := 34) rfl))) (mvT hZ (hw _ (List.mem_of_getElem? (i := 36) rfl))) (by decide) (backOf (W := 1) (rm5 l Z ar0 hw [] b25 q0 (0 : Int64) h25 n0 Z25 A25 Fvalue_b25 g_b25) hZ (hw _ (List.mem_of_getElem? (i := 36) rfl)) (hw _ (List.mem_of_getElem? (i := 15) rfl)) (by decide) (by decide)) (g := (mkF m 36 #[.val (.long q0), .second, .val (.int (128 : Int32))] [(.long q0), (.ref b25), (.ref b25)])) rfl (by rw [hml]; rfl) (Steps.refl _) (a := b25) (argsL := [(.long q0)]) (rest := [(.ref b25)]) (lenOf pd_1 rfl) rfl (by show 2 * 0 + _ ≤ _; exact Nat.le_of_eq rfl) (hb hby d3_36) (fun _ _ => ⟨rfl, e25, (by decide : 1 + 0 ≤ _), (by decide : 1 + 0 ≤ _)⟩)
      dsimp only [Pt.U, Pt.locs, Pt.cells, Pt.slots] at X29 l29 y29 z29 st29 hQ29
      subst l29 y29 z29
      obtain ⟨h29, e29⟩ : ∃ h, T29.heap = h := ⟨_, rfl⟩
      rw [e29] at hQ29
      obtain ⟨rfl, N29q, K29q, Q29_0, Q29_1⟩ := hQ29
      have N29 := Fr.app N0 N29q
      have Z29 : n0 ≤ h29.size := Nat.le_trans Z25 K29q.1
      have K29 : Keep h0 h29 [] := K25.trans K29q (fun x hx => by cases List.mem_singleton.mp hx; exact Or.inr sz_b25)
      have Sf30 : Sta Z h29 "java/lang/Long$LongCache" "cache" "[Ljava/lang/Long;" (.ref s_cache) := own_sta_keep Sf26 K29q (own_ns1 (own_ns_exa A25))
      have Ef31 : Exa Z h29 b25 "java/lang/Long" := (A25).keep K29q
      have pre32 : ∀ t, Steps p.tables e below (T29.setTop (mkF m 39 #[.val (.long q0), .second, .val (.int (128 : Int32))] [(.ref b25)])) t → Steps p.tables e below (s₁.setTop (entryFrame m #[(.long q0)] 3)) t := fun t k => pre28 t (st29.trans k)
      obtain ⟨fs, hr, hrun, hended, hW, hsame⟩ := X29.leave (v := some (.ref b25)) (fun h => by rw [Bd.returns] at h; cases h)
      refine ⟨_, _, pre32 _ ?_, hrun, hended, _, _, rfl, ?_, ⟨_, rfl⟩, hW, hsame.mono (by decide) (by decide)⟩
      · show Steps p.tables e below (T29.setTop (mkF m 39 #[.val (.long q0), .second, .val (.int (128 : Int32))] [(.ref b25)])) _
        exact retOut X29 hx Bd.returns rfl (Or.inr (Or.inr (Or.inr (Or.inr ⟨rfl, rfl, rfl⟩)))) (hb hby d3_39) hr
      · show Q3 Z q0 s_cache h0 n0 _ T29.heap _
        rw [e29]
        exact ⟨b25, rfl, N29, K29, Q29_0⟩
    · have pre33 : ∀ t, Steps p.tables e below (s₁.setTop (mkF m 20 #[.val (.long q0), .second, .val (.int (128 : Int32))] [])) t → Steps p.tables e below (s₁.setTop (entryFrame m #[(.long q0)] 3)) t := by
        intro t k
        refine pre22 t ?_
        show Steps p.tables e below (s₁.setTop (mkF m 17 #[.val (.long q0), .second, .val (.int (128 : Int32))] [(.int (lcmpW q0 (127 : Int64)))])) _
        refine XS.ifNo X0.here hx rfl (hb hby d3_17) rfl ((if0 _ _).trans (flt (own_ngtL hc17_23)).2.2.1) ?_
        show Steps p.tables e below (s₁.setTop (mkF m 20 #[.val (.long q0), .second, .val (.int (128 : Int32))] [])) _
        exact k
      obtain ⟨T34, X34, e34, st34⟩ := getS2 X0 hx hZ hown (host := "") (Or.inl (hw _ (List.mem_of_getElem? (i := 19) rfl))) Via.refl e0 hC.1 (g := (mkF m 20 #[.val (.long q0), .second, .val (.int (128 : Int32))] [])) rfl (hb hby d3_20)
      have pre35 : ∀ t, Steps p.tables e below (T34.setTop (mkF m 23 #[.val (.long q0), .second, .val (.int (128 : Int32))] [(.ref s_cache)])) t → Steps p.tables e below (s₁.setTop (entryFrame m #[(.long q0)] 3)) t := fun t k => pre33 t (st34 t k)
      have pre37 : ∀ t, Steps p.tables e below (T34.setTop (mkF m 29 #[.val (.long q0), .second, .val (.int (128 : Int32))] [(.int ((q0.toInt32) + (128 : Int32))), (.ref s_cache)])) t → Steps p.tables e below (s₁.setTop (entryFrame m #[(.long q0)] 3)) t := by
        intro t k
        refine pre35 t ?_
        show Steps p.tables e below (T34.setTop (mkF m 23 #[.val (.long q0), .second, .val (.int (128 : Int32))] [(.ref s_cache)])) _
        refine XS.lloadN X34.here hx rfl (hb hby d3_23) rfl ?_
        show Steps p.tables e below (T34.setTop (mkF m 24 #[.val (.long q0), .second, .val (.int (128 : Int32))] [(.long q0), (.ref s_cache)])) _
        refine XS.l2i X34.here hx rfl (hb hby d3_24) rfl ?_
        show Steps p.tables e below (T34.setTop (mkF m 25 #[.val (.long q0), .second, .val (.int (128 : Int32))] [(.int (q0.toInt32)), (.ref s_cache)])) _
        refine XS.sipush X34.here hx rfl (hb hby d3_25) ?_
        show Steps p.tables e below (T34.setTop (mkF m 28 #[.val (.long q0), .second, .val (.int (128 : Int32))] [(.int (128 : Int32)), (.int (q0.toInt32)), (.ref s_cache)])) _
        refine XS.iadd X34.here hx rfl (hb hby d3_28) rfl ?_
        show Steps p.tables e below (T34.setTop (mkF m 29 #[.val (.long q0), .second, .val (.int (128 : Int32))] [(.int ((q0.toInt32) + (128 : Int32))), (.ref s_cache)])) _
        exact k
      obtain ⟨cl36, Ar36, Sz36, f36⟩ := hC.2
      obtain ⟨b36, hat36, Ex36⟩ := f36 ((q0.toInt32) + (128 : Int32)) (own_cidx hc9_12 hc17_23).1 (own_cidx hc9_12 hc17_23).2
      have hin36 : ¬ (((q0.toInt32) + (128 : Int32)) < 0 ∨ cl36.slots.size ≤ (((q0.toInt32) + (128 : Int32))).toNatClampNeg) := inb_of Sz36 (own_cidx hc9_12 hc17_23)
      obtain ⟨fs, hr, hrun, hended, hW, hsame⟩ := X34.leave (v := some (.ref b36)) (fun h => by rw [Bd.returns] at h; cases h)
      refine ⟨_, _, pre37 _ ?_, hrun, hended, _, _, rfl, ?_, ⟨_, rfl⟩, hW, hsame.mono (by decide) (by decide)⟩
      · show Steps p.tables e below (T34.setTop (mkF m 29 #[.val (.long q0), .second, .val (.int (128 : Int32))] [(.int ((q0.toInt32) + (128 : Int32))), (.ref s_cache)])) _
        refine X34.aaload hx (j := ((q0.toInt32) + (128 : Int32))) (v := (.ref b36)) (by rw [e34]; exact Ar36.1) (State.isArrayOf_alike hZ.alike Ar36.2.1) rfl Ar36.2.2 hin36 hat36 (g := (mkF m 29 #[.val (.long q0), .second, .val (.int (128 : Int32))] [(.int ((q0.toInt32) + (128 : Int32))), (.ref s_cache)])) rfl rfl (hb hby d3_29) _ ?_
        show Steps p.tables e below (T34.setTop (mkF m 30 #[.val (.long q0), .second, .val (.int (128 : Int32))] [(.ref b36)])) _
        exact retOut X34 hx Bd.returns rfl (Or.inr (Or.inr (Or.inr (Or.inr ⟨rfl, rfl, rfl⟩)))) (hb hby d3_30) hr
      · show Q3 Z q0 s_cache h0 n0 _ T34.heap _
        rw [e34]
        exact ⟨b36, rfl, N0, (Keep.refl h0 []), Ex36⟩
theorem pn_2 : plainName "com/example/loomfilter/loomfilter/core/Sharding" = true := by first | (simp [plainName, overriddenIn]; done) | decide +kernel
theorem d1_0 : decode prog_7_method_1_code 0 = .ok (.aload_n 0, 1) := by decide +kernel
theorem d1_1 : decode prog_7_method_1_code 1 = .ok (.invokespecial 1, 3) := by decide +kernel
theorem d1_4 : decode prog_7_method_1_code 4 = .ok (.aload_n 0, 1) := by decide +kernel
theorem d1_5 : decode prog_7_method_1_code 5 = .ok (.iload_n 1, 1) := by decide +kernel
theorem d1_6 : decode prog_7_method_1_code 6 = .ok (.putfield 7, 3) := by decide +kernel
theorem d1_9 : decode prog_7_method_1_code 9 = .ok (.aload_n 0, 1) := by decide +kernel
theorem d1_10 : decode prog_7_method_1_code 10 = .ok (.lload_n 2, 1) := by decide +kernel
theorem d1_11 : decode prog_7_method_1_code 11 = .ok (.putfield 13, 3) := by decide +kernel
theorem d1_14 : decode prog_7_method_1_code 14 = .ok (.return_, 1) := by decide +kernel
theorem ef_1 (m : MethodId) (x0 : Addr) (x1 : Int32) (x2 : Int64) : entryFrame m #[(.ref x0), (.int x1), (.long x2)] 4 = mkF m 0 #[.val (.ref x0), .val (.int x1), .val (.long x2), .second] [] := by first | (simp [entryFrame, mkF, argsToLocals, Value.category]; done) | rfl
def Q1 (Z : State) (a0 : Addr) (p1 : Int32) (q2 : Int64) (w_shardBits_a0 : Int64) (w_shards_a0 : Int32) (h0 : Heap) (n0 : Nat) (v : Option Value) (h : Heap) (L : List Loc) : Prop := v = none ∧ Fr n0 L ∧ Keep h0 h [a0] ∧ Exa Z h a0 "com/example/loomfilter/loomfilter/core/Sharding" ∧ Fld Z h a0 "com/example/loomfilter/loomfilter/core/Sharding" "shards" "I" (.int p1) ∧ Fld Z h a0 "com/example/loomfilter/loomfilter/core/Sharding" "shardBits" "J" (.long q2)
set_option maxRecDepth 65536 in
set_option maxHeartbeats 40000000 in
theorem rm1 (l : Launch) (Z : State) (ar0 : Array Value) (hw : ∀ d ∈ tables_1, d.before ar0 Z = true) (ws : List Jvm.Cond) (a0 : Addr) (p1 : Int32) (q2 : Int64) (w_shardBits_a0 : Int64) (w_shards_a0 : Int32) (h0 : Heap) (n0 : Nat) (Z0 : n0 ≤ h0.size) (F_shardBits_a0 : Fld Z h0 a0 "com/example/loomfilter/loomfilter/core/Sharding" "shardBits" "J" (.long w_shardBits_a0)) (E_a0 : Exa Z h0 a0 "com/example/loomfilter/loomfilter/core/Sharding") (F_shards_a0 : Fld Z h0 a0 "com/example/loomfilter/loomfilter/core/Sharding" "shards" "I" (.int w_shards_a0)) (g_a0 : n0 ≤ a0) :
    MetFree l (⟨"com/example/loomfilter/loomfilter/core/Sharding", "<init>", "(IJ)V"⟩ : MethodName) (head1 (Jvm.Cond.code (⟨"com/example/loomfilter/loomfilter/core/Sharding", "<init>", "(IJ)V"⟩ : MethodName) prog_7_method_1_code 4 none :: ws) ({ frames := 1, cells := 0, slots := 0, locals := 12 } : Room)) (fun a U => a = #[(.ref a0), (.int p1), (.long q2)] ∧ Z.Warmed39 U.vm ∧ U.heap = h0) (fun _ _ _ _ _ => True) (fun _ U o U' => ∃ v L, o = .returned v ∧ Q1 Z a0 p1 q2 w_shardBits_a0 w_shards_a0 h0 n0 v U'.heap L ∧ FrameEnd U o U' L ({ frames := 1, cells := 0, slots := 0, locals := 12 } : Room).cells ({ frames := 1, cells := 0, slots := 0, locals := 12 } : Room).slots) := by
  refine MetFree.of_bodySF (plainFor_of_name pn_2) hisR ?_
  intro p e s m args below meth c s₁ Bd hml0 hP hK
  obtain ⟨rfl, hZ, hh⟩ := hP
  have hx := Bd.exec
  have hby := Bd.bytes
  have hml : c.maxLocals = 4 := hml0
  have hown : s.vm.findClass "com/example/loomfilter/loomfilter/core/Sharding" = some m.cls := findClass_of_methodNamed Bd.named
  have hnm := (name_of_methodNamed Bd.named Bd.method).1
  have X0 : Stand p l e ({ frames := 1, cells := 0, slots := 0, locals := 12 } : Room) s m #[(.ref a0), (.int p1), (.long q2)] below meth c s₁ [] 0 0 := Stand.of_body Bd
  have e0 : s₁.heap = h0 := by rw [← hh, Bd.state]; rfl
  have N0 := Fr.nil n0
  have pre0 : ∀ t, Steps p.tables e below (s₁.setTop (mkF m 0 #[.val (.ref a0), .val (.int p1), .val (.long q2), .second] [])) t → Steps p.tables e below (s₁.setTop (entryFrame m #[(.ref a0), (.int p1), (.long q2)] 4)) t := fun t k => castTop (ef_1 m a0 p1 q2) k
  have pre38 : ∀ t, Steps p.tables e below (s₁.setTop (mkF m 1 #[.val (.ref a0), .val (.int p1), .val (.long q2), .second] [(.ref a0)])) t → Steps p.tables e below (s₁.setTop (entryFrame m #[(.ref a0), (.int p1), (.long q2)] 4)) t := by
    intro t k
    refine pre0 t ?_
    show Steps p.tables e below (s₁.setTop (mkF m 0 #[.val (.ref a0), .val (.int p1), .val (.long q2), .second] [])) _
    refine XS.aloadN X0.here hx rfl (hb hby d1_0) rfl rfl ?_
    show Steps p.tables e below (s₁.setTop (mkF m 1 #[.val (.ref a0), .val (.int p1), .val (.long q2), .second] [(.ref a0)])) _
    exact k
  obtain ⟨T39, X39, e39, st39⟩ := initO X0 hx hZ hown (hw _ (List.mem_of_getElem? (i := 6) rfl)) (hw _ (List.mem_of_getElem? (i := 7) rfl)) (hw _ (List.mem_of_getElem? (i := 8) rfl)) e0 (g := (mkF m 1 #[.val (.ref a0), .val (.int p1), .val (.long q2), .second] [(.ref a0)])) rfl (by rw [hml]; rfl) rfl (hb hby d1_1) (by decide) (W := 0) (by show 2 * 0 + _ ≤ _; exact Nat.le_of_eq rfl) (by decide)
  have pre40 : ∀ t, Steps p.tables e below (T39.setTop (mkF m 4 #[.val (.ref a0), .val (.int p1), .val (.long q2), .second] [])) t → Steps p.tables e below (s₁.setTop (entryFrame m #[(.ref a0), (.int p1), (.long q2)] 4)) t := fun t k => pre38 t (st39 t k)
  have pre41 : ∀ t, Steps p.tables e below (T39.setTop (mkF m 6 #[.val (.ref a0), .val (.int p1), .val (.long q2), .second] [(.int p1), (.ref a0)])) t → Steps p.tables e below (s₁.setTop (entryFrame m #[(.ref a0), (.int p1), (.long q2)] 4)) t := by
    intro t k
    refine pre40 t ?_
    show Steps p.tables e below (T39.setTop (mkF m 4 #[.val (.ref a0), .val (.int p1), .val (.long q2), .second] [])) _
    refine XS.aloadN X39.here hx rfl (hb hby d1_4) rfl rfl ?_
    show Steps p.tables e below (T39.setTop (mkF m 5 #[.val (.ref a0), .val (.int p1), .val (.long q2), .second] [(.ref a0)])) _
    refine XS.iloadN X39.here hx rfl (hb hby d1_5) rfl ?_
    show Steps p.tables e below (T39.setTop (mkF m 6 #[.val (.ref a0), .val (.int p1), .val (.long q2), .second] [(.int p1), (.ref a0)])) _
    exact k
  obtain ⟨T42, h42, X42, e42, W42, st42⟩ := putF X39 hx hZ hown (host := "") (Or.inl (hw _ (List.mem_of_getElem? (i := 9) rfl))) Via.refl e39 F_shards_a0 E_a0 (Or.inr ⟨(hw _ (List.mem_of_getElem? (i := 10) rfl)), rfl, hnm⟩) (hw _ (List.mem_of_getElem? (i := 1) rfl)) (ty := .int) (by decide) rfl rfl (g := (mkF m 6 #[.val (.ref a0), .val (.int p1), .val (.long q2), .second] [(.int p1), (.ref a0)])) rfl rfl (hb hby d1_6)
  have Z42 : n0 ≤ h42.size := Nat.le_trans Z0 (Keep.of_wr W42).1
  have K42 : Keep h0 h42 [a0] := (Keep.refl h0 [a0]).wr W42 (Or.inl (List.mem_of_getElem? (i := 0) rfl))
  have N42 := Fr.snoc X42 N0 g_a0
  have Ff43 : Fld Z h42 a0 "com/example/loomfilter/loomfilter/core/Sharding" "shardBits" "J" (.long w_shardBits_a0) := (F_shardBits_a0).other W42 (Or.inr (slot_ne (Or.inr (hw _ (List.mem_of_getElem? (i := 12) rfl))) (Or.inr (hw _ (List.mem_of_getElem? (i := 10) rfl))) (by decide) (t := .long) (t' := .int) (by decide) (by decide)))
  have Ef44 : Exa Z h42 a0 "com/example/loomfilter/loomfilter/core/Sharding" := (E_a0).wr W42
  have Fw42 : Fld Z h42 a0 "com/example/loomfilter/loomfilter/core/Sharding" "shards" "I" (.int p1) := (F_shards_a0).same W42
  have pre45 : ∀ t, Steps p.tables e below (T42.setTop (mkF m 9 #[.val (.ref a0), .val (.int p1), .val (.long q2), .second] [])) t → Steps p.tables e below (s₁.setTop (entryFrame m #[(.ref a0), (.int p1), (.long q2)] 4)) t := fun t k => pre41 t (st42 t k)
  have pre46 : ∀ t, Steps p.tables e below (T42.setTop (mkF m 11 #[.val (.ref a0), .val (.int p1), .val (.long q2), .second] [(.long q2), (.ref a0)])) t → Steps p.tables e below (s₁.setTop (entryFrame m #[(.ref a0), (.int p1), (.long q2)] 4)) t := by
    intro t k
    refine pre45 t ?_
    show Steps p.tables e below (T42.setTop (mkF m 9 #[.val (.ref a0), .val (.int p1), .val (.long q2), .second] [])) _
    refine XS.aloadN X42.here hx rfl (hb hby d1_9) rfl rfl ?_
    show Steps p.tables e below (T42.setTop (mkF m 10 #[.val (.ref a0), .val (.int p1), .val (.long q2), .second] [(.ref a0)])) _
    refine XS.lloadN X42.here hx rfl (hb hby d1_10) rfl ?_
    show Steps p.tables e below (T42.setTop (mkF m 11 #[.val (.ref a0), .val (.int p1), .val (.long q2), .second] [(.long q2), (.ref a0)])) _
    exact k
  obtain ⟨T47, h47, X47, e47, W47, st47⟩ := putF X42 hx hZ hown (host := "") (Or.inl (hw _ (List.mem_of_getElem? (i := 11) rfl))) Via.refl e42 Ff43 Ef44 (Or.inr ⟨(hw _ (List.mem_of_getElem? (i := 12) rfl)), rfl, hnm⟩) (hw _ (List.mem_of_getElem? (i := 1) rfl)) (ty := .long) (by decide) rfl rfl (g := (mkF m 11 #[.val (.ref a0), .val (.int p1), .val (.long q2), .second] [(.long q2), (.ref a0)])) rfl rfl (hb hby d1_11)
  have Z47 : n0 ≤ h47.size := Nat.le_trans Z42 (Keep.of_wr W47).1
  have K47 : Keep h0 h47 [a0] := K42.wr W47 (Or.inl (List.mem_of_getElem? (i := 0) rfl))
  have N47 := Fr.snoc X47 N42 g_a0
  have Ef48 : Exa Z h47 a0 "com/example/loomfilter/loomfilter/core/Sharding" := (Ef44).wr W47
  have Ff49 : Fld Z h47 a0 "com/example/loomfilter/loomfilter/core/Sharding" "shards" "I" (.int p1) := (Fw42).other W47 (Or.inr (slot_ne (Or.inr (hw _ (List.mem_of_getElem? (i := 10) rfl))) (Or.inr (hw _ (List.mem_of_getElem? (i := 12) rfl))) (by decide) (t := .int) (t' := .long) (by decide) (by decide)))
  have Fw47 : Fld Z h47 a0 "com/example/loomfilter/loomfilter/core/Sharding" "shardBits" "J" (.long q2) := (Ff43).same W47
  have pre50 : ∀ t, Steps p.tables e below (T47.setTop (mkF m 14 #[.val (.ref a0), .val (.int p1), .val (.long q2), .second] [])) t → Steps p.tables e below (s₁.setTop (entryFrame m #[(.ref a0), (.int p1), (.long q2)] 4)) t := fun t k => pre46 t (st47 t k)
  obtain ⟨fs, hr, hrun, hended, hW, hsame⟩ := X47.leave (v := none) (fun _ => rfl)
  refine ⟨_, _, pre50 _ ?_, hrun, hended, _, _, rfl, ?_, ⟨_, rfl⟩, hW, hsame.mono (by decide) (by decide)⟩
  · show Steps p.tables e below (T47.setTop (mkF m 14 #[.val (.ref a0), .val (.int p1), .val (.long q2), .second] [])) _
    exact X47.returnOut hx Bd.returns (hb hby d1_14) hr
  · show Q1 Z a0 p1 q2 w_shardBits_a0 w_shards_a0 h0 n0 _ T47.heap _
    rw [e47]
    exact ⟨rfl, N47, K47, Ef48, Ff49, Fw47⟩
theorem d4_0 : decode prog_7_method_7_code 0 = .ok (.aload_n 1, 1) := by decide +kernel
theorem d4_1 : decode prog_7_method_7_code 1 = .ok (.instanceof 8, 3) := by decide +kernel
theorem d4_4 : decode prog_7_method_7_code 4 = .ok (.ifCond .eq 36, 3) := by decide +kernel
theorem d4_7 : decode prog_7_method_7_code 7 = .ok (.aload_n 0, 1) := by decide +kernel
theorem d4_8 : decode prog_7_method_7_code 8 = .ok (.getfield 7, 3) := by decide +kernel
theorem d4_11 : decode prog_7_method_7_code 11 = .ok (.aload_n 1, 1) := by decide +kernel
theorem d4_12 : decode prog_7_method_7_code 12 = .ok (.checkcast 8, 3) := by decide +kernel
theorem d4_15 : decode prog_7_method_7_code 15 = .ok (.getfield 7, 3) := by decide +kernel
theorem d4_18 : decode prog_7_method_7_code 18 = .ok (.if_icmp .ne 22, 3) := by decide +kernel
theorem d4_21 : decode prog_7_method_7_code 21 = .ok (.aload_n 0, 1) := by decide +kernel
theorem d4_22 : decode prog_7_method_7_code 22 = .ok (.getfield 13, 3) := by decide +kernel
theorem d4_25 : decode prog_7_method_7_code 25 = .ok (.aload_n 1, 1) := by decide +kernel
theorem d4_26 : decode prog_7_method_7_code 26 = .ok (.checkcast 8, 3) := by decide +kernel
theorem d4_29 : decode prog_7_method_7_code 29 = .ok (.getfield 13, 3) := by decide +kernel
theorem d4_32 : decode prog_7_method_7_code 32 = .ok (.lcmp, 1) := by decide +kernel
theorem d4_33 : decode prog_7_method_7_code 33 = .ok (.ifCond .ne 7, 3) := by decide +kernel
theorem d4_36 : decode prog_7_method_7_code 36 = .ok (.iconst 1, 1) := by decide +kernel
theorem d4_37 : decode prog_7_method_7_code 37 = .ok (.goto 4, 3) := by decide +kernel
theorem d4_40 : decode prog_7_method_7_code 40 = .ok (.iconst 0, 1) := by decide +kernel
theorem d4_41 : decode prog_7_method_7_code 41 = .ok (.ireturn, 1) := by decide +kernel
theorem ef_4 (m : MethodId) (x0 : Addr) (x1 : Addr) : entryFrame m #[(.ref x0), (.ref x1)] 2 = mkF m 0 #[.val (.ref x0), .val (.ref x1)] [] := by first | (simp [entryFrame, mkF, argsToLocals, Value.category]; done) | rfl
def f4_y (w_shards_a0 : Int32) (w_shards_a1 : Int32) (w_shardBits_a0 : Int64) (w_shardBits_a1 : Int64) : Int32 := (if w_shards_a0 = w_shards_a1 then (if w_shardBits_a0 = w_shardBits_a1 then (1 : Int32) else (0 : Int32)) else (0 : Int32))
def Q4_y (Z : State) (a0 : Addr) (a1 : Addr) (w_shards_a0 : Int32) (w_shards_a1 : Int32) (w_shardBits_a0 : Int64) (w_shardBits_a1 : Int64) (h0 : Heap) (n0 : Nat) (v : Option Value) (h : Heap) (L : List Loc) : Prop := v = some (.int (f4_y w_shards_a0 w_shards_a1 w_shardBits_a0 w_shardBits_a1)) ∧ Fr n0 L ∧ h = h0
set_option maxRecDepth 65536 in
set_option maxHeartbeats 40000000 in
theorem rm4_y (l : Launch) (Z : State) (ar0 : Array Value) (hw : ∀ d ∈ tables_1, d.before ar0 Z = true) (ws : List Jvm.Cond) (a0 : Addr) (a1 : Addr) (w_shards_a0 : Int32) (w_shards_a1 : Int32) (w_shardBits_a0 : Int64) (w_shardBits_a1 : Int64) (h0 : Heap) (n0 : Nat) (Z0 : n0 ≤ h0.size) (E_a1 : Exa Z h0 a1 "com/example/loomfilter/loomfilter/core/Sharding") (F_shards_a0 : Fld Z h0 a0 "com/example/loomfilter/loomfilter/core/Sharding" "shards" "I" (.int w_shards_a0)) (F_shards_a1 : Fld Z h0 a1 "com/example/loomfilter/loomfilter/core/Sharding" "shards" "I" (.int w_shards_a1)) (F_shardBits_a0 : Fld Z h0 a0 "com/example/loomfilter/loomfilter/core/Sharding" "shardBits" "J" (.long w_shardBits_a0)) (F_shardBits_a1 : Fld Z h0 a1 "com/example/loomfilter/loomfilter/core/Sharding" "shardBits" "J" (.long w_shardBits_a1)) :
    MetFree l (⟨"com/example/loomfilter/loomfilter/core/Sharding", "equals", "(Ljava/lang/Object;)Z"⟩ : MethodName) (head1 (Jvm.Cond.code (⟨"com/example/loomfilter/loomfilter/core/Sharding", "equals", "(Ljava/lang/Object;)Z"⟩ : MethodName) prog_7_method_7_code 2 (some .boolean) :: ws) ({ frames := 0, cells := 0, slots := 0, locals := 0 } : Room)) (fun a U => a = #[(.ref a0), (.ref a1)] ∧ Z.Warmed39 U.vm ∧ U.heap = h0) (fun _ _ _ _ _ => True) (fun _ U o U' => ∃ v L, o = .returned v ∧ Q4_y Z a0 a1 w_shards_a0 w_shards_a1 w_shardBits_a0 w_shardBits_a1 h0 n0 v U'.heap L ∧ FrameEnd U o U' L ({ frames := 0, cells := 0, slots := 0, locals := 0 } : Room).cells ({ frames := 0, cells := 0, slots := 0, locals := 0 } : Room).slots) := by
  refine MetFree.of_bodySF (plainFor_of_name pn_2) hisR ?_
  intro p e s m args below meth c s₁ Bd hml0 hP hK
  obtain ⟨rfl, hZ, hh⟩ := hP
  have hx := Bd.exec
  have hby := Bd.bytes
  have hml : c.maxLocals = 2 := hml0
  have hown : s.vm.findClass "com/example/loomfilter/loomfilter/core/Sharding" = some m.cls := findClass_of_methodNamed Bd.named
  have hnm := (name_of_methodNamed Bd.named Bd.method).1
  have X0 : Stand p l e ({ frames := 0, cells := 0, slots := 0, locals := 0 } : Room) s m #[(.ref a0), (.ref a1)] below meth c s₁ [] 0 0 := Stand.of_body Bd
  have e0 : s₁.heap = h0 := by rw [← hh, Bd.state]; rfl
  have N0 := Fr.nil n0
  have pre0 : ∀ t, Steps p.tables e below (s₁.setTop (mkF m 0 #[.val (.ref a0), .val (.ref a1)] [])) t → Steps p.tables e below (s₁.setTop (entryFrame m #[(.ref a0), (.ref a1)] 2)) t := fun t k => castTop (ef_4 m a0 a1) k
  have pre51 : ∀ t, Steps p.tables e below (s₁.setTop (mkF m 1 #[.val (.ref a0), .val (.ref a1)] [(.ref a1)])) t → Steps p.tables e below (s₁.setTop (entryFrame m #[(.ref a0), (.ref a1)] 2)) t := by
    intro t k
    refine pre0 t ?_
    show Steps p.tables e below (s₁.setTop (mkF m 0 #[.val (.ref a0), .val (.ref a1)] [])) _
    refine XS.aloadN X0.here hx rfl (hb hby d4_0) rfl rfl ?_
    show Steps p.tables e below (s₁.setTop (mkF m 1 #[.val (.ref a0), .val (.ref a1)] [(.ref a1)])) _
    exact k
  obtain ⟨T52, X52, e52, st52⟩ := instY X0 hx hZ hown (hw _ (List.mem_of_getElem? (i := 26) rfl)) e0 (Ins.self E_a1) (g := (mkF m 1 #[.val (.ref a0), .val (.ref a1)] [(.ref a1)])) rfl rfl (hb hby d4_1)
  have pre53 : ∀ t, Steps p.tables e below (T52.setTop (mkF m 4 #[.val (.ref a0), .val (.ref a1)] [(.int (1 : Int32))])) t → Steps p.tables e below (s₁.setTop (entryFrame m #[(.ref a0), (.ref a1)] 2)) t := fun t k => pre51 t (st52 t k)
  have pre54 : ∀ t, Steps p.tables e below (T52.setTop (mkF m 8 #[.val (.ref a0), .val (.ref a1)] [(.ref a0)])) t → Steps p.tables e below (s₁.setTop (entryFrame m #[(.ref a0), (.ref a1)] 2)) t := by
    intro t k
    refine pre53 t ?_
    show Steps p.tables e below (T52.setTop (mkF m 4 #[.val (.ref a0), .val (.ref a1)] [(.int (1 : Int32))])) _
    refine XS.ifNo X52.here hx rfl (hb hby d4_4) rfl ((if0 _ _).trans (feq (by decide : ¬ (1 : Int32) = (0 : Int32))).1) ?_
    show Steps p.tables e below (T52.setTop (mkF m 7 #[.val (.ref a0), .val (.ref a1)] [])) _
    refine XS.aloadN X52.here hx rfl (hb hby d4_7) rfl rfl ?_
    show Steps p.tables e below (T52.setTop (mkF m 8 #[.val (.ref a0), .val (.ref a1)] [(.ref a0)])) _
    exact k
  obtain ⟨T55, X55, e55, st55⟩ := getF X52 hx hZ hown (host := "") (Or.inl (hw _ (List.mem_of_getElem? (i := 9) rfl))) Via.refl e52 F_shards_a0 (g := (mkF m 8 #[.val (.ref a0), .val (.ref a1)] [(.ref a0)])) rfl rfl (hb hby d4_8)
  have pre56 : ∀ t, Steps p.tables e below (T55.setTop (mkF m 11 #[.val (.ref a0), .val (.ref a1)] [(.int w_shards_a0)])) t → Steps p.tables e below (s₁.setTop (entryFrame m #[(.ref a0), (.ref a1)] 2)) t := fun t k => pre54 t (st55 t k)
  have pre57 : ∀ t, Steps p.tables e below (T55.setTop (mkF m 12 #[.val (.ref a0), .val (.ref a1)] [(.ref a1), (.int w_shards_a0)])) t → Steps p.tables e below (s₁.setTop (entryFrame m #[(.ref a0), (.ref a1)] 2)) t := by
    intro t k
    refine pre56 t ?_
    show Steps p.tables e below (T55.setTop (mkF m 11 #[.val (.ref a0), .val (.ref a1)] [(.int w_shards_a0)])) _
    refine XS.aloadN X55.here hx rfl (hb hby d4_11) rfl rfl ?_
    show Steps p.tables e below (T55.setTop (mkF m 12 #[.val (.ref a0), .val (.ref a1)] [(.ref a1), (.int w_shards_a0)])) _
    exact k
  obtain ⟨T58, X58, e58, st58⟩ := castY X55 hx hZ hown (hw _ (List.mem_of_getElem? (i := 26) rfl)) e55 (Ins.self E_a1) (g := (mkF m 12 #[.val (.ref a0), .val (.ref a1)] [(.ref a1), (.int w_shards_a0)])) rfl rfl (hb hby d4_12)
  have pre59 : ∀ t, Steps p.tables e below (T58.setTop (mkF m 15 #[.val (.ref a0), .val (.ref a1)] [(.ref a1), (.int w_shards_a0)])) t → Steps p.tables e below (s₁.setTop (entryFrame m #[(.ref a0), (.ref a1)] 2)) t := fun t k => pre57 t (st58 t k)
  obtain ⟨T60, X60, e60, st60⟩ := getF X58 hx hZ hown (host := "") (Or.inl (hw _ (List.mem_of_getElem? (i := 9) rfl))) Via.refl e58 F_shards_a1 (g := (mkF m 15 #[.val (.ref a0), .val (.ref a1)] [(.ref a1), (.int w_shards_a0)])) rfl rfl (hb hby d4_15)
  have pre61 : ∀ t, Steps p.tables e below (T60.setTop (mkF m 18 #[.val (.ref a0), .val (.ref a1)] [(.int w_shards_a1), (.int w_shards_a0)])) t → Steps p.tables e below (s₁.setTop (entryFrame m #[(.ref a0), (.ref a1)] 2)) t := fun t k => pre59 t (st60 t k)
  by_cases hc18_62 : w_shards_a0 = w_shards_a1
  · have pre63 : ∀ t, Steps p.tables e below (T60.setTop (mkF m 22 #[.val (.ref a0), .val (.ref a1)] [(.ref a0)])) t → Steps p.tables e below (s₁.setTop (entryFrame m #[(.ref a0), (.ref a1)] 2)) t := by
      intro t k
      refine pre61 t ?_
      show Steps p.tables e below (T60.setTop (mkF m 18 #[.val (.ref a0), .val (.ref a1)] [(.int w_shards_a1), (.int w_shards_a0)])) _
      refine XS.icmpNo X60.here hx rfl (hb hby d4_18) rfl (teq hc18_62).2 ?_
      show Steps p.tables e below (T60.setTop (mkF m 21 #[.val (.ref a0), .val (.ref a1)] [])) _
      refine XS.aloadN X60.here hx rfl (hb hby d4_21) rfl rfl ?_
      show Steps p.tables e below (T60.setTop (mkF m 22 #[.val (.ref a0), .val (.ref a1)] [(.ref a0)])) _
      exact k
    obtain ⟨T64, X64, e64, st64⟩ := getF X60 hx hZ hown (host := "") (Or.inl (hw _ (List.mem_of_getElem? (i := 11) rfl))) Via.refl e60 F_shardBits_a0 (g := (mkF m 22 #[.val (.ref a0), .val (.ref a1)] [(.ref a0)])) rfl rfl (hb hby d4_22)
    have pre65 : ∀ t, Steps p.tables e below (T64.setTop (mkF m 25 #[.val (.ref a0), .val (.ref a1)] [(.long w_shardBits_a0)])) t → Steps p.tables e below (s₁.setTop (entryFrame m #[(.ref a0), (.ref a1)] 2)) t := fun t k => pre63 t (st64 t k)
    have pre66 : ∀ t, Steps p.tables e below (T64.setTop (mkF m 26 #[.val (.ref a0), .val (.ref a1)] [(.ref a1), (.long w_shardBits_a0)])) t → Steps p.tables e below (s₁.setTop (entryFrame m #[(.ref a0), (.ref a1)] 2)) t := by
      intro t k
      refine pre65 t ?_
      show Steps p.tables e below (T64.setTop (mkF m 25 #[.val (.ref a0), .val (.ref a1)] [(.long w_shardBits_a0)])) _
      refine XS.aloadN X64.here hx rfl (hb hby d4_25) rfl rfl ?_
      show Steps p.tables e below (T64.setTop (mkF m 26 #[.val (.ref a0), .val (.ref a1)] [(.ref a1), (.long w_shardBits_a0)])) _
      exact k
    obtain ⟨T67, X67, e67, st67⟩ := castY X64 hx hZ hown (hw _ (List.mem_of_getElem? (i := 26) rfl)) e64 (Ins.self E_a1) (g := (mkF m 26 #[.val (.ref a0), .val (.ref a1)] [(.ref a1), (.long w_shardBits_a0)])) rfl rfl (hb hby d4_26)
    have pre68 : ∀ t, Steps p.tables e below (T67.setTop (mkF m 29 #[.val (.ref a0), .val (.ref a1)] [(.ref a1), (.long w_shardBits_a0)])) t → Steps p.tables e below (s₁.setTop (entryFrame m #[(.ref a0), (.ref a1)] 2)) t := fun t k => pre66 t (st67 t k)
    obtain ⟨T69, X69, e69, st69⟩ := getF X67 hx hZ hown (host := "") (Or.inl (hw _ (List.mem_of_getElem? (i := 11) rfl))) Via.refl e67 F_shardBits_a1 (g := (mkF m 29 #[.val (.ref a0), .val (.ref a1)] [(.ref a1), (.long w_shardBits_a0)])) rfl rfl (hb hby d4_29)
    have pre70 : ∀ t, Steps p.tables e below (T69.setTop (mkF m 32 #[.val (.ref a0), .val (.ref a1)] [(.long w_shardBits_a1), (.long w_shardBits_a0)])) t → Steps p.tables e below (s₁.setTop (entryFrame m #[(.ref a0), (.ref a1)] 2)) t := fun t k => pre68 t (st69 t k)
    have pre71 : ∀ t, Steps p.tables e below (T69.setTop (mkF m 33 #[.val (.ref a0), .val (.ref a1)] [(.int (lcmpW w_shardBits_a0 w_shardBits_a1))])) t → Steps p.tables e below (s₁.setTop (entryFrame m #[(.ref a0), (.ref a1)] 2)) t := by
      intro t k
      refine pre70 t ?_
      show Steps p.tables e below (T69.setTop (mkF m 32 #[.val (.ref a0), .val (.ref a1)] [(.long w_shardBits_a1), (.long w_shardBits_a0)])) _
      refine XS.lcmp X69.here hx rfl (hb hby d4_32) rfl ?_
      show Steps p.tables e below (T69.setTop (mkF m 33 #[.val (.ref a0), .val (.ref a1)] [(.int (lcmpW w_shardBits_a0 w_shardBits_a1))])) _
      exact k
    by_cases hc33_72 : w_shardBits_a0 = w_shardBits_a1
    · obtain ⟨fs, hr, hrun, hended, hW, hsame⟩ := X69.leave (v := some (.int (1 : Int32))) (fun h => by rw [Bd.returns] at h; cases h)
      refine ⟨_, _, pre71 _ ?_, hrun, hended, _, _, rfl, ?_, ⟨_, rfl⟩, hW, hsame.mono (by decide) (by decide)⟩
      · show Steps p.tables e below (T69.setTop (mkF m 33 #[.val (.ref a0), .val (.ref a1)] [(.int (lcmpW w_shardBits_a0 w_shardBits_a1))])) _
        refine XS.ifNo X69.here hx rfl (hb hby d4_33) rfl ((if0 _ _).trans (teq (own_eqL hc33_72)).2) ?_
        show Steps p.tables e below (T69.setTop (mkF m 36 #[.val (.ref a0), .val (.ref a1)] [])) _
        refine XS.iconst X69.here hx rfl (hb hby d4_36) ?_
        show Steps p.tables e below (T69.setTop (mkF m 37 #[.val (.ref a0), .val (.ref a1)] [(.int (1 : Int32))])) _
        refine XS.goto X69.here hx rfl (pc0 := 37) (pc' := 41) rfl (hb hby d4_37) (by decide) (by decide) ?_
        show Steps p.tables e below (T69.setTop (mkF m 41 #[.val (.ref a0), .val (.ref a1)] [(.int (1 : Int32))])) _
        exact retN X69 hx (t := .boolean) Bd.returns (by simp) (hb hby d4_41) hr
      · show Q4_y Z a0 a1 w_shards_a0 w_shards_a1 w_shardBits_a0 w_shardBits_a1 h0 n0 _ T69.heap _
        rw [e69]
        exact ⟨by unfold f4_y; rw [if_pos hc18_62, if_pos hc33_72], N0, rfl⟩
    · obtain ⟨fs, hr, hrun, hended, hW, hsame⟩ := X69.leave (v := some (.int (0 : Int32))) (fun h => by rw [Bd.returns] at h; cases h)
      refine ⟨_, _, pre71 _ ?_, hrun, hended, _, _, rfl, ?_, ⟨_, rfl⟩, hW, hsame.mono (by decide) (by decide)⟩
      · show Steps p.tables e below (T69.setTop (mkF m 33 #[.val (.ref a0), .val (.ref a1)] [(.int (lcmpW w_shardBits_a0 w_shardBits_a1))])) _
        refine XS.ifYes X69.here hx rfl (pc0 := 33) (pc' := 40) rfl (hb hby d4_33) rfl ((if0 _ _).trans (feq (own_neL hc33_72)).2) (by decide) (by decide) ?_
        show Steps p.tables e below (T69.setTop (mkF m 40 #[.val (.ref a0), .val (.ref a1)] [])) _
        refine XS.iconst X69.here hx rfl (hb hby d4_40) ?_
        show Steps p.tables e below (T69.setTop (mkF m 41 #[.val (.ref a0), .val (.ref a1)] [(.int (0 : Int32))])) _
        exact retN X69 hx (t := .boolean) Bd.returns (by simp) (hb hby d4_41) hr
      · show Q4_y Z a0 a1 w_shards_a0 w_shards_a1 w_shardBits_a0 w_shardBits_a1 h0 n0 _ T69.heap _
        rw [e69]
        exact ⟨by unfold f4_y; rw [if_pos hc18_62, if_neg hc33_72], N0, rfl⟩
  · obtain ⟨fs, hr, hrun, hended, hW, hsame⟩ := X60.leave (v := some (.int (0 : Int32))) (fun h => by rw [Bd.returns] at h; cases h)
    refine ⟨_, _, pre61 _ ?_, hrun, hended, _, _, rfl, ?_, ⟨_, rfl⟩, hW, hsame.mono (by decide) (by decide)⟩
    · show Steps p.tables e below (T60.setTop (mkF m 18 #[.val (.ref a0), .val (.ref a1)] [(.int w_shards_a1), (.int w_shards_a0)])) _
      refine XS.icmpYes X60.here hx rfl (pc0 := 18) (pc' := 40) rfl (hb hby d4_18) rfl (feq hc18_62).2 (by decide) (by decide) ?_
      show Steps p.tables e below (T60.setTop (mkF m 40 #[.val (.ref a0), .val (.ref a1)] [])) _
      refine XS.iconst X60.here hx rfl (hb hby d4_40) ?_
      show Steps p.tables e below (T60.setTop (mkF m 41 #[.val (.ref a0), .val (.ref a1)] [(.int (0 : Int32))])) _
      exact retN X60 hx (t := .boolean) Bd.returns (by simp) (hb hby d4_41) hr
    · show Q4_y Z a0 a1 w_shards_a0 w_shards_a1 w_shardBits_a0 w_shardBits_a1 h0 n0 _ T60.heap _
      rw [e60]
      exact ⟨by unfold f4_y; rw [if_neg hc18_62], N0, rfl⟩
theorem ef_4_n (m : MethodId) (x0 : Addr) : entryFrame m #[(.ref x0), .null] 2 = mkF m 0 #[.val (.ref x0), .val .null] [] := by first | (simp [entryFrame, mkF, argsToLocals, Value.category]; done) | rfl
def Q4_n (Z : State) (a0 : Addr) (h0 : Heap) (n0 : Nat) (v : Option Value) (h : Heap) (L : List Loc) : Prop := v = some (.int (0 : Int32)) ∧ Fr n0 L ∧ h = h0
set_option maxRecDepth 65536 in
set_option maxHeartbeats 40000000 in
theorem rm4_n (l : Launch) (Z : State) (ar0 : Array Value) (hw : ∀ d ∈ tables_1, d.before ar0 Z = true) (ws : List Jvm.Cond) (a0 : Addr) (h0 : Heap) (n0 : Nat) (Z0 : n0 ≤ h0.size) :
    MetFree l (⟨"com/example/loomfilter/loomfilter/core/Sharding", "equals", "(Ljava/lang/Object;)Z"⟩ : MethodName) (head1 (Jvm.Cond.code (⟨"com/example/loomfilter/loomfilter/core/Sharding", "equals", "(Ljava/lang/Object;)Z"⟩ : MethodName) prog_7_method_7_code 2 (some .boolean) :: ws) ({ frames := 0, cells := 0, slots := 0, locals := 0 } : Room)) (fun a U => a = #[(.ref a0), .null] ∧ Z.Warmed39 U.vm ∧ U.heap = h0) (fun _ _ _ _ _ => True) (fun _ U o U' => ∃ v L, o = .returned v ∧ Q4_n Z a0 h0 n0 v U'.heap L ∧ FrameEnd U o U' L ({ frames := 0, cells := 0, slots := 0, locals := 0 } : Room).cells ({ frames := 0, cells := 0, slots := 0, locals := 0 } : Room).slots) := by
  refine MetFree.of_bodySF (plainFor_of_name pn_2) hisR ?_
  intro p e s m args below meth c s₁ Bd hml0 hP hK
  obtain ⟨rfl, hZ, hh⟩ := hP
  have hx := Bd.exec
  have hby := Bd.bytes
  have hml : c.maxLocals = 2 := hml0
  have hown : s.vm.findClass "com/example/loomfilter/loomfilter/core/Sharding" = some m.cls := findClass_of_methodNamed Bd.named
  have hnm := (name_of_methodNamed Bd.named Bd.method).1
  have X0 : Stand p l e ({ frames := 0, cells := 0, slots := 0, locals := 0 } : Room) s m #[(.ref a0), .null] below meth c s₁ [] 0 0 := Stand.of_body Bd
  have e0 : s₁.heap = h0 := by rw [← hh, Bd.state]; rfl
  have N0 := Fr.nil n0
  have pre0 : ∀ t, Steps p.tables e below (s₁.setTop (mkF m 0 #[.val (.ref a0), .val .null] [])) t → Steps p.tables e below (s₁.setTop (entryFrame m #[(.ref a0), .null] 2)) t := fun t k => castTop (ef_4_n m a0) k
  have pre73 : ∀ t, Steps p.tables e below (s₁.setTop (mkF m 1 #[.val (.ref a0), .val .null] [.null])) t → Steps p.tables e below (s₁.setTop (entryFrame m #[(.ref a0), .null] 2)) t := by
    intro t k
    refine pre0 t ?_
    show Steps p.tables e below (s₁.setTop (mkF m 0 #[.val (.ref a0), .val .null] [])) _
    refine XS.aloadN X0.here hx rfl (hb hby d4_0) rfl rfl ?_
    show Steps p.tables e below (s₁.setTop (mkF m 1 #[.val (.ref a0), .val .null] [.null])) _
    exact k
  obtain ⟨fs, hr, hrun, hended, hW, hsame⟩ := X0.leave (v := some (.int (0 : Int32))) (fun h => by rw [Bd.returns] at h; cases h)
  refine ⟨_, _, pre73 _ ?_, hrun, hended, _, _, rfl, ?_, ⟨_, rfl⟩, hW, hsame.mono (by decide) (by decide)⟩
  · show Steps p.tables e below (s₁.setTop (mkF m 1 #[.val (.ref a0), .val .null] [.null])) _
    refine X0.instanceofNull hx (g := (mkF m 1 #[.val (.ref a0), .val .null] [.null])) rfl rfl (hb hby d4_1) _ ?_
    show Steps p.tables e below (s₁.setTop (mkF m 4 #[.val (.ref a0), .val .null] [(.int (0 : Int32))])) _
    show Steps p.tables e below (s₁.setTop (mkF m 4 #[.val (.ref a0), .val .null] [(.int (0 : Int32))])) _
    refine XS.ifYes X0.here hx rfl (pc0 := 4) (pc' := 40) rfl (hb hby d4_4) rfl ((if0 _ _).trans (teq (by decide : (0 : Int32) = (0 : Int32))).1) (by decide) (by decide) ?_
    show Steps p.tables e below (s₁.setTop (mkF m 40 #[.val (.ref a0), .val .null] [])) _
    refine XS.iconst X0.here hx rfl (hb hby d4_40) ?_
    show Steps p.tables e below (s₁.setTop (mkF m 41 #[.val (.ref a0), .val .null] [(.int (0 : Int32))])) _
    exact retN X0 hx (t := .boolean) Bd.returns (by simp) (hb hby d4_41) hr
  · show Q4_n Z a0 h0 n0 _ s₁.heap _
    rw [e0]
    exact ⟨rfl, N0, rfl⟩
theorem own_noinst {Z : State} {ar0 : Array Value} (hw : ∀ d ∈ tables_1, d.before ar0 Z = true) : ∃ c t, Z.vm.findClass "java/lang/Long" = some c ∧ Z.vm.findClass "com/example/loomfilter/loomfilter/core/Sharding" = some t ∧ Z.vm.assignable c t = false := by
  obtain ⟨t, kt, g1, g2, g3, g4, -, -⟩ := Cond.instantiable_spec (hw _ (List.mem_of_getElem? (i := 1) rfl))
  simp only [Bool.or_eq_false_iff] at g4
  have r0 : NS Z "java/lang/Object" "com/example/loomfilter/loomfilter/core/Sharding" := by
    obtain ⟨c, k, h1, h2, h3, -, -⟩ := Cond.noSuperclass_spec (hw _ (List.mem_of_getElem? (i := 30) rfl))
    have ne := ids_ne h1 g1 (by decide)
    refine ⟨c, t, h1, g1, fun fuel => ?_⟩
    cases fuel with
    | zero => rfl
    | succ f => simp [Vm.isSubclassAux, ne, h2, h3]
  have r1 : NS Z "java/lang/Number" "com/example/loomfilter/loomfilter/core/Sharding" := NS.step (hw _ (List.mem_of_getElem? (i := 29) rfl)) r0 (by decide)
  obtain ⟨c, t', h0, g0, n3⟩ : NS Z "java/lang/Long" "com/example/loomfilter/loomfilter/core/Sharding" := NS.step (hw _ (List.mem_of_getElem? (i := 28) rfl)) r1 (by decide)
  cases g1.symm.trans g0
  obtain ⟨p, k, kp, h1, h2, h3, h4, h5, -, h7⟩ := Cond.superclass_spec h0 (hw _ (List.mem_of_getElem? (i := 28) rfl))
  have ne := ids_ne h0 g0 (by decide)
  refine ⟨c, t, h0, g0, ?_⟩
  show Z.vm.assignableAux (255 + 1) c t = false
  simp [Vm.assignableAux, ne, h2, g2, h5, g3, g4.1, Vm.isSubclass, n3]
theorem own_eqI {a : Term} {k : Int32} {args : Array Value} {first s : State} {o : Option Outcome} {idx : List Nat} (h : (Cond.eq a (.int k)).value args first o s idx = some true) : a.eval args first o idx s = some (.int k) := by
  simp only [Cond.value, Term.eval] at h
  cases ha : a.eval args first o idx s with
  | none => simp [ha] at h
  | some x => cases x <;> simp [ha] at h ⊢; exact h
theorem own_eqJ {a : Term} {k : Int64} {args : Array Value} {first s : State} {o : Option Outcome} {idx : List Nat} (h : (Cond.eq a (.long k)).value args first o s idx = some true) : a.eval args first o idx s = some (.long k) := by
  simp only [Cond.value, Term.eval] at h
  cases ha : a.eval args first o idx s with
  | none => simp [ha] at h
  | some x => cases x <;> simp [ha] at h ⊢; exact h
theorem own_len {args : Array Value} {s : State} {t : Term} {a : Addr} {cl : Cell} {n : Int32} (ht : t.eval args s none [] s = some (.ref a)) (hc : s.arrayAt? a = some cl) (h : (Term.length t).eval args s none [] s = some (.int n)) : cl.slots.size < 2 ^ 31 ∧ cl.slots.size.toInt32 = n := by
  simp only [Term.eval, ht, hc, Option.bind_eq_bind, Option.bind_some] at h
  split at h
  · rename_i q; exact ⟨q, by simpa using h⟩
  · cases h
theorem own_sizeN {n : Nat} {k : Int32} (h : n < 2 ^ 31) (e : n.toInt32 = k) : n = k.toNatClampNeg := by
  have q : (n : Int) = k.toInt := by rw [← e]; exact (Int32.toInt_ofNat_of_lt h).symm
  show n = k.toInt.toNat
  omega
theorem own_exa_at {args : Array Value} {s : State} {idx : List Nat} {t : Term} {C : String} {b : Addr} (h : (Cond.exactly t C).value args s none s idx = some true) (e : t.eval args s none idx s = some (.ref b)) : Exa s s.heap b C := by
  obtain ⟨a', c', cell, k, e1, e2, e3, e4, e5, e6, e7⟩ := Cond.exactly_spec (show (Cond.exactly t C).holds args s none s idx = true from beq_iff_eq.mpr h)
  cases e.symm.trans e1
  exact ⟨cell, k, e3, by rw [e6]; exact e2, by rw [e6]; exact e4, e5, e7⟩
theorem own_index {args : Array Value} {s : State} {j : Int32} (h : ¬ j < 0) : (Term.index 0).eval args s none [j.toNatClampNeg] s = some (.int j) := by
  have q := back32 h
  simp [Term.eval, q.1, q.2]
theorem own_cache_start {s : State} {args : Array Value} (hsets : ∀ w ∈ jdkStatics_1, w.before args s = true) : ∃ a, own_Cache s s.heap a := by
  have w1 := hsets _ (List.mem_of_getElem? (i := 1) rfl)
  have w2 := Cond.before_iff.mp (hsets _ (List.mem_of_getElem? (i := 2) rfl))
  have w4 := Cond.before_iff.mp (hsets _ (List.mem_of_getElem? (i := 4) rfl))
  have w5 := Cond.before_iff.mp (hsets _ (List.mem_of_getElem? (i := 5) rfl))
  obtain ⟨a, ha⟩ := arr_v w2
  obtain ⟨cl, A⟩ := Arr.start ha w2
  have hat := A.fin (Vm.Alike.refl _)
  obtain ⟨hlt, hsz⟩ := own_len ha hat (own_eqI w4)
  have hsize := own_sizeN hlt hsz
  refine ⟨a, Sta.start ha (Or.inl w1), cl, A, hsize, fun j h1 h2 => ?_⟩
  have hin : ¬ (j < 0 ∨ cl.slots.size ≤ j.toNatClampNeg) := inb_of hsize ⟨h1, h2⟩
  have q := Cond.all_elim ha hat w5 j.toNatClampNeg (Nat.lt_of_not_le fun z => hin (Or.inr z))
  obtain ⟨q1, -⟩ := and_e q
  obtain ⟨b, eb⟩ := exa_v q1
  obtain ⟨cl', c1, c2, c3⟩ := elem_at eb (show (Term.static "java/lang/Long$LongCache" "cache" "[Ljava/lang/Long;").eval args s none [j.toNatClampNeg] s = some (.ref a) from ha) (own_index h1)
  cases A.1.symm.trans c1
  exact ⟨b, c3, own_exa_at q1 eb⟩

def Q4_l (Z : State) (a0 : Addr) (a1 : Addr) (h0 : Heap) (n0 : Nat) (v : Option Value) (h : Heap) (L : List Loc) : Prop := v = some (.int (0 : Int32)) ∧ Fr n0 L ∧ h = h0
set_option maxRecDepth 65536 in
set_option maxHeartbeats 40000000 in
theorem rm4_l (l : Launch) (Z : State) (ar0 : Array Value) (hw : ∀ d ∈ tables_1, d.before ar0 Z = true) (ws : List Jvm.Cond) (a0 : Addr) (a1 : Addr) (h0 : Heap) (n0 : Nat) (Z0 : n0 ≤ h0.size) (E_a1 : Exa Z h0 a1 "java/lang/Long") :
    MetFree l (⟨"com/example/loomfilter/loomfilter/core/Sharding", "equals", "(Ljava/lang/Object;)Z"⟩ : MethodName) (head1 (Jvm.Cond.code (⟨"com/example/loomfilter/loomfilter/core/Sharding", "equals", "(Ljava/lang/Object;)Z"⟩ : MethodName) prog_7_method_7_code 2 (some .boolean) :: ws) ({ frames := 0, cells := 0, slots := 0, locals := 0 } : Room)) (fun a U => a = #[(.ref a0), (.ref a1)] ∧ Z.Warmed39 U.vm ∧ U.heap = h0) (fun _ _ _ _ _ => True) (fun _ U o U' => ∃ v L, o = .returned v ∧ Q4_l Z a0 a1 h0 n0 v U'.heap L ∧ FrameEnd U o U' L ({ frames := 0, cells := 0, slots := 0, locals := 0 } : Room).cells ({ frames := 0, cells := 0, slots := 0, locals := 0 } : Room).slots) := by
  refine MetFree.of_bodySF (plainFor_of_name pn_2) hisR ?_
  intro p e s m args below meth c s₁ Bd hml0 hP hK
  obtain ⟨rfl, hZ, hh⟩ := hP
  have hx := Bd.exec
  have hby := Bd.bytes
  have hml : c.maxLocals = 2 := hml0
  have hown : s.vm.findClass "com/example/loomfilter/loomfilter/core/Sharding" = some m.cls := findClass_of_methodNamed Bd.named
  have hnm := (name_of_methodNamed Bd.named Bd.method).1
  have X0 : Stand p l e ({ frames := 0, cells := 0, slots := 0, locals := 0 } : Room) s m #[(.ref a0), (.ref a1)] below meth c s₁ [] 0 0 := Stand.of_body Bd
  have e0 : s₁.heap = h0 := by rw [← hh, Bd.state]; rfl
  have N0 := Fr.nil n0
  have pre0 : ∀ t, Steps p.tables e below (s₁.setTop (mkF m 0 #[.val (.ref a0), .val (.ref a1)] [])) t → Steps p.tables e below (s₁.setTop (entryFrame m #[(.ref a0), (.ref a1)] 2)) t := fun t k => castTop (ef_4 m a0 a1) k
  have pre74 : ∀ t, Steps p.tables e below (s₁.setTop (mkF m 1 #[.val (.ref a0), .val (.ref a1)] [(.ref a1)])) t → Steps p.tables e below (s₁.setTop (entryFrame m #[(.ref a0), (.ref a1)] 2)) t := by
    intro t k
    refine pre0 t ?_
    show Steps p.tables e below (s₁.setTop (mkF m 0 #[.val (.ref a0), .val (.ref a1)] [])) _
    refine XS.aloadN X0.here hx rfl (hb hby d4_0) rfl rfl ?_
    show Steps p.tables e below (s₁.setTop (mkF m 1 #[.val (.ref a0), .val (.ref a1)] [(.ref a1)])) _
    exact k
  obtain ⟨T75, X75, e75, st75⟩ := instNo X0 hx hZ hown (hw _ (List.mem_of_getElem? (i := 26) rfl)) e0 E_a1 (own_noinst hw) (g := (mkF m 1 #[.val (.ref a0), .val (.ref a1)] [(.ref a1)])) rfl rfl (hb hby d4_1)
  have pre76 : ∀ t, Steps p.tables e below (T75.setTop (mkF m 4 #[.val (.ref a0), .val (.ref a1)] [(.int (0 : Int32))])) t → Steps p.tables e below (s₁.setTop (entryFrame m #[(.ref a0), (.ref a1)] 2)) t := fun t k => pre74 t (st75 t k)
  obtain ⟨fs, hr, hrun, hended, hW, hsame⟩ := X75.leave (v := some (.int (0 : Int32))) (fun h => by rw [Bd.returns] at h; cases h)
  refine ⟨_, _, pre76 _ ?_, hrun, hended, _, _, rfl, ?_, ⟨_, rfl⟩, hW, hsame.mono (by decide) (by decide)⟩
  · show Steps p.tables e below (T75.setTop (mkF m 4 #[.val (.ref a0), .val (.ref a1)] [(.int (0 : Int32))])) _
    refine XS.ifYes X75.here hx rfl (pc0 := 4) (pc' := 40) rfl (hb hby d4_4) rfl ((if0 _ _).trans (teq (by decide : (0 : Int32) = (0 : Int32))).1) (by decide) (by decide) ?_
    show Steps p.tables e below (T75.setTop (mkF m 40 #[.val (.ref a0), .val (.ref a1)] [])) _
    refine XS.iconst X75.here hx rfl (hb hby d4_40) ?_
    show Steps p.tables e below (T75.setTop (mkF m 41 #[.val (.ref a0), .val (.ref a1)] [(.int (0 : Int32))])) _
    exact retN X75 hx (t := .boolean) Bd.returns (by simp) (hb hby d4_41) hr
  · show Q4_l Z a0 a1 h0 n0 _ T75.heap _
    rw [e75]
    exact ⟨rfl, N0, rfl⟩
theorem pd_2 : parseMethodDescriptor "(IJ)V" = some ⟨[.int, .long], none⟩ := by decide +kernel
theorem pd_3 : parseMethodDescriptor "(J)Ljava/lang/Long;" = some ⟨[.long], some (.object "java/lang/Long")⟩ := by decide +kernel
theorem pd_4 : parseMethodDescriptor "(Ljava/lang/Object;)Z" = some ⟨[(.object "java/lang/Object")], some .boolean⟩ := by decide +kernel
theorem pn_3 : plainName "com/example/loomfilter/loomfilter/core/ShardingEqualsPinLaw" = true := by first | (simp [plainName, overriddenIn]; done) | decide +kernel
theorem ef_0 (m : MethodId) (x0 : Int32) (x1 : Int64) (x2 : Int32) (x3 : Int64) (x4 : Int32) : entryFrame m #[(.int x0), (.long x1), (.int x2), (.long x3), (.int x4)] maxLocals = mkF m 0 #[.val (.int x0), .val (.long x1), .second, .val (.int x2), .val (.long x3), .second, .val (.int x4), .unset, .unset, .unset, .unset, .unset, .unset, .unset, .unset, .unset] [] := by first | (simp [entryFrame, mkF, argsToLocals, Value.category, maxLocals]; done) | rfl
def Q0 (Z : State) (p0 : Int32) (q1 : Int64) (p2 : Int32) (q3 : Int64) (p4 : Int32) (s_cache : Addr) (h0 : Heap) (n0 : Nat) (v : Option Value) (h : Heap) (L : List Loc) : Prop := v = some (.int 1) ∧ Fr n0 L
theorem own_leaf1 {p0 : Int32} {q1 : Int64} {p2 : Int32} {q3 : Int64} {p4 : Int32} {v81 : Int32} {u87 : Int64} {v119 : Int32} {v130 : Int32} (hv81 : v81 = (if (p4 &&& (1 : Int32)) = (0 : Int32) then p2 else p0)) (hu87 : u87 = (if (p4 &&& (2 : Int32)) = (0 : Int32) then q3 else q1)) (hv119 : v119 = (((p4.toUInt32 >>> ((2 : Int32) &&& 31).toUInt32).toInt32) &&& (3 : Int32))) (hc69_122 : v119 = (0 : Int32)) (hv130 : v130 = (if p0 = v81 then (if q1 = u87 then (1 : Int32) else (0 : Int32)) else (0 : Int32))) (hc146_136 : ¬ ((f4_y p0 v81 q1 u87) = v130)) : False := by
  exact hc146_136 (by rw [hv130]; rfl)
theorem own_leaf2 {p0 : Int32} {q1 : Int64} {p2 : Int32} {q3 : Int64} {p4 : Int32} {v81 : Int32} {u87 : Int64} {v119 : Int32} (hv81 : v81 = (if (p4 &&& (1 : Int32)) = (0 : Int32) then p2 else p0)) (hu87 : u87 = (if (p4 &&& (2 : Int32)) = (0 : Int32) then q3 else q1)) (hv119 : v119 = (((p4.toUInt32 >>> ((2 : Int32) &&& 31).toUInt32).toInt32) &&& (3 : Int32))) (hc69_122 : ¬ (v119 = (0 : Int32))) (hc102_139 : ¬ (v119 = (1 : Int32))) (hc117_144 : ¬ (v119 = (2 : Int32))) (hc146_152 : ¬ ((f4_y p0 p0 q1 q1) = (1 : Int32))) : False := by
  exact hc146_152 (by unfold f4_y; rw [if_pos rfl, if_pos rfl])
set_option maxRecDepth 65536 in
set_option maxHeartbeats 40000000 in
theorem rm0 (l : Launch) (Z : State) (ar0 : Array Value) (hw : ∀ d ∈ tables_1, d.before ar0 Z = true) (ws : List Jvm.Cond) (p0 : Int32) (q1 : Int64) (p2 : Int32) (q3 : Int64) (p4 : Int32) (s_cache : Addr) (h0 : Heap) (n0 : Nat) (Z0 : n0 ≤ h0.size) (hC : own_Cache Z h0 s_cache) :
    MetFree l x (head1 (Jvm.Cond.code x code maxLocals ret :: ws) room_1) (fun a U => a = #[(.int p0), (.long q1), (.int p2), (.long q3), (.int p4)] ∧ Z.Warmed39 U.vm ∧ U.heap = h0) (fun _ _ _ _ _ => True) (fun _ U o U' => ∃ v L, o = .returned v ∧ Q0 Z p0 q1 p2 q3 p4 s_cache h0 n0 v U'.heap L ∧ FrameEnd U o U' L room_1.cells room_1.slots) := by
  refine MetFree.of_bodySF (plainFor_of_name pn_3) hisR ?_
  intro p e s m args below meth c s₁ Bd hml0 hP hK
  obtain ⟨rfl, hZ, hh⟩ := hP
  have hx := Bd.exec
  have hby := Bd.bytes
  have hml : c.maxLocals = 16 := hml0
  have hown : s.vm.findClass "com/example/loomfilter/loomfilter/core/ShardingEqualsPinLaw" = some m.cls := findClass_of_methodNamed Bd.named
  have hnm := (name_of_methodNamed Bd.named Bd.method).1
  have X0 : Stand p l e room_1 s m #[(.int p0), (.long q1), (.int p2), (.long q3), (.int p4)] below meth c s₁ [] 0 0 := Stand.of_body Bd
  have e0 : s₁.heap = h0 := by rw [← hh, Bd.state]; rfl
  have N0 := Fr.nil n0
  have pre0 : ∀ t, Steps p.tables e below (s₁.setTop (mkF m 0 #[.val (.int p0), .val (.long q1), .second, .val (.int p2), .val (.long q3), .second, .val (.int p4), .unset, .unset, .unset, .unset, .unset, .unset, .unset, .unset, .unset] [])) t → Steps p.tables e below (s₁.setTop (entryFrame m #[(.int p0), (.long q1), (.int p2), (.long q3), (.int p4)] maxLocals)) t := fun t k => castTop (ef_0 m p0 q1 p2 q3 p4) k
  have pre77 : ∀ t, Steps p.tables e below (s₁.setTop (mkF m 4 #[.val (.int p0), .val (.long q1), .second, .val (.int p2), .val (.long q3), .second, .val (.int p4), .unset, .unset, .unset, .unset, .unset, .unset, .unset, .unset, .unset] [(.int (p4 &&& (1 : Int32)))])) t → Steps p.tables e below (s₁.setTop (entryFrame m #[(.int p0), (.long q1), (.int p2), (.long q3), (.int p4)] maxLocals)) t := by
    intro t k
    refine pre0 t ?_
    show Steps p.tables e below (s₁.setTop (mkF m 0 #[.val (.int p0), .val (.long q1), .second, .val (.int p2), .val (.long q3), .second, .val (.int p4), .unset, .unset, .unset, .unset, .unset, .unset, .unset, .unset, .unset] [])) _
    refine XS.iload X0.here hx rfl (hb hby at_0) rfl ?_
    show Steps p.tables e below (s₁.setTop (mkF m 2 #[.val (.int p0), .val (.long q1), .second, .val (.int p2), .val (.long q3), .second, .val (.int p4), .unset, .unset, .unset, .unset, .unset, .unset, .unset, .unset, .unset] [(.int p4)])) _
    refine XS.iconst X0.here hx rfl (hb hby at_2) ?_
    show Steps p.tables e below (s₁.setTop (mkF m 3 #[.val (.int p0), .val (.long q1), .second, .val (.int p2), .val (.long q3), .second, .val (.int p4), .unset, .unset, .unset, .unset, .unset, .unset, .unset, .unset, .unset] [(.int (1 : Int32)), (.int p4)])) _
    refine XS.iand X0.here hx rfl (hb hby at_3) rfl ?_
    show Steps p.tables e below (s₁.setTop (mkF m 4 #[.val (.int p0), .val (.long q1), .second, .val (.int p2), .val (.long q3), .second, .val (.int p4), .unset, .unset, .unset, .unset, .unset, .unset, .unset, .unset, .unset] [(.int (p4 &&& (1 : Int32)))])) _
    exact k
  obtain ⟨v81, pre82, hv81⟩ : ∃ (v81 : Int32), (∀ t, Steps p.tables e below (s₁.setTop (mkF m 12 #[.val (.int p0), .val (.long q1), .second, .val (.int p2), .val (.long q3), .second, .val (.int p4), .unset, .unset, .unset, .unset, .unset, .unset, .unset, .unset, .unset] [(.int v81)])) t → Steps p.tables e below (s₁.setTop (entryFrame m #[(.int p0), (.long q1), (.int p2), (.long q3), (.int p4)] maxLocals)) t) ∧ v81 = (if (p4 &&& (1 : Int32)) = (0 : Int32) then p2 else p0) := by
    by_cases hc4_78 : (p4 &&& (1 : Int32)) = (0 : Int32)
    · have pre79 : ∀ t, Steps p.tables e below (s₁.setTop (mkF m 12 #[.val (.int p0), .val (.long q1), .second, .val (.int p2), .val (.long q3), .second, .val (.int p4), .unset, .unset, .unset, .unset, .unset, .unset, .unset, .unset, .unset] [(.int p2)])) t → Steps p.tables e below (s₁.setTop (entryFrame m #[(.int p0), (.long q1), (.int p2), (.long q3), (.int p4)] maxLocals)) t := by
        intro t k
        refine pre77 t ?_
        show Steps p.tables e below (s₁.setTop (mkF m 4 #[.val (.int p0), .val (.long q1), .second, .val (.int p2), .val (.long q3), .second, .val (.int p4), .unset, .unset, .unset, .unset, .unset, .unset, .unset, .unset, .unset] [(.int (p4 &&& (1 : Int32)))])) _
        refine XS.ifYes X0.here hx rfl (pc0 := 4) (pc' := 11) rfl (hb hby at_4) rfl ((if0 _ _).trans (teq hc4_78).1) (by decide) (by decide) ?_
        show Steps p.tables e below (s₁.setTop (mkF m 11 #[.val (.int p0), .val (.long q1), .second, .val (.int p2), .val (.long q3), .second, .val (.int p4), .unset, .unset, .unset, .unset, .unset, .unset, .unset, .unset, .unset] [])) _
        refine XS.iloadN X0.here hx rfl (hb hby at_11) rfl ?_
        show Steps p.tables e below (s₁.setTop (mkF m 12 #[.val (.int p0), .val (.long q1), .second, .val (.int p2), .val (.long q3), .second, .val (.int p4), .unset, .unset, .unset, .unset, .unset, .unset, .unset, .unset, .unset] [(.int p2)])) _
        exact k
      exact ⟨p2, pre79, by rw [if_pos hc4_78]⟩
    · have pre80 : ∀ t, Steps p.tables e below (s₁.setTop (mkF m 12 #[.val (.int p0), .val (.long q1), .second, .val (.int p2), .val (.long q3), .second, .val (.int p4), .unset, .unset, .unset, .unset, .unset, .unset, .unset, .unset, .unset] [(.int p0)])) t → Steps p.tables e below (s₁.setTop (entryFrame m #[(.int p0), (.long q1), (.int p2), (.long q3), (.int p4)] maxLocals)) t := by
        intro t k
        refine pre77 t ?_
        show Steps p.tables e below (s₁.setTop (mkF m 4 #[.val (.int p0), .val (.long q1), .second, .val (.int p2), .val (.long q3), .second, .val (.int p4), .unset, .unset, .unset, .unset, .unset, .unset, .unset, .unset, .unset] [(.int (p4 &&& (1 : Int32)))])) _
        refine XS.ifNo X0.here hx rfl (hb hby at_4) rfl ((if0 _ _).trans (feq hc4_78).1) ?_
        show Steps p.tables e below (s₁.setTop (mkF m 7 #[.val (.int p0), .val (.long q1), .second, .val (.int p2), .val (.long q3), .second, .val (.int p4), .unset, .unset, .unset, .unset, .unset, .unset, .unset, .unset, .unset] [])) _
        refine XS.iloadN X0.here hx rfl (hb hby at_7) rfl ?_
        show Steps p.tables e below (s₁.setTop (mkF m 8 #[.val (.int p0), .val (.long q1), .second, .val (.int p2), .val (.long q3), .second, .val (.int p4), .unset, .unset, .unset, .unset, .unset, .unset, .unset, .unset, .unset] [(.int p0)])) _
        refine XS.goto X0.here hx rfl (pc0 := 8) (pc' := 12) rfl (hb hby at_8) (by decide) (by decide) ?_
        show Steps p.tables e below (s₁.setTop (mkF m 12 #[.val (.int p0), .val (.long q1), .second, .val (.int p2), .val (.long q3), .second, .val (.int p4), .unset, .unset, .unset, .unset, .unset, .unset, .unset, .unset, .unset] [(.int p0)])) _
        exact k
      exact ⟨p0, pre80, by rw [if_neg hc4_78]⟩
  have pre83 : ∀ t, Steps p.tables e below (s₁.setTop (mkF m 18 #[.val (.int p0), .val (.long q1), .second, .val (.int p2), .val (.long q3), .second, .val (.int p4), .val (.int v81), .unset, .unset, .unset, .unset, .unset, .unset, .unset, .unset] [(.int (p4 &&& (2 : Int32)))])) t → Steps p.tables e below (s₁.setTop (entryFrame m #[(.int p0), (.long q1), (.int p2), (.long q3), (.int p4)] maxLocals)) t := by
    intro t k
    refine pre82 t ?_
    show Steps p.tables e below (s₁.setTop (mkF m 12 #[.val (.int p0), .val (.long q1), .second, .val (.int p2), .val (.long q3), .second, .val (.int p4), .unset, .unset, .unset, .unset, .unset, .unset, .unset, .unset, .unset] [(.int v81)])) _
    refine XS.istore X0.here hx rfl (hb hby at_12) rfl (l' := #[.val (.int p0), .val (.long q1), .second, .val (.int p2), .val (.long q3), .second, .val (.int p4), .val (.int v81), .unset, .unset, .unset, .unset, .unset, .unset, .unset, .unset]) rfl ?_
    show Steps p.tables e below (s₁.setTop (mkF m 14 #[.val (.int p0), .val (.long q1), .second, .val (.int p2), .val (.long q3), .second, .val (.int p4), .val (.int v81), .unset, .unset, .unset, .unset, .unset, .unset, .unset, .unset] [])) _
    refine XS.iload X0.here hx rfl (hb hby at_14) rfl ?_
    show Steps p.tables e below (s₁.setTop (mkF m 16 #[.val (.int p0), .val (.long q1), .second, .val (.int p2), .val (.long q3), .second, .val (.int p4), .val (.int v81), .unset, .unset, .unset, .unset, .unset, .unset, .unset, .unset] [(.int p4)])) _
    refine XS.iconst X0.here hx rfl (hb hby at_16) ?_
    show Steps p.tables e below (s₁.setTop (mkF m 17 #[.val (.int p0), .val (.long q1), .second, .val (.int p2), .val (.long q3), .second, .val (.int p4), .val (.int v81), .unset, .unset, .unset, .unset, .unset, .unset, .unset, .unset] [(.int (2 : Int32)), (.int p4)])) _
    refine XS.iand X0.here hx rfl (hb hby at_17) rfl ?_
    show Steps p.tables e below (s₁.setTop (mkF m 18 #[.val (.int p0), .val (.long q1), .second, .val (.int p2), .val (.long q3), .second, .val (.int p4), .val (.int v81), .unset, .unset, .unset, .unset, .unset, .unset, .unset, .unset] [(.int (p4 &&& (2 : Int32)))])) _
    exact k
  obtain ⟨u87, pre88, hu87⟩ : ∃ (u87 : Int64), (∀ t, Steps p.tables e below (s₁.setTop (mkF m 27 #[.val (.int p0), .val (.long q1), .second, .val (.int p2), .val (.long q3), .second, .val (.int p4), .val (.int v81), .unset, .unset, .unset, .unset, .unset, .unset, .unset, .unset] [(.long u87)])) t → Steps p.tables e below (s₁.setTop (entryFrame m #[(.int p0), (.long q1), (.int p2), (.long q3), (.int p4)] maxLocals)) t) ∧ u87 = (if (p4 &&& (2 : Int32)) = (0 : Int32) then q3 else q1) := by
    by_cases hc18_84 : (p4 &&& (2 : Int32)) = (0 : Int32)
    · have pre85 : ∀ t, Steps p.tables e below (s₁.setTop (mkF m 27 #[.val (.int p0), .val (.long q1), .second, .val (.int p2), .val (.long q3), .second, .val (.int p4), .val (.int v81), .unset, .unset, .unset, .unset, .unset, .unset, .unset, .unset] [(.long q3)])) t → Steps p.tables e below (s₁.setTop (entryFrame m #[(.int p0), (.long q1), (.int p2), (.long q3), (.int p4)] maxLocals)) t := by
        intro t k
        refine pre83 t ?_
        show Steps p.tables e below (s₁.setTop (mkF m 18 #[.val (.int p0), .val (.long q1), .second, .val (.int p2), .val (.long q3), .second, .val (.int p4), .val (.int v81), .unset, .unset, .unset, .unset, .unset, .unset, .unset, .unset] [(.int (p4 &&& (2 : Int32)))])) _
        refine XS.ifYes X0.here hx rfl (pc0 := 18) (pc' := 25) rfl (hb hby at_18) rfl ((if0 _ _).trans (teq hc18_84).1) (by decide) (by decide) ?_
        show Steps p.tables e below (s₁.setTop (mkF m 25 #[.val (.int p0), .val (.long q1), .second, .val (.int p2), .val (.long q3), .second, .val (.int p4), .val (.int v81), .unset, .unset, .unset, .unset, .unset, .unset, .unset, .unset] [])) _
        refine XS.lload X0.here hx rfl (hb hby at_25) rfl ?_
        show Steps p.tables e below (s₁.setTop (mkF m 27 #[.val (.int p0), .val (.long q1), .second, .val (.int p2), .val (.long q3), .second, .val (.int p4), .val (.int v81), .unset, .unset, .unset, .unset, .unset, .unset, .unset, .unset] [(.long q3)])) _
        exact k
      exact ⟨q3, pre85, by rw [if_pos hc18_84]⟩
    · have pre86 : ∀ t, Steps p.tables e below (s₁.setTop (mkF m 27 #[.val (.int p0), .val (.long q1), .second, .val (.int p2), .val (.long q3), .second, .val (.int p4), .val (.int v81), .unset, .unset, .unset, .unset, .unset, .unset, .unset, .unset] [(.long q1)])) t → Steps p.tables e below (s₁.setTop (entryFrame m #[(.int p0), (.long q1), (.int p2), (.long q3), (.int p4)] maxLocals)) t := by
        intro t k
        refine pre83 t ?_
        show Steps p.tables e below (s₁.setTop (mkF m 18 #[.val (.int p0), .val (.long q1), .second, .val (.int p2), .val (.long q3), .second, .val (.int p4), .val (.int v81), .unset, .unset, .unset, .unset, .unset, .unset, .unset, .unset] [(.int (p4 &&& (2 : Int32)))])) _
        refine XS.ifNo X0.here hx rfl (hb hby at_18) rfl ((if0 _ _).trans (feq hc18_84).1) ?_
        show Steps p.tables e below (s₁.setTop (mkF m 21 #[.val (.int p0), .val (.long q1), .second, .val (.int p2), .val (.long q3), .second, .val (.int p4), .val (.int v81), .unset, .unset, .unset, .unset, .unset, .unset, .unset, .unset] [])) _
        refine XS.lloadN X0.here hx rfl (hb hby at_21) rfl ?_
        show Steps p.tables e below (s₁.setTop (mkF m 22 #[.val (.int p0), .val (.long q1), .second, .val (.int p2), .val (.long q3), .second, .val (.int p4), .val (.int v81), .unset, .unset, .unset, .unset, .unset, .unset, .unset, .unset] [(.long q1)])) _
        refine XS.goto X0.here hx rfl (pc0 := 22) (pc' := 27) rfl (hb hby at_22) (by decide) (by decide) ?_
        show Steps p.tables e below (s₁.setTop (mkF m 27 #[.val (.int p0), .val (.long q1), .second, .val (.int p2), .val (.long q3), .second, .val (.int p4), .val (.int v81), .unset, .unset, .unset, .unset, .unset, .unset, .unset, .unset] [(.long q1)])) _
        exact k
      exact ⟨q1, pre86, by rw [if_neg hc18_84]⟩
  have pre89 : ∀ t, Steps p.tables e below (s₁.setTop (mkF m 29 #[.val (.int p0), .val (.long q1), .second, .val (.int p2), .val (.long q3), .second, .val (.int p4), .val (.int v81), .val (.long u87), .second, .unset, .unset, .unset, .unset, .unset, .unset] [])) t → Steps p.tables e below (s₁.setTop (entryFrame m #[(.int p0), (.long q1), (.int p2), (.long q3), (.int p4)] maxLocals)) t := by
    intro t k
    refine pre88 t ?_
    show Steps p.tables e below (s₁.setTop (mkF m 27 #[.val (.int p0), .val (.long q1), .second, .val (.int p2), .val (.long q3), .second, .val (.int p4), .val (.int v81), .unset, .unset, .unset, .unset, .unset, .unset, .unset, .unset] [(.long u87)])) _
    refine XS.lstore X0.here hx rfl (hb hby at_27) rfl (l' := #[.val (.int p0), .val (.long q1), .second, .val (.int p2), .val (.long q3), .second, .val (.int p4), .val (.int v81), .val (.long u87), .second, .unset, .unset, .unset, .unset, .unset, .unset]) rfl ?_
    show Steps p.tables e below (s₁.setTop (mkF m 29 #[.val (.int p0), .val (.long q1), .second, .val (.int p2), .val (.long q3), .second, .val (.int p4), .val (.int v81), .val (.long u87), .second, .unset, .unset, .unset, .unset, .unset, .unset] [])) _
    exact k
  obtain ⟨T90, h90, X90, e90, E90, A90, D90, -, st90⟩ := newO X0 hx hZ hown (hw _ (List.mem_of_getElem? (i := 0) rfl)) (hw _ (List.mem_of_getElem? (i := 1) rfl)) (hw _ (List.mem_of_getElem? (i := 2) rfl)) e0 (g := (mkF m 29 #[.val (.int p0), .val (.long q1), .second, .val (.int p2), .val (.long q3), .second, .val (.int p4), .val (.int v81), .val (.long u87), .second, .unset, .unset, .unset, .unset, .unset, .unset] [])) rfl (hb hby at_29) (by decide) (by decide)
  obtain ⟨b90, g90⟩ : ∃ z, z = h0.size := ⟨_, rfl⟩
  rw [← g90] at A90 D90 st90
  have g_b90 : n0 ≤ b90 := Nat.le_trans Z0 (Nat.le_of_eq g90.symm)
  have sz_b90 : h0.size ≤ b90 := Nat.le_trans (Keep.refl h0 []).1 (Nat.le_of_eq g90.symm)
  have Z90 : n0 ≤ h90.size := Nat.le_trans Z0 E90.1
  have K90 : Keep h0 h90 [] := (Keep.refl h0 []).ext E90
  have Fshards_b90 : Fld Z h90 b90 "com/example/loomfilter/loomfilter/core/Sharding" "shards" "I" (.int (0 : Int32)) := D90 (Or.inr (hw _ (List.mem_of_getElem? (i := 10) rfl))) (ty := .int) (by decide)
  have FshardBits_b90 : Fld Z h90 b90 "com/example/loomfilter/loomfilter/core/Sharding" "shardBits" "J" (.long (0 : Int64)) := D90 (Or.inr (hw _ (List.mem_of_getElem? (i := 12) rfl))) (ty := .long) (by decide)
  have pre91 : ∀ t, Steps p.tables e below (T90.setTop (mkF m 32 #[.val (.int p0), .val (.long q1), .second, .val (.int p2), .val (.long q3), .second, .val (.int p4), .val (.int v81), .val (.long u87), .second, .unset, .unset, .unset, .unset, .unset, .unset] [(.ref b90)])) t → Steps p.tables e below (s₁.setTop (entryFrame m #[(.int p0), (.long q1), (.int p2), (.long q3), (.int p4)] maxLocals)) t := fun t k => pre89 t (st90 t k)
  have pre92 : ∀ t, Steps p.tables e below (T90.setTop (mkF m 35 #[.val (.int p0), .val (.long q1), .second, .val (.int p2), .val (.long q3), .second, .val (.int p4), .val (.int v81), .val (.long u87), .second, .unset, .unset, .unset, .unset, .unset, .unset] [(.long q1), (.int p0), (.ref b90), (.ref b90)])) t → Steps p.tables e below (s₁.setTop (entryFrame m #[(.int p0), (.long q1), (.int p2), (.long q3), (.int p4)] maxLocals)) t := by
    intro t k
    refine pre91 t ?_
    show Steps p.tables e below (T90.setTop (mkF m 32 #[.val (.int p0), .val (.long q1), .second, .val (.int p2), .val (.long q3), .second, .val (.int p4), .val (.int v81), .val (.long u87), .second, .unset, .unset, .unset, .unset, .unset, .unset] [(.ref b90)])) _
    refine XS.dup X90.here hx rfl (hb hby at_32) rfl rfl ?_
    show Steps p.tables e below (T90.setTop (mkF m 33 #[.val (.int p0), .val (.long q1), .second, .val (.int p2), .val (.long q3), .second, .val (.int p4), .val (.int v81), .val (.long u87), .second, .unset, .unset, .unset, .unset, .unset, .unset] [(.ref b90), (.ref b90)])) _
    refine XS.iloadN X90.here hx rfl (hb hby at_33) rfl ?_
    show Steps p.tables e below (T90.setTop (mkF m 34 #[.val (.int p0), .val (.long q1), .second, .val (.int p2), .val (.long q3), .second, .val (.int p4), .val (.int v81), .val (.long u87), .second, .unset, .unset, .unset, .unset, .unset, .unset] [(.int p0), (.ref b90), (.ref b90)])) _
    refine XS.lloadN X90.here hx rfl (hb hby at_34) rfl ?_
    show Steps p.tables e below (T90.setTop (mkF m 35 #[.val (.int p0), .val (.long q1), .second, .val (.int p2), .val (.long q3), .second, .val (.int p4), .val (.int v81), .val (.long u87), .second, .unset, .unset, .unset, .unset, .unset, .unset] [(.long q1), (.int p0), (.ref b90), (.ref b90)])) _
    exact k
  obtain ⟨_, _, ⟨T93, L93, k93, n93⟩, -, X93, ⟨Lc93, hQ93, l93, y93, z93⟩, st93⟩ := X90.specialBack hx (y := (⟨"com/example/loomfilter/loomfilter/core/Sharding", "<init>", "(IJ)V"⟩ : MethodName)) rfl hown (mvT hZ (hw _ (List.mem_of_getElem? (i := 3) rfl))) (mvT hZ (hw _ (List.mem_of_getElem? (i := 4) rfl))) (mvT hZ (hw _ (List.mem_of_getElem? (i := 5) rfl))) (by decide) (backOf (W := 1) (rm1 l Z ar0 hw [] b90 p0 q1 (0 : Int64) (0 : Int32) h90 n0 Z90 FshardBits_b90 A90 Fshards_b90 g_b90) hZ (hw _ (List.mem_of_getElem? (i := 5) rfl)) (hw _ (List.mem_of_getElem? (i := 2) rfl)) (by decide) (by decide)) (g := (mkF m 35 #[.val (.int p0), .val (.long q1), .second, .val (.int p2), .val (.long q3), .second, .val (.int p4), .val (.int v81), .val (.long u87), .second, .unset, .unset, .unset, .unset, .unset, .unset] [(.long q1), (.int p0), (.ref b90), (.ref b90)])) rfl (by rw [hml]; rfl) (Steps.refl _) (a := b90) (argsL := [(.int p0), (.long q1)]) (rest := [(.ref b90)]) (lenOf pd_2 rfl) rfl (by show 2 * 0 + _ ≤ _; exact Nat.le_of_eq rfl) (hb hby at_35) (fun _ _ => ⟨rfl, e90, (by decide : 1 + 0 ≤ _), (by decide : 2 + 0 ≤ _)⟩)
  dsimp only [Pt.U, Pt.locs, Pt.cells, Pt.slots] at X93 l93 y93 z93 st93 hQ93
  subst l93 y93 z93
  obtain ⟨h93, e93⟩ : ∃ h, T93.heap = h := ⟨_, rfl⟩
  rw [e93] at hQ93
  obtain ⟨rfl, N93q, K93q, Q93_0, Q93_1, Q93_2⟩ := hQ93
  have N93 := Fr.app N0 N93q
  have Z93 : n0 ≤ h93.size := Nat.le_trans Z90 K93q.1
  have K93 : Keep h0 h93 [] := K90.trans K93q (fun x hx => by cases List.mem_singleton.mp hx; exact Or.inr sz_b90)
  have Ef94 : Exa Z h93 b90 "com/example/loomfilter/loomfilter/core/Sharding" := (A90).keep K93q
  have pre95 : ∀ t, Steps p.tables e below (T93.setTop (mkF m 38 #[.val (.int p0), .val (.long q1), .second, .val (.int p2), .val (.long q3), .second, .val (.int p4), .val (.int v81), .val (.long u87), .second, .unset, .unset, .unset, .unset, .unset, .unset] [(.ref b90)])) t → Steps p.tables e below (s₁.setTop (entryFrame m #[(.int p0), (.long q1), (.int p2), (.long q3), (.int p4)] maxLocals)) t := fun t k => pre92 t (st93.trans k)
  have pre96 : ∀ t, Steps p.tables e below (T93.setTop (mkF m 40 #[.val (.int p0), .val (.long q1), .second, .val (.int p2), .val (.long q3), .second, .val (.int p4), .val (.int v81), .val (.long u87), .second, .val (.ref b90), .unset, .unset, .unset, .unset, .unset] [])) t → Steps p.tables e below (s₁.setTop (entryFrame m #[(.int p0), (.long q1), (.int p2), (.long q3), (.int p4)] maxLocals)) t := by
    intro t k
    refine pre95 t ?_
    show Steps p.tables e below (T93.setTop (mkF m 38 #[.val (.int p0), .val (.long q1), .second, .val (.int p2), .val (.long q3), .second, .val (.int p4), .val (.int v81), .val (.long u87), .second, .unset, .unset, .unset, .unset, .unset, .unset] [(.ref b90)])) _
    refine XS.astore X93.here hx rfl (hb hby at_38) rfl rfl (l' := #[.val (.int p0), .val (.long q1), .second, .val (.int p2), .val (.long q3), .second, .val (.int p4), .val (.int v81), .val (.long u87), .second, .val (.ref b90), .unset, .unset, .unset, .unset, .unset]) rfl ?_
    show Steps p.tables e below (T93.setTop (mkF m 40 #[.val (.int p0), .val (.long q1), .second, .val (.int p2), .val (.long q3), .second, .val (.int p4), .val (.int v81), .val (.long u87), .second, .val (.ref b90), .unset, .unset, .unset, .unset, .unset] [])) _
    exact k
  obtain ⟨T97, h97, X97, e97, E97, A97, D97, -, st97⟩ := newO X93 hx hZ hown (hw _ (List.mem_of_getElem? (i := 0) rfl)) (hw _ (List.mem_of_getElem? (i := 1) rfl)) (hw _ (List.mem_of_getElem? (i := 2) rfl)) e93 (g := (mkF m 40 #[.val (.int p0), .val (.long q1), .second, .val (.int p2), .val (.long q3), .second, .val (.int p4), .val (.int v81), .val (.long u87), .second, .val (.ref b90), .unset, .unset, .unset, .unset, .unset] [])) rfl (hb hby at_40) (by decide) (by decide)
  obtain ⟨b97, g97⟩ : ∃ z, z = h93.size := ⟨_, rfl⟩
  rw [← g97] at A97 D97 st97
  have ne_b90_b97 : b90 ≠ b97 := Nat.ne_of_lt (Nat.lt_of_lt_of_le (Q93_0).lt (Nat.le_of_eq g97.symm))
  have g_b97 : n0 ≤ b97 := Nat.le_trans Z93 (Nat.le_of_eq g97.symm)
  have sz_b97 : h0.size ≤ b97 := Nat.le_trans K93.1 (Nat.le_of_eq g97.symm)
  have Z97 : n0 ≤ h97.size := Nat.le_trans Z93 E97.1
  have K97 : Keep h0 h97 [] := K93.ext E97
  have Ef98 : Exa Z h97 b90 "com/example/loomfilter/loomfilter/core/Sharding" := (Q93_0).ext E97
  have Ff99 : Fld Z h97 b90 "com/example/loomfilter/loomfilter/core/Sharding" "shards" "I" (.int p0) := (Q93_1).ext E97
  have Ff100 : Fld Z h97 b90 "com/example/loomfilter/loomfilter/core/Sharding" "shardBits" "J" (.long q1) := (Q93_2).ext E97
  have Fshards_b97 : Fld Z h97 b97 "com/example/loomfilter/loomfilter/core/Sharding" "shards" "I" (.int (0 : Int32)) := D97 (Or.inr (hw _ (List.mem_of_getElem? (i := 10) rfl))) (ty := .int) (by decide)
  have FshardBits_b97 : Fld Z h97 b97 "com/example/loomfilter/loomfilter/core/Sharding" "shardBits" "J" (.long (0 : Int64)) := D97 (Or.inr (hw _ (List.mem_of_getElem? (i := 12) rfl))) (ty := .long) (by decide)
  have pre101 : ∀ t, Steps p.tables e below (T97.setTop (mkF m 43 #[.val (.int p0), .val (.long q1), .second, .val (.int p2), .val (.long q3), .second, .val (.int p4), .val (.int v81), .val (.long u87), .second, .val (.ref b90), .unset, .unset, .unset, .unset, .unset] [(.ref b97)])) t → Steps p.tables e below (s₁.setTop (entryFrame m #[(.int p0), (.long q1), (.int p2), (.long q3), (.int p4)] maxLocals)) t := fun t k => pre96 t (st97 t k)
  have pre102 : ∀ t, Steps p.tables e below (T97.setTop (mkF m 48 #[.val (.int p0), .val (.long q1), .second, .val (.int p2), .val (.long q3), .second, .val (.int p4), .val (.int v81), .val (.long u87), .second, .val (.ref b90), .unset, .unset, .unset, .unset, .unset] [(.long u87), (.int v81), (.ref b97), (.ref b97)])) t → Steps p.tables e below (s₁.setTop (entryFrame m #[(.int p0), (.long q1), (.int p2), (.long q3), (.int p4)] maxLocals)) t := by
    intro t k
    refine pre101 t ?_
    show Steps p.tables e below (T97.setTop (mkF m 43 #[.val (.int p0), .val (.long q1), .second, .val (.int p2), .val (.long q3), .second, .val (.int p4), .val (.int v81), .val (.long u87), .second, .val (.ref b90), .unset, .unset, .unset, .unset, .unset] [(.ref b97)])) _
    refine XS.dup X97.here hx rfl (hb hby at_43) rfl rfl ?_
    show Steps p.tables e below (T97.setTop (mkF m 44 #[.val (.int p0), .val (.long q1), .second, .val (.int p2), .val (.long q3), .second, .val (.int p4), .val (.int v81), .val (.long u87), .second, .val (.ref b90), .unset, .unset, .unset, .unset, .unset] [(.ref b97), (.ref b97)])) _
    refine XS.iload X97.here hx rfl (hb hby at_44) rfl ?_
    show Steps p.tables e below (T97.setTop (mkF m 46 #[.val (.int p0), .val (.long q1), .second, .val (.int p2), .val (.long q3), .second, .val (.int p4), .val (.int v81), .val (.long u87), .second, .val (.ref b90), .unset, .unset, .unset, .unset, .unset] [(.int v81), (.ref b97), (.ref b97)])) _
    refine XS.lload X97.here hx rfl (hb hby at_46) rfl ?_
    show Steps p.tables e below (T97.setTop (mkF m 48 #[.val (.int p0), .val (.long q1), .second, .val (.int p2), .val (.long q3), .second, .val (.int p4), .val (.int v81), .val (.long u87), .second, .val (.ref b90), .unset, .unset, .unset, .unset, .unset] [(.long u87), (.int v81), (.ref b97), (.ref b97)])) _
    exact k
  obtain ⟨_, _, ⟨T103, L103, k103, n103⟩, -, X103, ⟨Lc103, hQ103, l103, y103, z103⟩, st103⟩ := X97.specialBack hx (y := (⟨"com/example/loomfilter/loomfilter/core/Sharding", "<init>", "(IJ)V"⟩ : MethodName)) rfl hown (mvT hZ (hw _ (List.mem_of_getElem? (i := 3) rfl))) (mvT hZ (hw _ (List.mem_of_getElem? (i := 4) rfl))) (mvT hZ (hw _ (List.mem_of_getElem? (i := 5) rfl))) (by decide) (backOf (W := 1) (rm1 l Z ar0 hw [] b97 v81 u87 (0 : Int64) (0 : Int32) h97 n0 Z97 FshardBits_b97 A97 Fshards_b97 g_b97) hZ (hw _ (List.mem_of_getElem? (i := 5) rfl)) (hw _ (List.mem_of_getElem? (i := 2) rfl)) (by decide) (by decide)) (g := (mkF m 48 #[.val (.int p0), .val (.long q1), .second, .val (.int p2), .val (.long q3), .second, .val (.int p4), .val (.int v81), .val (.long u87), .second, .val (.ref b90), .unset, .unset, .unset, .unset, .unset] [(.long u87), (.int v81), (.ref b97), (.ref b97)])) rfl (by rw [hml]; rfl) (Steps.refl _) (a := b97) (argsL := [(.int v81), (.long u87)]) (rest := [(.ref b97)]) (lenOf pd_2 rfl) rfl (by show 2 * 0 + _ ≤ _; exact Nat.le_of_eq rfl) (hb hby at_48) (fun _ _ => ⟨rfl, e97, (by decide : 2 + 0 ≤ _), (by decide : 4 + 0 ≤ _)⟩)
  dsimp only [Pt.U, Pt.locs, Pt.cells, Pt.slots] at X103 l103 y103 z103 st103 hQ103
  subst l103 y103 z103
  obtain ⟨h103, e103⟩ : ∃ h, T103.heap = h := ⟨_, rfl⟩
  rw [e103] at hQ103
  obtain ⟨rfl, N103q, K103q, Q103_0, Q103_1, Q103_2⟩ := hQ103
  have N103 := Fr.app N93 N103q
  have Z103 : n0 ≤ h103.size := Nat.le_trans Z97 K103q.1
  have K103 : Keep h0 h103 [] := K97.trans K103q (fun x hx => by cases List.mem_singleton.mp hx; exact Or.inr sz_b97)
  have Ef104 : Exa Z h103 b90 "com/example/loomfilter/loomfilter/core/Sharding" := (Ef98).keep K103q
  have Ff105 : Fld Z h103 b90 "com/example/loomfilter/loomfilter/core/Sharding" "shards" "I" (.int p0) := (Ff99).keep K103q (fun q => absurd (List.mem_singleton.mp q) ne_b90_b97)
  have Ff106 : Fld Z h103 b90 "com/example/loomfilter/loomfilter/core/Sharding" "shardBits" "J" (.long q1) := (Ff100).keep K103q (fun q => absurd (List.mem_singleton.mp q) ne_b90_b97)
  have Ef107 : Exa Z h103 b97 "com/example/loomfilter/loomfilter/core/Sharding" := (A97).keep K103q
  have pre108 : ∀ t, Steps p.tables e below (T103.setTop (mkF m 51 #[.val (.int p0), .val (.long q1), .second, .val (.int p2), .val (.long q3), .second, .val (.int p4), .val (.int v81), .val (.long u87), .second, .val (.ref b90), .unset, .unset, .unset, .unset, .unset] [(.ref b97)])) t → Steps p.tables e below (s₁.setTop (entryFrame m #[(.int p0), (.long q1), (.int p2), (.long q3), (.int p4)] maxLocals)) t := fun t k => pre102 t (st103.trans k)
  have pre109 : ∀ t, Steps p.tables e below (T103.setTop (mkF m 54 #[.val (.int p0), .val (.long q1), .second, .val (.int p2), .val (.long q3), .second, .val (.int p4), .val (.int v81), .val (.long u87), .second, .val (.ref b90), .val (.ref b97), .unset, .unset, .unset, .unset] [(.long q1)])) t → Steps p.tables e below (s₁.setTop (entryFrame m #[(.int p0), (.long q1), (.int p2), (.long q3), (.int p4)] maxLocals)) t := by
    intro t k
    refine pre108 t ?_
    show Steps p.tables e below (T103.setTop (mkF m 51 #[.val (.int p0), .val (.long q1), .second, .val (.int p2), .val (.long q3), .second, .val (.int p4), .val (.int v81), .val (.long u87), .second, .val (.ref b90), .unset, .unset, .unset, .unset, .unset] [(.ref b97)])) _
    refine XS.astore X103.here hx rfl (hb hby at_51) rfl rfl (l' := #[.val (.int p0), .val (.long q1), .second, .val (.int p2), .val (.long q3), .second, .val (.int p4), .val (.int v81), .val (.long u87), .second, .val (.ref b90), .val (.ref b97), .unset, .unset, .unset, .unset]) rfl ?_
    show Steps p.tables e below (T103.setTop (mkF m 53 #[.val (.int p0), .val (.long q1), .second, .val (.int p2), .val (.long q3), .second, .val (.int p4), .val (.int v81), .val (.long u87), .second, .val (.ref b90), .val (.ref b97), .unset, .unset, .unset, .unset] [])) _
    refine XS.lloadN X103.here hx rfl (hb hby at_53) rfl ?_
    show Steps p.tables e below (T103.setTop (mkF m 54 #[.val (.int p0), .val (.long q1), .second, .val (.int p2), .val (.long q3), .second, .val (.int p4), .val (.int v81), .val (.long u87), .second, .val (.ref b90), .val (.ref b97), .unset, .unset, .unset, .unset] [(.long q1)])) _
    exact k
  obtain ⟨_, _, ⟨T110, L110, k110, n110⟩, -, X110, ⟨Lc110, hQ110, l110, y110, z110⟩, st110⟩ := Jvm.LawKit.callS X103 hx (y := (⟨"java/lang/Long", "valueOf", "(J)Ljava/lang/Long;"⟩ : MethodName)) hown (mvT hZ (hw _ (List.mem_of_getElem? (i := 13) rfl))) (mvT hZ (hw _ (List.mem_of_getElem? (i := 14) rfl))) (mvT hZ (hw _ (List.mem_of_getElem? (i := 15) rfl))) (mvT hZ (hw _ (List.mem_of_getElem? (i := 16) rfl))) (by decide) (backOf (W := 0) (rm3 l Z ar0 hw [] q1 s_cache h103 n0 Z103 (own_Cache_keep hC K103)) hZ (hw _ (List.mem_of_getElem? (i := 16) rfl)) (hw _ (List.mem_of_getElem? (i := 15) rfl)) (by decide) (by decide)) (g := (mkF m 54 #[.val (.int p0), .val (.long q1), .second, .val (.int p2), .val (.long q3), .second, .val (.int p4), .val (.int v81), .val (.long u87), .second, .val (.ref b90), .val (.ref b97), .unset, .unset, .unset, .unset] [(.long q1)])) rfl (by rw [hml]; rfl) (argsL := [(.long q1)]) (rest := []) (lenOf pd_3 rfl) rfl (by show 2 * 0 + _ ≤ _; exact Nat.le_of_eq rfl) (hb hby at_54) (fun _ _ => ⟨rfl, e103, (by decide : 2 + 1 ≤ _), (by decide : 4 + 1 ≤ _)⟩)
  dsimp only [Pt.U, Pt.locs, Pt.cells, Pt.slots] at X110 l110 y110 z110 st110 hQ110
  subst l110 y110 z110
  obtain ⟨h110, e110⟩ : ∃ h, T110.heap = h := ⟨_, rfl⟩
  rw [e110] at hQ110
  obtain ⟨b110, rfl, N110q, K110q, Ob110_0⟩ := hQ110
  have N110 := Fr.app N103 N110q
  have Z110 : n0 ≤ h110.size := Nat.le_trans Z103 K110q.1
  have K110 : Keep h0 h110 [] := K103.trans K110q (fun x hx => absurd hx List.not_mem_nil)
  have Ef111 : Exa Z h110 b90 "com/example/loomfilter/loomfilter/core/Sharding" := (Ef104).keep K110q
  have Ff112 : Fld Z h110 b90 "com/example/loomfilter/loomfilter/core/Sharding" "shards" "I" (.int p0) := (Ff105).keep K110q List.not_mem_nil
  have Ff113 : Fld Z h110 b90 "com/example/loomfilter/loomfilter/core/Sharding" "shardBits" "J" (.long q1) := (Ff106).keep K110q List.not_mem_nil
  have Ef114 : Exa Z h110 b97 "com/example/loomfilter/loomfilter/core/Sharding" := (Q103_0).keep K110q
  have Ff115 : Fld Z h110 b97 "com/example/loomfilter/loomfilter/core/Sharding" "shards" "I" (.int v81) := (Q103_1).keep K110q List.not_mem_nil
  have Ff116 : Fld Z h110 b97 "com/example/loomfilter/loomfilter/core/Sharding" "shardBits" "J" (.long u87) := (Q103_2).keep K110q List.not_mem_nil
  have pre117 : ∀ t, Steps p.tables e below (T110.setTop (mkF m 57 #[.val (.int p0), .val (.long q1), .second, .val (.int p2), .val (.long q3), .second, .val (.int p4), .val (.int v81), .val (.long u87), .second, .val (.ref b90), .val (.ref b97), .unset, .unset, .unset, .unset] [(.ref b110)])) t → Steps p.tables e below (s₁.setTop (entryFrame m #[(.int p0), (.long q1), (.int p2), (.long q3), (.int p4)] maxLocals)) t := fun t k => pre109 t (st110 t k)
  have pre118 : ∀ t, Steps p.tables e below (T110.setTop (mkF m 65 #[.val (.int p0), .val (.long q1), .second, .val (.int p2), .val (.long q3), .second, .val (.int p4), .val (.int v81), .val (.long u87), .second, .val (.ref b90), .val (.ref b97), .val (.ref b110), .unset, .unset, .unset] [(.int (((p4.toUInt32 >>> ((2 : Int32) &&& 31).toUInt32).toInt32) &&& (3 : Int32)))])) t → Steps p.tables e below (s₁.setTop (entryFrame m #[(.int p0), (.long q1), (.int p2), (.long q3), (.int p4)] maxLocals)) t := by
    intro t k
    refine pre117 t ?_
    show Steps p.tables e below (T110.setTop (mkF m 57 #[.val (.int p0), .val (.long q1), .second, .val (.int p2), .val (.long q3), .second, .val (.int p4), .val (.int v81), .val (.long u87), .second, .val (.ref b90), .val (.ref b97), .unset, .unset, .unset, .unset] [(.ref b110)])) _
    refine XS.astore X110.here hx rfl (hb hby at_57) rfl rfl (l' := #[.val (.int p0), .val (.long q1), .second, .val (.int p2), .val (.long q3), .second, .val (.int p4), .val (.int v81), .val (.long u87), .second, .val (.ref b90), .val (.ref b97), .val (.ref b110), .unset, .unset, .unset]) rfl ?_
    show Steps p.tables e below (T110.setTop (mkF m 59 #[.val (.int p0), .val (.long q1), .second, .val (.int p2), .val (.long q3), .second, .val (.int p4), .val (.int v81), .val (.long u87), .second, .val (.ref b90), .val (.ref b97), .val (.ref b110), .unset, .unset, .unset] [])) _
    refine XS.iload X110.here hx rfl (hb hby at_59) rfl ?_
    show Steps p.tables e below (T110.setTop (mkF m 61 #[.val (.int p0), .val (.long q1), .second, .val (.int p2), .val (.long q3), .second, .val (.int p4), .val (.int v81), .val (.long u87), .second, .val (.ref b90), .val (.ref b97), .val (.ref b110), .unset, .unset, .unset] [(.int p4)])) _
    refine XS.iconst X110.here hx rfl (hb hby at_61) ?_
    show Steps p.tables e below (T110.setTop (mkF m 62 #[.val (.int p0), .val (.long q1), .second, .val (.int p2), .val (.long q3), .second, .val (.int p4), .val (.int v81), .val (.long u87), .second, .val (.ref b90), .val (.ref b97), .val (.ref b110), .unset, .unset, .unset] [(.int (2 : Int32)), (.int p4)])) _
    refine XS.iushr X110.here hx rfl (hb hby at_62) rfl ?_
    show Steps p.tables e below (T110.setTop (mkF m 63 #[.val (.int p0), .val (.long q1), .second, .val (.int p2), .val (.long q3), .second, .val (.int p4), .val (.int v81), .val (.long u87), .second, .val (.ref b90), .val (.ref b97), .val (.ref b110), .unset, .unset, .unset] [(.int ((p4.toUInt32 >>> ((2 : Int32) &&& 31).toUInt32).toInt32))])) _
    refine XS.iconst X110.here hx rfl (hb hby at_63) ?_
    show Steps p.tables e below (T110.setTop (mkF m 64 #[.val (.int p0), .val (.long q1), .second, .val (.int p2), .val (.long q3), .second, .val (.int p4), .val (.int v81), .val (.long u87), .second, .val (.ref b90), .val (.ref b97), .val (.ref b110), .unset, .unset, .unset] [(.int (3 : Int32)), (.int ((p4.toUInt32 >>> ((2 : Int32) &&& 31).toUInt32).toInt32))])) _
    refine XS.iand X110.here hx rfl (hb hby at_64) rfl ?_
    show Steps p.tables e below (T110.setTop (mkF m 65 #[.val (.int p0), .val (.long q1), .second, .val (.int p2), .val (.long q3), .second, .val (.int p4), .val (.int v81), .val (.long u87), .second, .val (.ref b90), .val (.ref b97), .val (.ref b110), .unset, .unset, .unset] [(.int (((p4.toUInt32 >>> ((2 : Int32) &&& 31).toUInt32).toInt32) &&& (3 : Int32)))])) _
    exact k
  obtain ⟨v119, hv119⟩ : ∃ z : Int32, z = (((p4.toUInt32 >>> ((2 : Int32) &&& 31).toUInt32).toInt32) &&& (3 : Int32)) := ⟨_, rfl⟩
  have pre120 : ∀ t, Steps p.tables e below (T110.setTop (mkF m 65 #[.val (.int p0), .val (.long q1), .second, .val (.int p2), .val (.long q3), .second, .val (.int p4), .val (.int v81), .val (.long u87), .second, .val (.ref b90), .val (.ref b97), .val (.ref b110), .unset, .unset, .unset] [(.int v119)])) t → Steps p.tables e below (s₁.setTop (entryFrame m #[(.int p0), (.long q1), (.int p2), (.long q3), (.int p4)] maxLocals)) t := by rw [hv119]; exact pre118
  have pre121 : ∀ t, Steps p.tables e below (T110.setTop (mkF m 69 #[.val (.int p0), .val (.long q1), .second, .val (.int p2), .val (.long q3), .second, .val (.int p4), .val (.int v81), .val (.long u87), .second, .val (.ref b90), .val (.ref b97), .val (.ref b110), .val (.int v119), .unset, .unset] [(.int v119)])) t → Steps p.tables e below (s₁.setTop (entryFrame m #[(.int p0), (.long q1), (.int p2), (.long q3), (.int p4)] maxLocals)) t := by
    intro t k
    refine pre120 t ?_
    show Steps p.tables e below (T110.setTop (mkF m 65 #[.val (.int p0), .val (.long q1), .second, .val (.int p2), .val (.long q3), .second, .val (.int p4), .val (.int v81), .val (.long u87), .second, .val (.ref b90), .val (.ref b97), .val (.ref b110), .unset, .unset, .unset] [(.int v119)])) _
    refine XS.istore X110.here hx rfl (hb hby at_65) rfl (l' := #[.val (.int p0), .val (.long q1), .second, .val (.int p2), .val (.long q3), .second, .val (.int p4), .val (.int v81), .val (.long u87), .second, .val (.ref b90), .val (.ref b97), .val (.ref b110), .val (.int v119), .unset, .unset]) rfl ?_
    show Steps p.tables e below (T110.setTop (mkF m 67 #[.val (.int p0), .val (.long q1), .second, .val (.int p2), .val (.long q3), .second, .val (.int p4), .val (.int v81), .val (.long u87), .second, .val (.ref b90), .val (.ref b97), .val (.ref b110), .val (.int v119), .unset, .unset] [])) _
    refine XS.iload X110.here hx rfl (hb hby at_67) rfl ?_
    show Steps p.tables e below (T110.setTop (mkF m 69 #[.val (.int p0), .val (.long q1), .second, .val (.int p2), .val (.long q3), .second, .val (.int p4), .val (.int v81), .val (.long u87), .second, .val (.ref b90), .val (.ref b97), .val (.ref b110), .val (.int v119), .unset, .unset] [(.int v119)])) _
    exact k
  by_cases hc69_122 : v119 = (0 : Int32)
  · have pre123 : ∀ t, Steps p.tables e below (T110.setTop (mkF m 79 #[.val (.int p0), .val (.long q1), .second, .val (.int p2), .val (.long q3), .second, .val (.int p4), .val (.int v81), .val (.long u87), .second, .val (.ref b90), .val (.ref b97), .val (.ref b110), .val (.int v119), .val (.ref b97), .unset] [(.int v81), (.int p0)])) t → Steps p.tables e below (s₁.setTop (entryFrame m #[(.int p0), (.long q1), (.int p2), (.long q3), (.int p4)] maxLocals)) t := by
      intro t k
      refine pre121 t ?_
      show Steps p.tables e below (T110.setTop (mkF m 69 #[.val (.int p0), .val (.long q1), .second, .val (.int p2), .val (.long q3), .second, .val (.int p4), .val (.int v81), .val (.long u87), .second, .val (.ref b90), .val (.ref b97), .val (.ref b110), .val (.int v119), .unset, .unset] [(.int v119)])) _
      refine XS.ifNo X110.here hx rfl (hb hby at_69) rfl ((if0 _ _).trans (teq hc69_122).2) ?_
      show Steps p.tables e below (T110.setTop (mkF m 72 #[.val (.int p0), .val (.long q1), .second, .val (.int p2), .val (.long q3), .second, .val (.int p4), .val (.int v81), .val (.long u87), .second, .val (.ref b90), .val (.ref b97), .val (.ref b110), .val (.int v119), .unset, .unset] [])) _
      refine XS.aload X110.here hx rfl (hb hby at_72) rfl rfl ?_
      show Steps p.tables e below (T110.setTop (mkF m 74 #[.val (.int p0), .val (.long q1), .second, .val (.int p2), .val (.long q3), .second, .val (.int p4), .val (.int v81), .val (.long u87), .second, .val (.ref b90), .val (.ref b97), .val (.ref b110), .val (.int v119), .unset, .unset] [(.ref b97)])) _
      refine XS.astore X110.here hx rfl (hb hby at_74) rfl rfl (l' := #[.val (.int p0), .val (.long q1), .second, .val (.int p2), .val (.long q3), .second, .val (.int p4), .val (.int v81), .val (.long u87), .second, .val (.ref b90), .val (.ref b97), .val (.ref b110), .val (.int v119), .val (.ref b97), .unset]) rfl ?_
      show Steps p.tables e below (T110.setTop (mkF m 76 #[.val (.int p0), .val (.long q1), .second, .val (.int p2), .val (.long q3), .second, .val (.int p4), .val (.int v81), .val (.long u87), .second, .val (.ref b90), .val (.ref b97), .val (.ref b110), .val (.int v119), .val (.ref b97), .unset] [])) _
      refine XS.iloadN X110.here hx rfl (hb hby at_76) rfl ?_
      show Steps p.tables e below (T110.setTop (mkF m 77 #[.val (.int p0), .val (.long q1), .second, .val (.int p2), .val (.long q3), .second, .val (.int p4), .val (.int v81), .val (.long u87), .second, .val (.ref b90), .val (.ref b97), .val (.ref b110), .val (.int v119), .val (.ref b97), .unset] [(.int p0)])) _
      refine XS.iload X110.here hx rfl (hb hby at_77) rfl ?_
      show Steps p.tables e below (T110.setTop (mkF m 79 #[.val (.int p0), .val (.long q1), .second, .val (.int p2), .val (.long q3), .second, .val (.int p4), .val (.int v81), .val (.long u87), .second, .val (.ref b90), .val (.ref b97), .val (.ref b110), .val (.int v119), .val (.ref b97), .unset] [(.int v81), (.int p0)])) _
      exact k
    obtain ⟨v130, pre131, hv130⟩ : ∃ (v130 : Int32), (∀ t, Steps p.tables e below (T110.setTop (mkF m 94 #[.val (.int p0), .val (.long q1), .second, .val (.int p2), .val (.long q3), .second, .val (.int p4), .val (.int v81), .val (.long u87), .second, .val (.ref b90), .val (.ref b97), .val (.ref b110), .val (.int v119), .val (.ref b97), .unset] [(.int v130)])) t → Steps p.tables e below (s₁.setTop (entryFrame m #[(.int p0), (.long q1), (.int p2), (.long q3), (.int p4)] maxLocals)) t) ∧ v130 = (if p0 = v81 then (if q1 = u87 then (1 : Int32) else (0 : Int32)) else (0 : Int32)) := by
      by_cases hc79_124 : p0 = v81
      · have pre125 : ∀ t, Steps p.tables e below (T110.setTop (mkF m 86 #[.val (.int p0), .val (.long q1), .second, .val (.int p2), .val (.long q3), .second, .val (.int p4), .val (.int v81), .val (.long u87), .second, .val (.ref b90), .val (.ref b97), .val (.ref b110), .val (.int v119), .val (.ref b97), .unset] [(.int (lcmpW q1 u87))])) t → Steps p.tables e below (s₁.setTop (entryFrame m #[(.int p0), (.long q1), (.int p2), (.long q3), (.int p4)] maxLocals)) t := by
          intro t k
          refine pre123 t ?_
          show Steps p.tables e below (T110.setTop (mkF m 79 #[.val (.int p0), .val (.long q1), .second, .val (.int p2), .val (.long q3), .second, .val (.int p4), .val (.int v81), .val (.long u87), .second, .val (.ref b90), .val (.ref b97), .val (.ref b110), .val (.int v119), .val (.ref b97), .unset] [(.int v81), (.int p0)])) _
          refine XS.icmpNo X110.here hx rfl (hb hby at_79) rfl (teq hc79_124).2 ?_
          show Steps p.tables e below (T110.setTop (mkF m 82 #[.val (.int p0), .val (.long q1), .second, .val (.int p2), .val (.long q3), .second, .val (.int p4), .val (.int v81), .val (.long u87), .second, .val (.ref b90), .val (.ref b97), .val (.ref b110), .val (.int v119), .val (.ref b97), .unset] [])) _
          refine XS.lloadN X110.here hx rfl (hb hby at_82) rfl ?_
          show Steps p.tables e below (T110.setTop (mkF m 83 #[.val (.int p0), .val (.long q1), .second, .val (.int p2), .val (.long q3), .second, .val (.int p4), .val (.int v81), .val (.long u87), .second, .val (.ref b90), .val (.ref b97), .val (.ref b110), .val (.int v119), .val (.ref b97), .unset] [(.long q1)])) _
          refine XS.lload X110.here hx rfl (hb hby at_83) rfl ?_
          show Steps p.tables e below (T110.setTop (mkF m 85 #[.val (.int p0), .val (.long q1), .second, .val (.int p2), .val (.long q3), .second, .val (.int p4), .val (.int v81), .val (.long u87), .second, .val (.ref b90), .val (.ref b97), .val (.ref b110), .val (.int v119), .val (.ref b97), .unset] [(.long u87), (.long q1)])) _
          refine XS.lcmp X110.here hx rfl (hb hby at_85) rfl ?_
          show Steps p.tables e below (T110.setTop (mkF m 86 #[.val (.int p0), .val (.long q1), .second, .val (.int p2), .val (.long q3), .second, .val (.int p4), .val (.int v81), .val (.long u87), .second, .val (.ref b90), .val (.ref b97), .val (.ref b110), .val (.int v119), .val (.ref b97), .unset] [(.int (lcmpW q1 u87))])) _
          exact k
        by_cases hc86_126 : q1 = u87
        · have pre127 : ∀ t, Steps p.tables e below (T110.setTop (mkF m 94 #[.val (.int p0), .val (.long q1), .second, .val (.int p2), .val (.long q3), .second, .val (.int p4), .val (.int v81), .val (.long u87), .second, .val (.ref b90), .val (.ref b97), .val (.ref b110), .val (.int v119), .val (.ref b97), .unset] [(.int (1 : Int32))])) t → Steps p.tables e below (s₁.setTop (entryFrame m #[(.int p0), (.long q1), (.int p2), (.long q3), (.int p4)] maxLocals)) t := by
            intro t k
            refine pre125 t ?_
            show Steps p.tables e below (T110.setTop (mkF m 86 #[.val (.int p0), .val (.long q1), .second, .val (.int p2), .val (.long q3), .second, .val (.int p4), .val (.int v81), .val (.long u87), .second, .val (.ref b90), .val (.ref b97), .val (.ref b110), .val (.int v119), .val (.ref b97), .unset] [(.int (lcmpW q1 u87))])) _
            refine XS.ifNo X110.here hx rfl (hb hby at_86) rfl ((if0 _ _).trans (teq (own_eqL hc86_126)).2) ?_
            show Steps p.tables e below (T110.setTop (mkF m 89 #[.val (.int p0), .val (.long q1), .second, .val (.int p2), .val (.long q3), .second, .val (.int p4), .val (.int v81), .val (.long u87), .second, .val (.ref b90), .val (.ref b97), .val (.ref b110), .val (.int v119), .val (.ref b97), .unset] [])) _
            refine XS.iconst X110.here hx rfl (hb hby at_89) ?_
            show Steps p.tables e below (T110.setTop (mkF m 90 #[.val (.int p0), .val (.long q1), .second, .val (.int p2), .val (.long q3), .second, .val (.int p4), .val (.int v81), .val (.long u87), .second, .val (.ref b90), .val (.ref b97), .val (.ref b110), .val (.int v119), .val (.ref b97), .unset] [(.int (1 : Int32))])) _
            refine XS.goto X110.here hx rfl (pc0 := 90) (pc' := 94) rfl (hb hby at_90) (by decide) (by decide) ?_
            show Steps p.tables e below (T110.setTop (mkF m 94 #[.val (.int p0), .val (.long q1), .second, .val (.int p2), .val (.long q3), .second, .val (.int p4), .val (.int v81), .val (.long u87), .second, .val (.ref b90), .val (.ref b97), .val (.ref b110), .val (.int v119), .val (.ref b97), .unset] [(.int (1 : Int32))])) _
            exact k
          exact ⟨(1 : Int32), pre127, by rw [if_pos hc79_124, if_pos hc86_126]⟩
        · have pre128 : ∀ t, Steps p.tables e below (T110.setTop (mkF m 94 #[.val (.int p0), .val (.long q1), .second, .val (.int p2), .val (.long q3), .second, .val (.int p4), .val (.int v81), .val (.long u87), .second, .val (.ref b90), .val (.ref b97), .val (.ref b110), .val (.int v119), .val (.ref b97), .unset] [(.int (0 : Int32))])) t → Steps p.tables e below (s₁.setTop (entryFrame m #[(.int p0), (.long q1), (.int p2), (.long q3), (.int p4)] maxLocals)) t := by
            intro t k
            refine pre125 t ?_
            show Steps p.tables e below (T110.setTop (mkF m 86 #[.val (.int p0), .val (.long q1), .second, .val (.int p2), .val (.long q3), .second, .val (.int p4), .val (.int v81), .val (.long u87), .second, .val (.ref b90), .val (.ref b97), .val (.ref b110), .val (.int v119), .val (.ref b97), .unset] [(.int (lcmpW q1 u87))])) _
            refine XS.ifYes X110.here hx rfl (pc0 := 86) (pc' := 93) rfl (hb hby at_86) rfl ((if0 _ _).trans (feq (own_neL hc86_126)).2) (by decide) (by decide) ?_
            show Steps p.tables e below (T110.setTop (mkF m 93 #[.val (.int p0), .val (.long q1), .second, .val (.int p2), .val (.long q3), .second, .val (.int p4), .val (.int v81), .val (.long u87), .second, .val (.ref b90), .val (.ref b97), .val (.ref b110), .val (.int v119), .val (.ref b97), .unset] [])) _
            refine XS.iconst X110.here hx rfl (hb hby at_93) ?_
            show Steps p.tables e below (T110.setTop (mkF m 94 #[.val (.int p0), .val (.long q1), .second, .val (.int p2), .val (.long q3), .second, .val (.int p4), .val (.int v81), .val (.long u87), .second, .val (.ref b90), .val (.ref b97), .val (.ref b110), .val (.int v119), .val (.ref b97), .unset] [(.int (0 : Int32))])) _
            exact k
          exact ⟨(0 : Int32), pre128, by rw [if_pos hc79_124, if_neg hc86_126]⟩
      · have pre129 : ∀ t, Steps p.tables e below (T110.setTop (mkF m 94 #[.val (.int p0), .val (.long q1), .second, .val (.int p2), .val (.long q3), .second, .val (.int p4), .val (.int v81), .val (.long u87), .second, .val (.ref b90), .val (.ref b97), .val (.ref b110), .val (.int v119), .val (.ref b97), .unset] [(.int (0 : Int32))])) t → Steps p.tables e below (s₁.setTop (entryFrame m #[(.int p0), (.long q1), (.int p2), (.long q3), (.int p4)] maxLocals)) t := by
          intro t k
          refine pre123 t ?_
          show Steps p.tables e below (T110.setTop (mkF m 79 #[.val (.int p0), .val (.long q1), .second, .val (.int p2), .val (.long q3), .second, .val (.int p4), .val (.int v81), .val (.long u87), .second, .val (.ref b90), .val (.ref b97), .val (.ref b110), .val (.int v119), .val (.ref b97), .unset] [(.int v81), (.int p0)])) _
          refine XS.icmpYes X110.here hx rfl (pc0 := 79) (pc' := 93) rfl (hb hby at_79) rfl (feq hc79_124).2 (by decide) (by decide) ?_
          show Steps p.tables e below (T110.setTop (mkF m 93 #[.val (.int p0), .val (.long q1), .second, .val (.int p2), .val (.long q3), .second, .val (.int p4), .val (.int v81), .val (.long u87), .second, .val (.ref b90), .val (.ref b97), .val (.ref b110), .val (.int v119), .val (.ref b97), .unset] [])) _
          refine XS.iconst X110.here hx rfl (hb hby at_93) ?_
          show Steps p.tables e below (T110.setTop (mkF m 94 #[.val (.int p0), .val (.long q1), .second, .val (.int p2), .val (.long q3), .second, .val (.int p4), .val (.int v81), .val (.long u87), .second, .val (.ref b90), .val (.ref b97), .val (.ref b110), .val (.int v119), .val (.ref b97), .unset] [(.int (0 : Int32))])) _
          exact k
        exact ⟨(0 : Int32), pre129, by rw [if_neg hc79_124]⟩
    have pre132 : ∀ t, Steps p.tables e below (T110.setTop (mkF m 141 #[.val (.int p0), .val (.long q1), .second, .val (.int p2), .val (.long q3), .second, .val (.int p4), .val (.int v81), .val (.long u87), .second, .val (.ref b90), .val (.ref b97), .val (.ref b110), .val (.int v119), .val (.ref b97), .val (.int v130)] [(.ref b97), (.ref b90)])) t → Steps p.tables e below (s₁.setTop (entryFrame m #[(.int p0), (.long q1), (.int p2), (.long q3), (.int p4)] maxLocals)) t := by
      intro t k
      refine pre131 t ?_
      show Steps p.tables e below (T110.setTop (mkF m 94 #[.val (.int p0), .val (.long q1), .second, .val (.int p2), .val (.long q3), .second, .val (.int p4), .val (.int v81), .val (.long u87), .second, .val (.ref b90), .val (.ref b97), .val (.ref b110), .val (.int v119), .val (.ref b97), .unset] [(.int v130)])) _
      refine XS.istore X110.here hx rfl (hb hby at_94) rfl (l' := #[.val (.int p0), .val (.long q1), .second, .val (.int p2), .val (.long q3), .second, .val (.int p4), .val (.int v81), .val (.long u87), .second, .val (.ref b90), .val (.ref b97), .val (.ref b110), .val (.int v119), .val (.ref b97), .val (.int v130)]) rfl ?_
      show Steps p.tables e below (T110.setTop (mkF m 96 #[.val (.int p0), .val (.long q1), .second, .val (.int p2), .val (.long q3), .second, .val (.int p4), .val (.int v81), .val (.long u87), .second, .val (.ref b90), .val (.ref b97), .val (.ref b110), .val (.int v119), .val (.ref b97), .val (.int v130)] [])) _
      refine XS.goto X110.here hx rfl (pc0 := 96) (pc' := 137) rfl (hb hby at_96) (by decide) (by decide) ?_
      show Steps p.tables e below (T110.setTop (mkF m 137 #[.val (.int p0), .val (.long q1), .second, .val (.int p2), .val (.long q3), .second, .val (.int p4), .val (.int v81), .val (.long u87), .second, .val (.ref b90), .val (.ref b97), .val (.ref b110), .val (.int v119), .val (.ref b97), .val (.int v130)] [])) _
      refine XS.aload X110.here hx rfl (hb hby at_137) rfl rfl ?_
      show Steps p.tables e below (T110.setTop (mkF m 139 #[.val (.int p0), .val (.long q1), .second, .val (.int p2), .val (.long q3), .second, .val (.int p4), .val (.int v81), .val (.long u87), .second, .val (.ref b90), .val (.ref b97), .val (.ref b110), .val (.int v119), .val (.ref b97), .val (.int v130)] [(.ref b90)])) _
      refine XS.aload X110.here hx rfl (hb hby at_139) rfl rfl ?_
      show Steps p.tables e below (T110.setTop (mkF m 141 #[.val (.int p0), .val (.long q1), .second, .val (.int p2), .val (.long q3), .second, .val (.int p4), .val (.int v81), .val (.long u87), .second, .val (.ref b90), .val (.ref b97), .val (.ref b110), .val (.int v119), .val (.ref b97), .val (.int v130)] [(.ref b97), (.ref b90)])) _
      exact k
    obtain ⟨cq133, kq133, q133a, q133b, q133c⟩ := isOf hZ e110 Ef111
    obtain ⟨_, _, ⟨T133, L133, k133, n133⟩, -, X133, ⟨Lc133, hQ133, l133, y133, z133⟩, st133⟩ := X110.virtualBack hx (y := (⟨"com/example/loomfilter/loomfilter/core/Sharding", "equals", "(Ljava/lang/Object;)Z"⟩ : MethodName)) (z := (⟨"com/example/loomfilter/loomfilter/core/Sharding", "equals", "(Ljava/lang/Object;)Z"⟩ : MethodName)) hown (mvT hZ (hw _ (List.mem_of_getElem? (i := 21) rfl))) (mvT hZ (hw _ (List.mem_of_getElem? (i := 22) rfl))) (notFace_of_selects (args := #[]) (mvT hZ (hw _ (List.mem_of_getElem? (i := 24) rfl)))) (mvT hZ (hw _ (List.mem_of_getElem? (i := 24) rfl))) (mvT hZ (hw _ (List.mem_of_getElem? (i := 23) rfl))) (by decide) (backOf (W := 0) (rm4_y l Z ar0 hw [] b90 b97 p0 v81 q1 u87 h110 n0 Z110 Ef114 Ff112 Ff115 Ff113 Ff116) hZ (hw _ (List.mem_of_getElem? (i := 25) rfl)) (hw _ (List.mem_of_getElem? (i := 2) rfl)) (by decide) (by decide)) q133a q133c (g := (mkF m 141 #[.val (.int p0), .val (.long q1), .second, .val (.int p2), .val (.long q3), .second, .val (.int p4), .val (.int v81), .val (.long u87), .second, .val (.ref b90), .val (.ref b97), .val (.ref b110), .val (.int v119), .val (.ref b97), .val (.int v130)] [(.ref b97), (.ref b90)])) rfl (by rw [hml]; rfl) (Steps.refl _) (argsL := [(.ref b97)]) (rest := []) (lenOf pd_4 rfl) rfl (by show 2 * 0 + _ ≤ _; exact Nat.le_of_eq rfl) (hb hby at_141) (fun _ _ => ⟨rfl, e110, (by decide : 3 + 0 ≤ _), (by decide : 5 + 0 ≤ _)⟩)
    dsimp only [Pt.U, Pt.locs, Pt.cells, Pt.slots] at X133 l133 y133 z133 st133 hQ133
    subst l133 y133 z133
    obtain ⟨rfl, N133q, e133⟩ := hQ133
    have N133 := Fr.app N110 N133q
    have pre134 : ∀ t, Steps p.tables e below (T133.setTop (mkF m 144 #[.val (.int p0), .val (.long q1), .second, .val (.int p2), .val (.long q3), .second, .val (.int p4), .val (.int v81), .val (.long u87), .second, .val (.ref b90), .val (.ref b97), .val (.ref b110), .val (.int v119), .val (.ref b97), .val (.int v130)] [(.int (f4_y p0 v81 q1 u87))])) t → Steps p.tables e below (s₁.setTop (entryFrame m #[(.int p0), (.long q1), (.int p2), (.long q3), (.int p4)] maxLocals)) t := fun t k => pre132 t (st133.trans k)
    have pre135 : ∀ t, Steps p.tables e below (T133.setTop (mkF m 146 #[.val (.int p0), .val (.long q1), .second, .val (.int p2), .val (.long q3), .second, .val (.int p4), .val (.int v81), .val (.long u87), .second, .val (.ref b90), .val (.ref b97), .val (.ref b110), .val (.int v119), .val (.ref b97), .val (.int v130)] [(.int v130), (.int (f4_y p0 v81 q1 u87))])) t → Steps p.tables e below (s₁.setTop (entryFrame m #[(.int p0), (.long q1), (.int p2), (.long q3), (.int p4)] maxLocals)) t := by
      intro t k
      refine pre134 t ?_
      show Steps p.tables e below (T133.setTop (mkF m 144 #[.val (.int p0), .val (.long q1), .second, .val (.int p2), .val (.long q3), .second, .val (.int p4), .val (.int v81), .val (.long u87), .second, .val (.ref b90), .val (.ref b97), .val (.ref b110), .val (.int v119), .val (.ref b97), .val (.int v130)] [(.int (f4_y p0 v81 q1 u87))])) _
      refine XS.iload X133.here hx rfl (hb hby at_144) rfl ?_
      show Steps p.tables e below (T133.setTop (mkF m 146 #[.val (.int p0), .val (.long q1), .second, .val (.int p2), .val (.long q3), .second, .val (.int p4), .val (.int v81), .val (.long u87), .second, .val (.ref b90), .val (.ref b97), .val (.ref b110), .val (.int v119), .val (.ref b97), .val (.int v130)] [(.int v130), (.int (f4_y p0 v81 q1 u87))])) _
      exact k
    by_cases hc146_136 : (f4_y p0 v81 q1 u87) = v130
    · obtain ⟨fs, hr, hrun, hended, hW, hsame⟩ := X133.leave (v := some (.int (1 : Int32))) (fun h => by rw [Bd.returns] at h; cases h)
      refine ⟨_, _, pre135 _ ?_, hrun, hended, _, _, rfl, ?_, ⟨_, rfl⟩, hW, hsame.mono (by decide) (by decide)⟩
      · show Steps p.tables e below (T133.setTop (mkF m 146 #[.val (.int p0), .val (.long q1), .second, .val (.int p2), .val (.long q3), .second, .val (.int p4), .val (.int v81), .val (.long u87), .second, .val (.ref b90), .val (.ref b97), .val (.ref b110), .val (.int v119), .val (.ref b97), .val (.int v130)] [(.int v130), (.int (f4_y p0 v81 q1 u87))])) _
        refine XS.icmpNo X133.here hx rfl (hb hby at_146) rfl (teq hc146_136).2 ?_
        show Steps p.tables e below (T133.setTop (mkF m 149 #[.val (.int p0), .val (.long q1), .second, .val (.int p2), .val (.long q3), .second, .val (.int p4), .val (.int v81), .val (.long u87), .second, .val (.ref b90), .val (.ref b97), .val (.ref b110), .val (.int v119), .val (.ref b97), .val (.int v130)] [])) _
        refine XS.iconst X133.here hx rfl (hb hby at_149) ?_
        show Steps p.tables e below (T133.setTop (mkF m 150 #[.val (.int p0), .val (.long q1), .second, .val (.int p2), .val (.long q3), .second, .val (.int p4), .val (.int v81), .val (.long u87), .second, .val (.ref b90), .val (.ref b97), .val (.ref b110), .val (.int v119), .val (.ref b97), .val (.int v130)] [(.int (1 : Int32))])) _
        refine XS.goto X133.here hx rfl (pc0 := 150) (pc' := 154) rfl (hb hby at_150) (by decide) (by decide) ?_
        show Steps p.tables e below (T133.setTop (mkF m 154 #[.val (.int p0), .val (.long q1), .second, .val (.int p2), .val (.long q3), .second, .val (.int p4), .val (.int v81), .val (.long u87), .second, .val (.ref b90), .val (.ref b97), .val (.ref b110), .val (.int v119), .val (.ref b97), .val (.int v130)] [(.int (1 : Int32))])) _
        exact retN X133 hx (t := .boolean) Bd.returns (by simp) (hb hby at_154) hr
      · show Q0 Z p0 q1 p2 q3 p4 s_cache h0 n0 _ T133.heap _
        rw [e133]
        exact ⟨rfl, N133⟩
    · have pre137 : ∀ t, Steps p.tables e below (T133.setTop (mkF m 154 #[.val (.int p0), .val (.long q1), .second, .val (.int p2), .val (.long q3), .second, .val (.int p4), .val (.int v81), .val (.long u87), .second, .val (.ref b90), .val (.ref b97), .val (.ref b110), .val (.int v119), .val (.ref b97), .val (.int v130)] [(.int (0 : Int32))])) t → Steps p.tables e below (s₁.setTop (entryFrame m #[(.int p0), (.long q1), (.int p2), (.long q3), (.int p4)] maxLocals)) t := by
        intro t k
        refine pre135 t ?_
        show Steps p.tables e below (T133.setTop (mkF m 146 #[.val (.int p0), .val (.long q1), .second, .val (.int p2), .val (.long q3), .second, .val (.int p4), .val (.int v81), .val (.long u87), .second, .val (.ref b90), .val (.ref b97), .val (.ref b110), .val (.int v119), .val (.ref b97), .val (.int v130)] [(.int v130), (.int (f4_y p0 v81 q1 u87))])) _
        refine XS.icmpYes X133.here hx rfl (pc0 := 146) (pc' := 153) rfl (hb hby at_146) rfl (feq hc146_136).2 (by decide) (by decide) ?_
        show Steps p.tables e below (T133.setTop (mkF m 153 #[.val (.int p0), .val (.long q1), .second, .val (.int p2), .val (.long q3), .second, .val (.int p4), .val (.int v81), .val (.long u87), .second, .val (.ref b90), .val (.ref b97), .val (.ref b110), .val (.int v119), .val (.ref b97), .val (.int v130)] [])) _
        refine XS.iconst X133.here hx rfl (hb hby at_153) ?_
        show Steps p.tables e below (T133.setTop (mkF m 154 #[.val (.int p0), .val (.long q1), .second, .val (.int p2), .val (.long q3), .second, .val (.int p4), .val (.int v81), .val (.long u87), .second, .val (.ref b90), .val (.ref b97), .val (.ref b110), .val (.int v119), .val (.ref b97), .val (.int v130)] [(.int (0 : Int32))])) _
        exact k
      exact (own_leaf1 hv81 hu87 hv119 hc69_122 hv130 hc146_136).elim
  · have pre138 : ∀ t, Steps p.tables e below (T110.setTop (mkF m 102 #[.val (.int p0), .val (.long q1), .second, .val (.int p2), .val (.long q3), .second, .val (.int p4), .val (.int v81), .val (.long u87), .second, .val (.ref b90), .val (.ref b97), .val (.ref b110), .val (.int v119), .unset, .unset] [(.int (1 : Int32)), (.int v119)])) t → Steps p.tables e below (s₁.setTop (entryFrame m #[(.int p0), (.long q1), (.int p2), (.long q3), (.int p4)] maxLocals)) t := by
      intro t k
      refine pre121 t ?_
      show Steps p.tables e below (T110.setTop (mkF m 69 #[.val (.int p0), .val (.long q1), .second, .val (.int p2), .val (.long q3), .second, .val (.int p4), .val (.int v81), .val (.long u87), .second, .val (.ref b90), .val (.ref b97), .val (.ref b110), .val (.int v119), .unset, .unset] [(.int v119)])) _
      refine XS.ifYes X110.here hx rfl (pc0 := 69) (pc' := 99) rfl (hb hby at_69) rfl ((if0 _ _).trans (feq hc69_122).2) (by decide) (by decide) ?_
      show Steps p.tables e below (T110.setTop (mkF m 99 #[.val (.int p0), .val (.long q1), .second, .val (.int p2), .val (.long q3), .second, .val (.int p4), .val (.int v81), .val (.long u87), .second, .val (.ref b90), .val (.ref b97), .val (.ref b110), .val (.int v119), .unset, .unset] [])) _
      refine XS.iload X110.here hx rfl (hb hby at_99) rfl ?_
      show Steps p.tables e below (T110.setTop (mkF m 101 #[.val (.int p0), .val (.long q1), .second, .val (.int p2), .val (.long q3), .second, .val (.int p4), .val (.int v81), .val (.long u87), .second, .val (.ref b90), .val (.ref b97), .val (.ref b110), .val (.int v119), .unset, .unset] [(.int v119)])) _
      refine XS.iconst X110.here hx rfl (hb hby at_101) ?_
      show Steps p.tables e below (T110.setTop (mkF m 102 #[.val (.int p0), .val (.long q1), .second, .val (.int p2), .val (.long q3), .second, .val (.int p4), .val (.int v81), .val (.long u87), .second, .val (.ref b90), .val (.ref b97), .val (.ref b110), .val (.int v119), .unset, .unset] [(.int (1 : Int32)), (.int v119)])) _
      exact k
    by_cases hc102_139 : v119 = (1 : Int32)
    · have pre140 : ∀ t, Steps p.tables e below (T110.setTop (mkF m 141 #[.val (.int p0), .val (.long q1), .second, .val (.int p2), .val (.long q3), .second, .val (.int p4), .val (.int v81), .val (.long u87), .second, .val (.ref b90), .val (.ref b97), .val (.ref b110), .val (.int v119), .val .null, .val (.int (0 : Int32))] [.null, (.ref b90)])) t → Steps p.tables e below (s₁.setTop (entryFrame m #[(.int p0), (.long q1), (.int p2), (.long q3), (.int p4)] maxLocals)) t := by
        intro t k
        refine pre138 t ?_
        show Steps p.tables e below (T110.setTop (mkF m 102 #[.val (.int p0), .val (.long q1), .second, .val (.int p2), .val (.long q3), .second, .val (.int p4), .val (.int v81), .val (.long u87), .second, .val (.ref b90), .val (.ref b97), .val (.ref b110), .val (.int v119), .unset, .unset] [(.int (1 : Int32)), (.int v119)])) _
        refine XS.icmpNo X110.here hx rfl (hb hby at_102) rfl (teq hc102_139).2 ?_
        show Steps p.tables e below (T110.setTop (mkF m 105 #[.val (.int p0), .val (.long q1), .second, .val (.int p2), .val (.long q3), .second, .val (.int p4), .val (.int v81), .val (.long u87), .second, .val (.ref b90), .val (.ref b97), .val (.ref b110), .val (.int v119), .unset, .unset] [])) _
        refine XS.aconstNull X110.here hx rfl (hb hby at_105) ?_
        show Steps p.tables e below (T110.setTop (mkF m 106 #[.val (.int p0), .val (.long q1), .second, .val (.int p2), .val (.long q3), .second, .val (.int p4), .val (.int v81), .val (.long u87), .second, .val (.ref b90), .val (.ref b97), .val (.ref b110), .val (.int v119), .unset, .unset] [.null])) _
        refine XS.astore X110.here hx rfl (hb hby at_106) rfl rfl (l' := #[.val (.int p0), .val (.long q1), .second, .val (.int p2), .val (.long q3), .second, .val (.int p4), .val (.int v81), .val (.long u87), .second, .val (.ref b90), .val (.ref b97), .val (.ref b110), .val (.int v119), .val .null, .unset]) rfl ?_
        show Steps p.tables e below (T110.setTop (mkF m 108 #[.val (.int p0), .val (.long q1), .second, .val (.int p2), .val (.long q3), .second, .val (.int p4), .val (.int v81), .val (.long u87), .second, .val (.ref b90), .val (.ref b97), .val (.ref b110), .val (.int v119), .val .null, .unset] [])) _
        refine XS.iconst X110.here hx rfl (hb hby at_108) ?_
        show Steps p.tables e below (T110.setTop (mkF m 109 #[.val (.int p0), .val (.long q1), .second, .val (.int p2), .val (.long q3), .second, .val (.int p4), .val (.int v81), .val (.long u87), .second, .val (.ref b90), .val (.ref b97), .val (.ref b110), .val (.int v119), .val .null, .unset] [(.int (0 : Int32))])) _
        refine XS.istore X110.here hx rfl (hb hby at_109) rfl (l' := #[.val (.int p0), .val (.long q1), .second, .val (.int p2), .val (.long q3), .second, .val (.int p4), .val (.int v81), .val (.long u87), .second, .val (.ref b90), .val (.ref b97), .val (.ref b110), .val (.int v119), .val .null, .val (.int (0 : Int32))]) rfl ?_
        show Steps p.tables e below (T110.setTop (mkF m 111 #[.val (.int p0), .val (.long q1), .second, .val (.int p2), .val (.long q3), .second, .val (.int p4), .val (.int v81), .val (.long u87), .second, .val (.ref b90), .val (.ref b97), .val (.ref b110), .val (.int v119), .val .null, .val (.int (0 : Int32))] [])) _
        refine XS.goto X110.here hx rfl (pc0 := 111) (pc' := 137) rfl (hb hby at_111) (by decide) (by decide) ?_
        show Steps p.tables e below (T110.setTop (mkF m 137 #[.val (.int p0), .val (.long q1), .second, .val (.int p2), .val (.long q3), .second, .val (.int p4), .val (.int v81), .val (.long u87), .second, .val (.ref b90), .val (.ref b97), .val (.ref b110), .val (.int v119), .val .null, .val (.int (0 : Int32))] [])) _
        refine XS.aload X110.here hx rfl (hb hby at_137) rfl rfl ?_
        show Steps p.tables e below (T110.setTop (mkF m 139 #[.val (.int p0), .val (.long q1), .second, .val (.int p2), .val (.long q3), .second, .val (.int p4), .val (.int v81), .val (.long u87), .second, .val (.ref b90), .val (.ref b97), .val (.ref b110), .val (.int v119), .val .null, .val (.int (0 : Int32))] [(.ref b90)])) _
        refine XS.aload X110.here hx rfl (hb hby at_139) rfl rfl ?_
        show Steps p.tables e below (T110.setTop (mkF m 141 #[.val (.int p0), .val (.long q1), .second, .val (.int p2), .val (.long q3), .second, .val (.int p4), .val (.int v81), .val (.long u87), .second, .val (.ref b90), .val (.ref b97), .val (.ref b110), .val (.int v119), .val .null, .val (.int (0 : Int32))] [.null, (.ref b90)])) _
        exact k
      obtain ⟨cq141, kq141, q141a, q141b, q141c⟩ := isOf hZ e110 Ef111
      obtain ⟨_, _, ⟨T141, L141, k141, n141⟩, -, X141, ⟨Lc141, hQ141, l141, y141, z141⟩, st141⟩ := X110.virtualBack hx (y := (⟨"com/example/loomfilter/loomfilter/core/Sharding", "equals", "(Ljava/lang/Object;)Z"⟩ : MethodName)) (z := (⟨"com/example/loomfilter/loomfilter/core/Sharding", "equals", "(Ljava/lang/Object;)Z"⟩ : MethodName)) hown (mvT hZ (hw _ (List.mem_of_getElem? (i := 21) rfl))) (mvT hZ (hw _ (List.mem_of_getElem? (i := 22) rfl))) (notFace_of_selects (args := #[]) (mvT hZ (hw _ (List.mem_of_getElem? (i := 24) rfl)))) (mvT hZ (hw _ (List.mem_of_getElem? (i := 24) rfl))) (mvT hZ (hw _ (List.mem_of_getElem? (i := 23) rfl))) (by decide) (backOf (W := 0) (rm4_n l Z ar0 hw [] b90 h110 n0 Z110) hZ (hw _ (List.mem_of_getElem? (i := 25) rfl)) (hw _ (List.mem_of_getElem? (i := 2) rfl)) (by decide) (by decide)) q141a q141c (g := (mkF m 141 #[.val (.int p0), .val (.long q1), .second, .val (.int p2), .val (.long q3), .second, .val (.int p4), .val (.int v81), .val (.long u87), .second, .val (.ref b90), .val (.ref b97), .val (.ref b110), .val (.int v119), .val .null, .val (.int (0 : Int32))] [.null, (.ref b90)])) rfl (by rw [hml]; rfl) (Steps.refl _) (argsL := [.null]) (rest := []) (lenOf pd_4 rfl) rfl (by show 2 * 0 + _ ≤ _; exact Nat.le_of_eq rfl) (hb hby at_141) (fun _ _ => ⟨rfl, e110, (by decide : 3 + 0 ≤ _), (by decide : 5 + 0 ≤ _)⟩)
      dsimp only [Pt.U, Pt.locs, Pt.cells, Pt.slots] at X141 l141 y141 z141 st141 hQ141
      subst l141 y141 z141
      obtain ⟨rfl, N141q, e141⟩ := hQ141
      have N141 := Fr.app N110 N141q
      have pre142 : ∀ t, Steps p.tables e below (T141.setTop (mkF m 144 #[.val (.int p0), .val (.long q1), .second, .val (.int p2), .val (.long q3), .second, .val (.int p4), .val (.int v81), .val (.long u87), .second, .val (.ref b90), .val (.ref b97), .val (.ref b110), .val (.int v119), .val .null, .val (.int (0 : Int32))] [(.int (0 : Int32))])) t → Steps p.tables e below (s₁.setTop (entryFrame m #[(.int p0), (.long q1), (.int p2), (.long q3), (.int p4)] maxLocals)) t := fun t k => pre140 t (st141.trans k)
      obtain ⟨fs, hr, hrun, hended, hW, hsame⟩ := X141.leave (v := some (.int (1 : Int32))) (fun h => by rw [Bd.returns] at h; cases h)
      refine ⟨_, _, pre142 _ ?_, hrun, hended, _, _, rfl, ?_, ⟨_, rfl⟩, hW, hsame.mono (by decide) (by decide)⟩
      · show Steps p.tables e below (T141.setTop (mkF m 144 #[.val (.int p0), .val (.long q1), .second, .val (.int p2), .val (.long q3), .second, .val (.int p4), .val (.int v81), .val (.long u87), .second, .val (.ref b90), .val (.ref b97), .val (.ref b110), .val (.int v119), .val .null, .val (.int (0 : Int32))] [(.int (0 : Int32))])) _
        refine XS.iload X141.here hx rfl (hb hby at_144) rfl ?_
        show Steps p.tables e below (T141.setTop (mkF m 146 #[.val (.int p0), .val (.long q1), .second, .val (.int p2), .val (.long q3), .second, .val (.int p4), .val (.int v81), .val (.long u87), .second, .val (.ref b90), .val (.ref b97), .val (.ref b110), .val (.int v119), .val .null, .val (.int (0 : Int32))] [(.int (0 : Int32)), (.int (0 : Int32))])) _
        show Steps p.tables e below (T141.setTop (mkF m 146 #[.val (.int p0), .val (.long q1), .second, .val (.int p2), .val (.long q3), .second, .val (.int p4), .val (.int v81), .val (.long u87), .second, .val (.ref b90), .val (.ref b97), .val (.ref b110), .val (.int v119), .val .null, .val (.int (0 : Int32))] [(.int (0 : Int32)), (.int (0 : Int32))])) _
        refine XS.icmpNo X141.here hx rfl (hb hby at_146) rfl (teq (by decide : (0 : Int32) = (0 : Int32))).2 ?_
        show Steps p.tables e below (T141.setTop (mkF m 149 #[.val (.int p0), .val (.long q1), .second, .val (.int p2), .val (.long q3), .second, .val (.int p4), .val (.int v81), .val (.long u87), .second, .val (.ref b90), .val (.ref b97), .val (.ref b110), .val (.int v119), .val .null, .val (.int (0 : Int32))] [])) _
        refine XS.iconst X141.here hx rfl (hb hby at_149) ?_
        show Steps p.tables e below (T141.setTop (mkF m 150 #[.val (.int p0), .val (.long q1), .second, .val (.int p2), .val (.long q3), .second, .val (.int p4), .val (.int v81), .val (.long u87), .second, .val (.ref b90), .val (.ref b97), .val (.ref b110), .val (.int v119), .val .null, .val (.int (0 : Int32))] [(.int (1 : Int32))])) _
        refine XS.goto X141.here hx rfl (pc0 := 150) (pc' := 154) rfl (hb hby at_150) (by decide) (by decide) ?_
        show Steps p.tables e below (T141.setTop (mkF m 154 #[.val (.int p0), .val (.long q1), .second, .val (.int p2), .val (.long q3), .second, .val (.int p4), .val (.int v81), .val (.long u87), .second, .val (.ref b90), .val (.ref b97), .val (.ref b110), .val (.int v119), .val .null, .val (.int (0 : Int32))] [(.int (1 : Int32))])) _
        exact retN X141 hx (t := .boolean) Bd.returns (by simp) (hb hby at_154) hr
      · show Q0 Z p0 q1 p2 q3 p4 s_cache h0 n0 _ T141.heap _
        rw [e141]
        exact ⟨rfl, N141⟩
    · have pre143 : ∀ t, Steps p.tables e below (T110.setTop (mkF m 117 #[.val (.int p0), .val (.long q1), .second, .val (.int p2), .val (.long q3), .second, .val (.int p4), .val (.int v81), .val (.long u87), .second, .val (.ref b90), .val (.ref b97), .val (.ref b110), .val (.int v119), .unset, .unset] [(.int (2 : Int32)), (.int v119)])) t → Steps p.tables e below (s₁.setTop (entryFrame m #[(.int p0), (.long q1), (.int p2), (.long q3), (.int p4)] maxLocals)) t := by
        intro t k
        refine pre138 t ?_
        show Steps p.tables e below (T110.setTop (mkF m 102 #[.val (.int p0), .val (.long q1), .second, .val (.int p2), .val (.long q3), .second, .val (.int p4), .val (.int v81), .val (.long u87), .second, .val (.ref b90), .val (.ref b97), .val (.ref b110), .val (.int v119), .unset, .unset] [(.int (1 : Int32)), (.int v119)])) _
        refine XS.icmpYes X110.here hx rfl (pc0 := 102) (pc' := 114) rfl (hb hby at_102) rfl (feq hc102_139).2 (by decide) (by decide) ?_
        show Steps p.tables e below (T110.setTop (mkF m 114 #[.val (.int p0), .val (.long q1), .second, .val (.int p2), .val (.long q3), .second, .val (.int p4), .val (.int v81), .val (.long u87), .second, .val (.ref b90), .val (.ref b97), .val (.ref b110), .val (.int v119), .unset, .unset] [])) _
        refine XS.iload X110.here hx rfl (hb hby at_114) rfl ?_
        show Steps p.tables e below (T110.setTop (mkF m 116 #[.val (.int p0), .val (.long q1), .second, .val (.int p2), .val (.long q3), .second, .val (.int p4), .val (.int v81), .val (.long u87), .second, .val (.ref b90), .val (.ref b97), .val (.ref b110), .val (.int v119), .unset, .unset] [(.int v119)])) _
        refine XS.iconst X110.here hx rfl (hb hby at_116) ?_
        show Steps p.tables e below (T110.setTop (mkF m 117 #[.val (.int p0), .val (.long q1), .second, .val (.int p2), .val (.long q3), .second, .val (.int p4), .val (.int v81), .val (.long u87), .second, .val (.ref b90), .val (.ref b97), .val (.ref b110), .val (.int v119), .unset, .unset] [(.int (2 : Int32)), (.int v119)])) _
        exact k
      by_cases hc117_144 : v119 = (2 : Int32)
      · have pre145 : ∀ t, Steps p.tables e below (T110.setTop (mkF m 141 #[.val (.int p0), .val (.long q1), .second, .val (.int p2), .val (.long q3), .second, .val (.int p4), .val (.int v81), .val (.long u87), .second, .val (.ref b90), .val (.ref b97), .val (.ref b110), .val (.int v119), .val (.ref b110), .val (.int (0 : Int32))] [(.ref b110), (.ref b90)])) t → Steps p.tables e below (s₁.setTop (entryFrame m #[(.int p0), (.long q1), (.int p2), (.long q3), (.int p4)] maxLocals)) t := by
          intro t k
          refine pre143 t ?_
          show Steps p.tables e below (T110.setTop (mkF m 117 #[.val (.int p0), .val (.long q1), .second, .val (.int p2), .val (.long q3), .second, .val (.int p4), .val (.int v81), .val (.long u87), .second, .val (.ref b90), .val (.ref b97), .val (.ref b110), .val (.int v119), .unset, .unset] [(.int (2 : Int32)), (.int v119)])) _
          refine XS.icmpNo X110.here hx rfl (hb hby at_117) rfl (teq hc117_144).2 ?_
          show Steps p.tables e below (T110.setTop (mkF m 120 #[.val (.int p0), .val (.long q1), .second, .val (.int p2), .val (.long q3), .second, .val (.int p4), .val (.int v81), .val (.long u87), .second, .val (.ref b90), .val (.ref b97), .val (.ref b110), .val (.int v119), .unset, .unset] [])) _
          refine XS.aload X110.here hx rfl (hb hby at_120) rfl rfl ?_
          show Steps p.tables e below (T110.setTop (mkF m 122 #[.val (.int p0), .val (.long q1), .second, .val (.int p2), .val (.long q3), .second, .val (.int p4), .val (.int v81), .val (.long u87), .second, .val (.ref b90), .val (.ref b97), .val (.ref b110), .val (.int v119), .unset, .unset] [(.ref b110)])) _
          refine XS.astore X110.here hx rfl (hb hby at_122) rfl rfl (l' := #[.val (.int p0), .val (.long q1), .second, .val (.int p2), .val (.long q3), .second, .val (.int p4), .val (.int v81), .val (.long u87), .second, .val (.ref b90), .val (.ref b97), .val (.ref b110), .val (.int v119), .val (.ref b110), .unset]) rfl ?_
          show Steps p.tables e below (T110.setTop (mkF m 124 #[.val (.int p0), .val (.long q1), .second, .val (.int p2), .val (.long q3), .second, .val (.int p4), .val (.int v81), .val (.long u87), .second, .val (.ref b90), .val (.ref b97), .val (.ref b110), .val (.int v119), .val (.ref b110), .unset] [])) _
          refine XS.iconst X110.here hx rfl (hb hby at_124) ?_
          show Steps p.tables e below (T110.setTop (mkF m 125 #[.val (.int p0), .val (.long q1), .second, .val (.int p2), .val (.long q3), .second, .val (.int p4), .val (.int v81), .val (.long u87), .second, .val (.ref b90), .val (.ref b97), .val (.ref b110), .val (.int v119), .val (.ref b110), .unset] [(.int (0 : Int32))])) _
          refine XS.istore X110.here hx rfl (hb hby at_125) rfl (l' := #[.val (.int p0), .val (.long q1), .second, .val (.int p2), .val (.long q3), .second, .val (.int p4), .val (.int v81), .val (.long u87), .second, .val (.ref b90), .val (.ref b97), .val (.ref b110), .val (.int v119), .val (.ref b110), .val (.int (0 : Int32))]) rfl ?_
          show Steps p.tables e below (T110.setTop (mkF m 127 #[.val (.int p0), .val (.long q1), .second, .val (.int p2), .val (.long q3), .second, .val (.int p4), .val (.int v81), .val (.long u87), .second, .val (.ref b90), .val (.ref b97), .val (.ref b110), .val (.int v119), .val (.ref b110), .val (.int (0 : Int32))] [])) _
          refine XS.goto X110.here hx rfl (pc0 := 127) (pc' := 137) rfl (hb hby at_127) (by decide) (by decide) ?_
          show Steps p.tables e below (T110.setTop (mkF m 137 #[.val (.int p0), .val (.long q1), .second, .val (.int p2), .val (.long q3), .second, .val (.int p4), .val (.int v81), .val (.long u87), .second, .val (.ref b90), .val (.ref b97), .val (.ref b110), .val (.int v119), .val (.ref b110), .val (.int (0 : Int32))] [])) _
          refine XS.aload X110.here hx rfl (hb hby at_137) rfl rfl ?_
          show Steps p.tables e below (T110.setTop (mkF m 139 #[.val (.int p0), .val (.long q1), .second, .val (.int p2), .val (.long q3), .second, .val (.int p4), .val (.int v81), .val (.long u87), .second, .val (.ref b90), .val (.ref b97), .val (.ref b110), .val (.int v119), .val (.ref b110), .val (.int (0 : Int32))] [(.ref b90)])) _
          refine XS.aload X110.here hx rfl (hb hby at_139) rfl rfl ?_
          show Steps p.tables e below (T110.setTop (mkF m 141 #[.val (.int p0), .val (.long q1), .second, .val (.int p2), .val (.long q3), .second, .val (.int p4), .val (.int v81), .val (.long u87), .second, .val (.ref b90), .val (.ref b97), .val (.ref b110), .val (.int v119), .val (.ref b110), .val (.int (0 : Int32))] [(.ref b110), (.ref b90)])) _
          exact k
        obtain ⟨cq146, kq146, q146a, q146b, q146c⟩ := isOf hZ e110 Ef111
        obtain ⟨_, _, ⟨T146, L146, k146, n146⟩, -, X146, ⟨Lc146, hQ146, l146, y146, z146⟩, st146⟩ := X110.virtualBack hx (y := (⟨"com/example/loomfilter/loomfilter/core/Sharding", "equals", "(Ljava/lang/Object;)Z"⟩ : MethodName)) (z := (⟨"com/example/loomfilter/loomfilter/core/Sharding", "equals", "(Ljava/lang/Object;)Z"⟩ : MethodName)) hown (mvT hZ (hw _ (List.mem_of_getElem? (i := 21) rfl))) (mvT hZ (hw _ (List.mem_of_getElem? (i := 22) rfl))) (notFace_of_selects (args := #[]) (mvT hZ (hw _ (List.mem_of_getElem? (i := 24) rfl)))) (mvT hZ (hw _ (List.mem_of_getElem? (i := 24) rfl))) (mvT hZ (hw _ (List.mem_of_getElem? (i := 23) rfl))) (by decide) (backOf (W := 0) (rm4_l l Z ar0 hw [] b90 b110 h110 n0 Z110 Ob110_0) hZ (hw _ (List.mem_of_getElem? (i := 25) rfl)) (hw _ (List.mem_of_getElem? (i := 2) rfl)) (by decide) (by decide)) q146a q146c (g := (mkF m 141 #[.val (.int p0), .val (.long q1), .second, .val (.int p2), .val (.long q3), .second, .val (.int p4), .val (.int v81), .val (.long u87), .second, .val (.ref b90), .val (.ref b97), .val (.ref b110), .val (.int v119), .val (.ref b110), .val (.int (0 : Int32))] [(.ref b110), (.ref b90)])) rfl (by rw [hml]; rfl) (Steps.refl _) (argsL := [(.ref b110)]) (rest := []) (lenOf pd_4 rfl) rfl (by show 2 * 0 + _ ≤ _; exact Nat.le_of_eq rfl) (hb hby at_141) (fun _ _ => ⟨rfl, e110, (by decide : 3 + 0 ≤ _), (by decide : 5 + 0 ≤ _)⟩)
        dsimp only [Pt.U, Pt.locs, Pt.cells, Pt.slots] at X146 l146 y146 z146 st146 hQ146
        subst l146 y146 z146
        obtain ⟨rfl, N146q, e146⟩ := hQ146
        have N146 := Fr.app N110 N146q
        have pre147 : ∀ t, Steps p.tables e below (T146.setTop (mkF m 144 #[.val (.int p0), .val (.long q1), .second, .val (.int p2), .val (.long q3), .second, .val (.int p4), .val (.int v81), .val (.long u87), .second, .val (.ref b90), .val (.ref b97), .val (.ref b110), .val (.int v119), .val (.ref b110), .val (.int (0 : Int32))] [(.int (0 : Int32))])) t → Steps p.tables e below (s₁.setTop (entryFrame m #[(.int p0), (.long q1), (.int p2), (.long q3), (.int p4)] maxLocals)) t := fun t k => pre145 t (st146.trans k)
        obtain ⟨fs, hr, hrun, hended, hW, hsame⟩ := X146.leave (v := some (.int (1 : Int32))) (fun h => by rw [Bd.returns] at h; cases h)
        refine ⟨_, _, pre147 _ ?_, hrun, hended, _, _, rfl, ?_, ⟨_, rfl⟩, hW, hsame.mono (by decide) (by decide)⟩
        · show Steps p.tables e below (T146.setTop (mkF m 144 #[.val (.int p0), .val (.long q1), .second, .val (.int p2), .val (.long q3), .second, .val (.int p4), .val (.int v81), .val (.long u87), .second, .val (.ref b90), .val (.ref b97), .val (.ref b110), .val (.int v119), .val (.ref b110), .val (.int (0 : Int32))] [(.int (0 : Int32))])) _
          refine XS.iload X146.here hx rfl (hb hby at_144) rfl ?_
          show Steps p.tables e below (T146.setTop (mkF m 146 #[.val (.int p0), .val (.long q1), .second, .val (.int p2), .val (.long q3), .second, .val (.int p4), .val (.int v81), .val (.long u87), .second, .val (.ref b90), .val (.ref b97), .val (.ref b110), .val (.int v119), .val (.ref b110), .val (.int (0 : Int32))] [(.int (0 : Int32)), (.int (0 : Int32))])) _
          show Steps p.tables e below (T146.setTop (mkF m 146 #[.val (.int p0), .val (.long q1), .second, .val (.int p2), .val (.long q3), .second, .val (.int p4), .val (.int v81), .val (.long u87), .second, .val (.ref b90), .val (.ref b97), .val (.ref b110), .val (.int v119), .val (.ref b110), .val (.int (0 : Int32))] [(.int (0 : Int32)), (.int (0 : Int32))])) _
          refine XS.icmpNo X146.here hx rfl (hb hby at_146) rfl (teq (by decide : (0 : Int32) = (0 : Int32))).2 ?_
          show Steps p.tables e below (T146.setTop (mkF m 149 #[.val (.int p0), .val (.long q1), .second, .val (.int p2), .val (.long q3), .second, .val (.int p4), .val (.int v81), .val (.long u87), .second, .val (.ref b90), .val (.ref b97), .val (.ref b110), .val (.int v119), .val (.ref b110), .val (.int (0 : Int32))] [])) _
          refine XS.iconst X146.here hx rfl (hb hby at_149) ?_
          show Steps p.tables e below (T146.setTop (mkF m 150 #[.val (.int p0), .val (.long q1), .second, .val (.int p2), .val (.long q3), .second, .val (.int p4), .val (.int v81), .val (.long u87), .second, .val (.ref b90), .val (.ref b97), .val (.ref b110), .val (.int v119), .val (.ref b110), .val (.int (0 : Int32))] [(.int (1 : Int32))])) _
          refine XS.goto X146.here hx rfl (pc0 := 150) (pc' := 154) rfl (hb hby at_150) (by decide) (by decide) ?_
          show Steps p.tables e below (T146.setTop (mkF m 154 #[.val (.int p0), .val (.long q1), .second, .val (.int p2), .val (.long q3), .second, .val (.int p4), .val (.int v81), .val (.long u87), .second, .val (.ref b90), .val (.ref b97), .val (.ref b110), .val (.int v119), .val (.ref b110), .val (.int (0 : Int32))] [(.int (1 : Int32))])) _
          exact retN X146 hx (t := .boolean) Bd.returns (by simp) (hb hby at_154) hr
        · show Q0 Z p0 q1 p2 q3 p4 s_cache h0 n0 _ T146.heap _
          rw [e146]
          exact ⟨rfl, N146⟩
      · have pre148 : ∀ t, Steps p.tables e below (T110.setTop (mkF m 141 #[.val (.int p0), .val (.long q1), .second, .val (.int p2), .val (.long q3), .second, .val (.int p4), .val (.int v81), .val (.long u87), .second, .val (.ref b90), .val (.ref b97), .val (.ref b110), .val (.int v119), .val (.ref b90), .val (.int (1 : Int32))] [(.ref b90), (.ref b90)])) t → Steps p.tables e below (s₁.setTop (entryFrame m #[(.int p0), (.long q1), (.int p2), (.long q3), (.int p4)] maxLocals)) t := by
          intro t k
          refine pre143 t ?_
          show Steps p.tables e below (T110.setTop (mkF m 117 #[.val (.int p0), .val (.long q1), .second, .val (.int p2), .val (.long q3), .second, .val (.int p4), .val (.int v81), .val (.long u87), .second, .val (.ref b90), .val (.ref b97), .val (.ref b110), .val (.int v119), .unset, .unset] [(.int (2 : Int32)), (.int v119)])) _
          refine XS.icmpYes X110.here hx rfl (pc0 := 117) (pc' := 130) rfl (hb hby at_117) rfl (feq hc117_144).2 (by decide) (by decide) ?_
          show Steps p.tables e below (T110.setTop (mkF m 130 #[.val (.int p0), .val (.long q1), .second, .val (.int p2), .val (.long q3), .second, .val (.int p4), .val (.int v81), .val (.long u87), .second, .val (.ref b90), .val (.ref b97), .val (.ref b110), .val (.int v119), .unset, .unset] [])) _
          refine XS.aload X110.here hx rfl (hb hby at_130) rfl rfl ?_
          show Steps p.tables e below (T110.setTop (mkF m 132 #[.val (.int p0), .val (.long q1), .second, .val (.int p2), .val (.long q3), .second, .val (.int p4), .val (.int v81), .val (.long u87), .second, .val (.ref b90), .val (.ref b97), .val (.ref b110), .val (.int v119), .unset, .unset] [(.ref b90)])) _
          refine XS.astore X110.here hx rfl (hb hby at_132) rfl rfl (l' := #[.val (.int p0), .val (.long q1), .second, .val (.int p2), .val (.long q3), .second, .val (.int p4), .val (.int v81), .val (.long u87), .second, .val (.ref b90), .val (.ref b97), .val (.ref b110), .val (.int v119), .val (.ref b90), .unset]) rfl ?_
          show Steps p.tables e below (T110.setTop (mkF m 134 #[.val (.int p0), .val (.long q1), .second, .val (.int p2), .val (.long q3), .second, .val (.int p4), .val (.int v81), .val (.long u87), .second, .val (.ref b90), .val (.ref b97), .val (.ref b110), .val (.int v119), .val (.ref b90), .unset] [])) _
          refine XS.iconst X110.here hx rfl (hb hby at_134) ?_
          show Steps p.tables e below (T110.setTop (mkF m 135 #[.val (.int p0), .val (.long q1), .second, .val (.int p2), .val (.long q3), .second, .val (.int p4), .val (.int v81), .val (.long u87), .second, .val (.ref b90), .val (.ref b97), .val (.ref b110), .val (.int v119), .val (.ref b90), .unset] [(.int (1 : Int32))])) _
          refine XS.istore X110.here hx rfl (hb hby at_135) rfl (l' := #[.val (.int p0), .val (.long q1), .second, .val (.int p2), .val (.long q3), .second, .val (.int p4), .val (.int v81), .val (.long u87), .second, .val (.ref b90), .val (.ref b97), .val (.ref b110), .val (.int v119), .val (.ref b90), .val (.int (1 : Int32))]) rfl ?_
          show Steps p.tables e below (T110.setTop (mkF m 137 #[.val (.int p0), .val (.long q1), .second, .val (.int p2), .val (.long q3), .second, .val (.int p4), .val (.int v81), .val (.long u87), .second, .val (.ref b90), .val (.ref b97), .val (.ref b110), .val (.int v119), .val (.ref b90), .val (.int (1 : Int32))] [])) _
          refine XS.aload X110.here hx rfl (hb hby at_137) rfl rfl ?_
          show Steps p.tables e below (T110.setTop (mkF m 139 #[.val (.int p0), .val (.long q1), .second, .val (.int p2), .val (.long q3), .second, .val (.int p4), .val (.int v81), .val (.long u87), .second, .val (.ref b90), .val (.ref b97), .val (.ref b110), .val (.int v119), .val (.ref b90), .val (.int (1 : Int32))] [(.ref b90)])) _
          refine XS.aload X110.here hx rfl (hb hby at_139) rfl rfl ?_
          show Steps p.tables e below (T110.setTop (mkF m 141 #[.val (.int p0), .val (.long q1), .second, .val (.int p2), .val (.long q3), .second, .val (.int p4), .val (.int v81), .val (.long u87), .second, .val (.ref b90), .val (.ref b97), .val (.ref b110), .val (.int v119), .val (.ref b90), .val (.int (1 : Int32))] [(.ref b90), (.ref b90)])) _
          exact k
        obtain ⟨cq149, kq149, q149a, q149b, q149c⟩ := isOf hZ e110 Ef111
        obtain ⟨_, _, ⟨T149, L149, k149, n149⟩, -, X149, ⟨Lc149, hQ149, l149, y149, z149⟩, st149⟩ := X110.virtualBack hx (y := (⟨"com/example/loomfilter/loomfilter/core/Sharding", "equals", "(Ljava/lang/Object;)Z"⟩ : MethodName)) (z := (⟨"com/example/loomfilter/loomfilter/core/Sharding", "equals", "(Ljava/lang/Object;)Z"⟩ : MethodName)) hown (mvT hZ (hw _ (List.mem_of_getElem? (i := 21) rfl))) (mvT hZ (hw _ (List.mem_of_getElem? (i := 22) rfl))) (notFace_of_selects (args := #[]) (mvT hZ (hw _ (List.mem_of_getElem? (i := 24) rfl)))) (mvT hZ (hw _ (List.mem_of_getElem? (i := 24) rfl))) (mvT hZ (hw _ (List.mem_of_getElem? (i := 23) rfl))) (by decide) (backOf (W := 0) (rm4_y l Z ar0 hw [] b90 b90 p0 p0 q1 q1 h110 n0 Z110 Ef111 Ff112 Ff112 Ff113 Ff113) hZ (hw _ (List.mem_of_getElem? (i := 25) rfl)) (hw _ (List.mem_of_getElem? (i := 2) rfl)) (by decide) (by decide)) q149a q149c (g := (mkF m 141 #[.val (.int p0), .val (.long q1), .second, .val (.int p2), .val (.long q3), .second, .val (.int p4), .val (.int v81), .val (.long u87), .second, .val (.ref b90), .val (.ref b97), .val (.ref b110), .val (.int v119), .val (.ref b90), .val (.int (1 : Int32))] [(.ref b90), (.ref b90)])) rfl (by rw [hml]; rfl) (Steps.refl _) (argsL := [(.ref b90)]) (rest := []) (lenOf pd_4 rfl) rfl (by show 2 * 0 + _ ≤ _; exact Nat.le_of_eq rfl) (hb hby at_141) (fun _ _ => ⟨rfl, e110, (by decide : 3 + 0 ≤ _), (by decide : 5 + 0 ≤ _)⟩)
        dsimp only [Pt.U, Pt.locs, Pt.cells, Pt.slots] at X149 l149 y149 z149 st149 hQ149
        subst l149 y149 z149
        obtain ⟨rfl, N149q, e149⟩ := hQ149
        have N149 := Fr.app N110 N149q
        have pre150 : ∀ t, Steps p.tables e below (T149.setTop (mkF m 144 #[.val (.int p0), .val (.long q1), .second, .val (.int p2), .val (.long q3), .second, .val (.int p4), .val (.int v81), .val (.long u87), .second, .val (.ref b90), .val (.ref b97), .val (.ref b110), .val (.int v119), .val (.ref b90), .val (.int (1 : Int32))] [(.int (f4_y p0 p0 q1 q1))])) t → Steps p.tables e below (s₁.setTop (entryFrame m #[(.int p0), (.long q1), (.int p2), (.long q3), (.int p4)] maxLocals)) t := fun t k => pre148 t (st149.trans k)
        have pre151 : ∀ t, Steps p.tables e below (T149.setTop (mkF m 146 #[.val (.int p0), .val (.long q1), .second, .val (.int p2), .val (.long q3), .second, .val (.int p4), .val (.int v81), .val (.long u87), .second, .val (.ref b90), .val (.ref b97), .val (.ref b110), .val (.int v119), .val (.ref b90), .val (.int (1 : Int32))] [(.int (1 : Int32)), (.int (f4_y p0 p0 q1 q1))])) t → Steps p.tables e below (s₁.setTop (entryFrame m #[(.int p0), (.long q1), (.int p2), (.long q3), (.int p4)] maxLocals)) t := by
          intro t k
          refine pre150 t ?_
          show Steps p.tables e below (T149.setTop (mkF m 144 #[.val (.int p0), .val (.long q1), .second, .val (.int p2), .val (.long q3), .second, .val (.int p4), .val (.int v81), .val (.long u87), .second, .val (.ref b90), .val (.ref b97), .val (.ref b110), .val (.int v119), .val (.ref b90), .val (.int (1 : Int32))] [(.int (f4_y p0 p0 q1 q1))])) _
          refine XS.iload X149.here hx rfl (hb hby at_144) rfl ?_
          show Steps p.tables e below (T149.setTop (mkF m 146 #[.val (.int p0), .val (.long q1), .second, .val (.int p2), .val (.long q3), .second, .val (.int p4), .val (.int v81), .val (.long u87), .second, .val (.ref b90), .val (.ref b97), .val (.ref b110), .val (.int v119), .val (.ref b90), .val (.int (1 : Int32))] [(.int (1 : Int32)), (.int (f4_y p0 p0 q1 q1))])) _
          exact k
        by_cases hc146_152 : (f4_y p0 p0 q1 q1) = (1 : Int32)
        · obtain ⟨fs, hr, hrun, hended, hW, hsame⟩ := X149.leave (v := some (.int (1 : Int32))) (fun h => by rw [Bd.returns] at h; cases h)
          refine ⟨_, _, pre151 _ ?_, hrun, hended, _, _, rfl, ?_, ⟨_, rfl⟩, hW, hsame.mono (by decide) (by decide)⟩
          · show Steps p.tables e below (T149.setTop (mkF m 146 #[.val (.int p0), .val (.long q1), .second, .val (.int p2), .val (.long q3), .second, .val (.int p4), .val (.int v81), .val (.long u87), .second, .val (.ref b90), .val (.ref b97), .val (.ref b110), .val (.int v119), .val (.ref b90), .val (.int (1 : Int32))] [(.int (1 : Int32)), (.int (f4_y p0 p0 q1 q1))])) _
            refine XS.icmpNo X149.here hx rfl (hb hby at_146) rfl (teq hc146_152).2 ?_
            show Steps p.tables e below (T149.setTop (mkF m 149 #[.val (.int p0), .val (.long q1), .second, .val (.int p2), .val (.long q3), .second, .val (.int p4), .val (.int v81), .val (.long u87), .second, .val (.ref b90), .val (.ref b97), .val (.ref b110), .val (.int v119), .val (.ref b90), .val (.int (1 : Int32))] [])) _
            refine XS.iconst X149.here hx rfl (hb hby at_149) ?_
            show Steps p.tables e below (T149.setTop (mkF m 150 #[.val (.int p0), .val (.long q1), .second, .val (.int p2), .val (.long q3), .second, .val (.int p4), .val (.int v81), .val (.long u87), .second, .val (.ref b90), .val (.ref b97), .val (.ref b110), .val (.int v119), .val (.ref b90), .val (.int (1 : Int32))] [(.int (1 : Int32))])) _
            refine XS.goto X149.here hx rfl (pc0 := 150) (pc' := 154) rfl (hb hby at_150) (by decide) (by decide) ?_
            show Steps p.tables e below (T149.setTop (mkF m 154 #[.val (.int p0), .val (.long q1), .second, .val (.int p2), .val (.long q3), .second, .val (.int p4), .val (.int v81), .val (.long u87), .second, .val (.ref b90), .val (.ref b97), .val (.ref b110), .val (.int v119), .val (.ref b90), .val (.int (1 : Int32))] [(.int (1 : Int32))])) _
            exact retN X149 hx (t := .boolean) Bd.returns (by simp) (hb hby at_154) hr
          · show Q0 Z p0 q1 p2 q3 p4 s_cache h0 n0 _ T149.heap _
            rw [e149]
            exact ⟨rfl, N149⟩
        · have pre153 : ∀ t, Steps p.tables e below (T149.setTop (mkF m 154 #[.val (.int p0), .val (.long q1), .second, .val (.int p2), .val (.long q3), .second, .val (.int p4), .val (.int v81), .val (.long u87), .second, .val (.ref b90), .val (.ref b97), .val (.ref b110), .val (.int v119), .val (.ref b90), .val (.int (1 : Int32))] [(.int (0 : Int32))])) t → Steps p.tables e below (s₁.setTop (entryFrame m #[(.int p0), (.long q1), (.int p2), (.long q3), (.int p4)] maxLocals)) t := by
            intro t k
            refine pre151 t ?_
            show Steps p.tables e below (T149.setTop (mkF m 146 #[.val (.int p0), .val (.long q1), .second, .val (.int p2), .val (.long q3), .second, .val (.int p4), .val (.int v81), .val (.long u87), .second, .val (.ref b90), .val (.ref b97), .val (.ref b110), .val (.int v119), .val (.ref b90), .val (.int (1 : Int32))] [(.int (1 : Int32)), (.int (f4_y p0 p0 q1 q1))])) _
            refine XS.icmpYes X149.here hx rfl (pc0 := 146) (pc' := 153) rfl (hb hby at_146) rfl (feq hc146_152).2 (by decide) (by decide) ?_
            show Steps p.tables e below (T149.setTop (mkF m 153 #[.val (.int p0), .val (.long q1), .second, .val (.int p2), .val (.long q3), .second, .val (.int p4), .val (.int v81), .val (.long u87), .second, .val (.ref b90), .val (.ref b97), .val (.ref b110), .val (.int v119), .val (.ref b90), .val (.int (1 : Int32))] [])) _
            refine XS.iconst X149.here hx rfl (hb hby at_153) ?_
            show Steps p.tables e below (T149.setTop (mkF m 154 #[.val (.int p0), .val (.long q1), .second, .val (.int p2), .val (.long q3), .second, .val (.int p4), .val (.int v81), .val (.long u87), .second, .val (.ref b90), .val (.ref b97), .val (.ref b110), .val (.int v119), .val (.ref b90), .val (.int (1 : Int32))] [(.int (0 : Int32))])) _
            exact k
          exact (own_leaf2 hv81 hu87 hv119 hc69_122 hc102_139 hc117_144 hc146_152).elim
set_option maxRecDepth 65536 in
set_option maxHeartbeats 40000000 in
theorem comes_1 {Post : Tables → Env → Array Value → State → Outcome → State → Prop} (hpost : ∀ tb e args s v u, (limb_1_1.after args s (.returned v) u = true ∧ limb_1_2.after args s (.returned v) u = true ∧ True) → FrameEnd s (.returned v) u (Jvm.fieldLocs frame_1_writes args s ++ Jvm.arrayLocs frame_1_arrays args s ++ Jvm.staticLocs frame_1_statics s) 16 128 → Post tb e args s (.returned v) u) :
    ArmFor flags0 classFile x code maxLocals ret World_1 tables_1 room_1 Calls_1 rest_1 Pre_1 Post := by
  intro l hfl _ _ p e ha hc hk s m args below hf hA hF happ hP
  obtain ⟨hcalls, hrest, hpre⟩ := hP
  obtain ⟨-, -, -, hnamed, -, -, -, hat⟩ := (Spec.applies_iff hf).mp happ
  obtain ⟨hg, hn⟩ := and_e (Cond.before_iff.mp (show (Jvm.Cond.and given_1 narrow_1).before args s = true from hpre))
  obtain ⟨hcount, hg0⟩ := and_e hg
  obtain ⟨ha0, hg1⟩ := and_e hg0
  obtain ⟨ha1, hg2⟩ := and_e hg1
  obtain ⟨ha2, hg3⟩ := and_e hg2
  obtain ⟨ha3, hg4⟩ := and_e hg3
  have ha4 := hg4
  obtain ⟨w0, w1, w2, w3, w4, rfl⟩ : ∃ w0 w1 w2 w3 w4 : Value, args = #[w0, w1, w2, w3, w4] := by
    have hs : args.size = 5 := by simpa [Cond.value, given_1] using hcount
    obtain ⟨L⟩ := args
    match L, hs with
    | [w0, w1, w2, w3, w4], _ => exact ⟨w0, w1, w2, w3, w4, rfl⟩
  have hw := fun d (hd : d ∈ tables_1) => atoms_spec (ws := Jvm.Cond.code x code maxLocals ret :: tables_1) hat d (List.mem_cons_of_mem _ hd)
  have hfit : Fit s := fun {y c} hc i hi => by
    obtain ⟨ha, rfl⟩ := Array.getElem?_eq_some_iff.mp hc
    have q := List.all_eq_true.mp ((Array.all_eq_true_iff_forall_mem.mp hF) _ (Array.getElem_mem ha)) i (List.mem_range.mpr hi)
    simpa [Array.getElem?_eq_getElem hi] using q
  obtain ⟨hsets, hown0⟩ := atoms_of _ (rest_1_c_eq ▸ (show rest_1_c.before _ s = true from hrest))
  have hr0 := Cond.before_iff.mp hown0
  obtain ⟨i0, ei0⟩ := is_v ha0
  obtain rfl : w0 = (.int i0) := Option.some.inj ei0
  obtain ⟨i1, ei1⟩ := isL_v ha1
  obtain rfl : w1 = (.long i1) := Option.some.inj ei1
  obtain ⟨i2, ei2⟩ := is_v ha2
  obtain rfl : w2 = (.int i2) := Option.some.inj ei2
  obtain ⟨i3, ei3⟩ := isL_v ha3
  obtain rfl : w3 = (.long i3) := Option.some.inj ei3
  obtain ⟨i4, ei4⟩ := is_v ha4
  obtain rfl : w4 = (.int i4) := Option.some.inj ei4
  obtain ⟨s_cache, hC⟩ := own_cache_start hsets
  obtain ⟨n, o, h1, h2, h3, _, L, rfl, ⟨rfl, N⟩, hq⟩ := rm0 l s _ hw tables_1 i0 i1 i2 i3 i4 s_cache s.heap s.heap.size (Nat.le_refl _) hC p e ha hc hk s m _ below hf ((Spec.applies_iff_loose hf).mp happ).1 ⟨rfl, State.Warmed39.refl s, rfl⟩ trivial
  refine ⟨n, _, h1, h2, h3, hpost _ _ _ _ _ _ ⟨Cond.after_iff.mpr rfl, Cond.after_iff.mpr (eq_i res_at (Term.int_eval (1)) rfl), trivial⟩ ⟨hq.1, hq.2.1, (hq.2.2.sift fun y hy => Or.inr (N y hy)).mono (by decide) (by decide)⟩⟩
theorem main_1_1 : Claimed_1_1 := comes_1 fun _ _ _ _ _ _ h hF => ⟨h.1, hF⟩
theorem main_1_2 : Claimed_1_2 := comes_1 fun _ _ _ _ _ _ h hF => ⟨h.2.1, hF⟩
end Jvm.Pilot.@@N@@
namespace Jvm.Pilot.@@N@@
open Jvm Jvm.ClassFile Sem Op Lib Jvm.Free Jvm.Stand Jvm.Pilot.@@N@@.Jvm.D
/-! MADE BY PROGRAM (witnessworld.py) out of the Statement's table words and the real class files: 16 classes; the members and pool entries that the words name. The judged class is class 1, her method 1. -/
namespace start1
open Jvm.ClassFile
def u (s : String) : CpInfo := .utf8 (stringToUtf16 s)
/-- a pool by its gaps: so many unusable entries, then the entry; so many at the end -/
def gap : Nat → List CpInfo → List CpInfo
  | 0, r => r
  | n + 1, r => .unusable :: gap n r
def poolList (es : List (Nat × CpInfo)) (last : Nat) : List CpInfo := es.foldr (fun e r => gap e.1 (e.2 :: r)) (gap last [])
def pool (es : List (Nat × CpInfo)) (last : Nat) : Array CpInfo := ⟨poolList es last⟩
def fileOf (pool : Array CpInfo) (this : Nat) (attrs : Array Attribute := #[]) (ms : Array MethodInfo := #[]) (fl : Nat := 33) (sup : Nat := 0) (ifs : Array Nat := #[]) (fds : Array FieldInfo := #[]) : ClassFile where
  minorVersion := 0
  majorVersion := 65
  constantPool := pool
  accessFlags := fl
  thisClass := this
  superClass := sup
  interfaces := ifs
  fields := fds
  methods := ms
  attributes := attrs
def plain (name : String) (sup : Option ClassId) : Class where
  name := name
  kind := .ordinary
  loader := none
  accessFlags := 33
  super := sup
  interfaces := #[]
  cf := none
  fields := #[]
  methods := #[]
  instanceTypes := #[]
  staticTypes := #[]
  resolved := #[]
  callSites := []
  init := .initialized
  statics := none
  mirror := none

def pool0 : Array CpInfo := pool [(5, u "<init>"), (0, u "()V"), (1, .class_ 10), (1, u "java/lang/Object")] 113

def k0c0 : Code := { maxStack := 0, maxLocals := 1, code := object_method_1_code, exceptionTable := #[], attributes := #[] }
def k0m0 : Method := { name := "<init>", desc := "()V", sig := { parameters := [], returnType := none }, accessFlags := 1, code := some k0c0 }
/-- java/lang/Object -/
def k0 : Class := { plain "java/lang/Object" none with
  accessFlags := 33
  interfaces := #[]
  cf := some (fileOf pool0 8 #[] #[{ accessFlags := 1, nameIndex := 5, descriptorIndex := 6, attributes := #[] }] 33 0 #[] #[])
  fields := #[]
  methods := #[k0m0]
  instanceTypes := #[]
  staticTypes := #[]
  resolved := Array.replicate 124 none
  statics := none }

def pool1 : Array CpInfo := pool [(2, .class_ 4), (1, u "java/lang/Object"), (0, u "<init>"), (0, u "()V"), (0, .class_ 8), (0, u "com/example/loomfilter/loomfilter/core/Sharding"), (0, .methodref 7 10), (0, .nameAndType 5 11), (0, u "(IJ)V"), (0, .methodref 13 14), (0, .class_ 15), (0, .nameAndType 16 17), (0, u "java/lang/Long"), (0, u "valueOf"), (0, u "(J)Ljava/lang/Long;"), (0, .methodref 7 19), (0, .nameAndType 20 21), (0, u "equals"), (0, u "(Ljava/lang/Object;)Z"), (0, .class_ 23), (0, u "com/example/loomfilter/loomfilter/core/ShardingEqualsPinLaw"), (2, u "law"), (0, u "(IJIJI)Z")] 3

def k1m0 : Method := { name := "<init>", desc := "()V", sig := { parameters := [], returnType := none }, accessFlags := 1, code := none }
def k1c1 : Code := { maxStack := 5, maxLocals := 16, code := code, exceptionTable := #[], attributes := #[] }
def k1m1 : Method := { name := "law", desc := "(IJIJI)Z", sig := { parameters := [.int, .long, .int, .long, .int], returnType := some .boolean }, accessFlags := 9, code := some k1c1 }
/-- com/example/loomfilter/loomfilter/core/ShardingEqualsPinLaw -/
def k1 : Class := { plain "com/example/loomfilter/loomfilter/core/ShardingEqualsPinLaw" (some 0) with
  accessFlags := 49
  interfaces := #[]
  cf := some (fileOf pool1 22 #[] #[{ accessFlags := 1, nameIndex := 5, descriptorIndex := 6, attributes := #[] }, { accessFlags := 9, nameIndex := 26, descriptorIndex := 27, attributes := #[] }] 49 2 #[] #[])
  fields := #[]
  methods := #[k1m0, k1m1]
  instanceTypes := #[]
  staticTypes := #[]
  resolved := Array.replicate 31 none
  statics := none }

def pool2 : Array CpInfo := pool [(1, .methodref 2 3), (0, .class_ 4), (0, .nameAndType 5 6), (0, u "java/lang/Object"), (0, u "<init>"), (0, u "()V"), (0, .fieldref 8 9), (0, .class_ 10), (0, .nameAndType 11 12), (0, u "com/example/loomfilter/loomfilter/core/Sharding"), (0, u "shards"), (0, u "I"), (0, .fieldref 8 14), (0, .nameAndType 15 16), (0, u "shardBits"), (0, u "J"), (47, u "(IJ)V"), (6, u "WORD"), (1, u "MAX_SHARDS"), (6, u "equals"), (0, u "(Ljava/lang/Object;)Z")] 3

def k2c0 : Code := { maxStack := 3, maxLocals := 4, code := prog_7_method_1_code, exceptionTable := #[], attributes := #[] }
def k2m0 : Method := { name := "<init>", desc := "(IJ)V", sig := { parameters := [.int, .long], returnType := none }, accessFlags := 0, code := some k2c0 }
def k2c1 : Code := { maxStack := 4, maxLocals := 2, code := prog_7_method_7_code, exceptionTable := #[], attributes := #[] }
def k2m1 : Method := { name := "equals", desc := "(Ljava/lang/Object;)Z", sig := { parameters := [(.object "java/lang/Object")], returnType := some .boolean }, accessFlags := 1, code := some k2c1 }
/-- com/example/loomfilter/loomfilter/core/Sharding -/
def k2 : Class := { plain "com/example/loomfilter/loomfilter/core/Sharding" (some 0) with
  accessFlags := 49
  interfaces := #[]
  cf := some (fileOf pool2 8 #[] #[{ accessFlags := 0, nameIndex := 5, descriptorIndex := 64, attributes := #[] }, { accessFlags := 1, nameIndex := 80, descriptorIndex := 81, attributes := #[] }] 49 2 #[] #[{ accessFlags := 26, nameIndex := 71, descriptorIndex := 16, attributes := #[] }, { accessFlags := 25, nameIndex := 73, descriptorIndex := 12, attributes := #[] }, { accessFlags := 18, nameIndex := 11, descriptorIndex := 12, attributes := #[] }, { accessFlags := 18, nameIndex := 15, descriptorIndex := 16, attributes := #[] }])
  fields := #[{ name := "WORD", type := .long, accessFlags := 26, slot := 0, constantValue := 0 }, { name := "MAX_SHARDS", type := .int, accessFlags := 25, slot := 1, constantValue := 0 }, { name := "shards", type := .int, accessFlags := 18, slot := 0, constantValue := 0 }, { name := "shardBits", type := .long, accessFlags := 18, slot := 1, constantValue := 0 }]
  methods := #[k2m0, k2m1]
  instanceTypes := #[.int, .long]
  staticTypes := #[.long, .int]
  resolved := Array.replicate 85 none
  statics := none }

def pool3 : Array CpInfo := pool [(1, .class_ 2), (0, u "java/io/Serializable"), (0, .class_ 4), (0, u "java/lang/Object")] 2

/-- java/io/Serializable -/
def k3 : Class := { plain "java/io/Serializable" (some 0) with
  accessFlags := 1537
  interfaces := #[]
  cf := some (fileOf pool3 1 #[] #[] 1537 3 #[] #[])
  fields := #[]
  methods := #[]
  instanceTypes := #[]
  staticTypes := #[]
  resolved := Array.replicate 7 none
  statics := none }

def pool4 : Array CpInfo := pool [(1, .methodref 2 3), (0, .class_ 4), (0, .nameAndType 5 6), (0, u "java/lang/Object"), (0, u "<init>"), (0, u "()V"), (1, .class_ 10), (1, u "java/lang/Number"), (2, .class_ 14), (0, u "java/io/Serializable"), (0, u "serialVersionUID"), (0, u "J")] 20

def k4c0 : Code := { maxStack := 1, maxLocals := 1, code := jdk_18_method_1_code, exceptionTable := #[], attributes := #[] }
def k4m0 : Method := { name := "<init>", desc := "()V", sig := { parameters := [], returnType := none }, accessFlags := 1, code := some k4c0 }
/-- java/lang/Number -/
def k4 : Class := { plain "java/lang/Number" (some 0) with
  accessFlags := 1057
  interfaces := #[3]
  cf := some (fileOf pool4 8 #[] #[{ accessFlags := 1, nameIndex := 5, descriptorIndex := 6, attributes := #[] }] 1057 2 #[13] #[{ accessFlags := 26, nameIndex := 15, descriptorIndex := 16, attributes := #[] }])
  fields := #[{ name := "serialVersionUID", type := .long, accessFlags := 26, slot := 0, constantValue := 0 }]
  methods := #[k4m0]
  instanceTypes := #[]
  staticTypes := #[.long]
  resolved := Array.replicate 37 none
  statics := none }

def pool5 : Array CpInfo := pool [(1, .class_ 2), (0, u "java/lang/Comparable"), (0, .class_ 4), (0, u "java/lang/Object")] 7

/-- java/lang/Comparable -/
def k5 : Class := { plain "java/lang/Comparable" (some 0) with
  accessFlags := 1537
  interfaces := #[]
  cf := some (fileOf pool5 1 #[] #[] 1537 3 #[] #[])
  fields := #[]
  methods := #[]
  instanceTypes := #[]
  staticTypes := #[]
  resolved := Array.replicate 12 none
  statics := none }

def pool6 : Array CpInfo := pool [(1, .class_ 2), (0, u "java/lang/constant/Constable"), (0, .class_ 4), (0, u "java/lang/Object")] 6

/-- java/lang/constant/Constable -/
def k6 : Class := { plain "java/lang/constant/Constable" (some 0) with
  accessFlags := 1537
  interfaces := #[]
  cf := some (fileOf pool6 1 #[] #[] 1537 3 #[] #[])
  fields := #[]
  methods := #[]
  instanceTypes := #[]
  staticTypes := #[]
  resolved := Array.replicate 11 none
  statics := none }

def pool7 : Array CpInfo := pool [(1, .class_ 2), (0, u "java/lang/constant/ConstantDesc"), (0, .class_ 4), (0, u "java/lang/Object")] 32

/-- java/lang/constant/ConstantDesc -/
def k7 : Class := { plain "java/lang/constant/ConstantDesc" (some 0) with
  accessFlags := 1537
  interfaces := #[]
  cf := some (fileOf pool7 1 #[] #[] 1537 3 #[] #[])
  fields := #[]
  methods := #[]
  instanceTypes := #[]
  staticTypes := #[]
  resolved := Array.replicate 37 none
  statics := none }

def pool8 : Array CpInfo := pool [(1, .class_ 2), (0, u "java/lang/Long"), (55, .nameAndType 59 60), (0, u "<init>"), (0, u "()V"), (24, u "valueOf"), (143, u "(J)Ljava/lang/Long;"), (0, .long 18446744073709551488), (1, .long 127), (1, .fieldref 235 236), (0, .class_ 237), (0, .nameAndType 238 239), (0, u "java/lang/Long$LongCache"), (0, u "cache"), (0, u "[Ljava/lang/Long;"), (0, .methodref 1 241), (0, .nameAndType 59 242), (0, u "(J)V"), (27, .methodref 271 58), (0, .class_ 272), (0, u "java/lang/Number"), (0, .fieldref 1 274), (0, .nameAndType 275 276), (0, u "value"), (0, u "J"), (84, u "TYPE"), (0, u "Ljava/lang/Class;"), (0, .class_ 364), (0, u "java/lang/Comparable"), (0, .class_ 366), (0, u "java/lang/constant/Constable"), (0, .class_ 368), (0, u "java/lang/constant/ConstantDesc"), (0, u "MIN_VALUE"), (1, u "MAX_VALUE"), (4, u "SIZE"), (0, u "I"), (1, u "BYTES"), (1, u "serialVersionUID")] 142

def k8c0 : Code := { maxStack := 4, maxLocals := 3, code := jdk_35_method_24_code, exceptionTable := #[], attributes := #[] }
def k8m0 : Method := { name := "valueOf", desc := "(J)Ljava/lang/Long;", sig := { parameters := [.long], returnType := some (.object "java/lang/Long") }, accessFlags := 9, code := some k8c0 }
def k8c1 : Code := { maxStack := 3, maxLocals := 3, code := jdk_35_method_26_code, exceptionTable := #[], attributes := #[] }
def k8m1 : Method := { name := "<init>", desc := "(J)V", sig := { parameters := [.long], returnType := none }, accessFlags := 1, code := some k8c1 }
/-- java/lang/Long -/
def k8 : Class := { plain "java/lang/Long" (some 4) with
  accessFlags := 49
  interfaces := #[5, 6, 7]
  cf := some (fileOf pool8 1 #[.nestMembers #[235]] #[{ accessFlags := 9, nameIndex := 85, descriptorIndex := 229, attributes := #[] }, { accessFlags := 1, nameIndex := 59, descriptorIndex := 242, attributes := #[] }] 49 271 #[363, 365, 367] #[{ accessFlags := 25, nameIndex := 369, descriptorIndex := 276, attributes := #[] }, { accessFlags := 25, nameIndex := 371, descriptorIndex := 276, attributes := #[] }, { accessFlags := 25, nameIndex := 361, descriptorIndex := 362, attributes := #[] }, { accessFlags := 18, nameIndex := 275, descriptorIndex := 276, attributes := #[] }, { accessFlags := 25, nameIndex := 376, descriptorIndex := 377, attributes := #[] }, { accessFlags := 25, nameIndex := 379, descriptorIndex := 377, attributes := #[] }, { accessFlags := 26, nameIndex := 381, descriptorIndex := 276, attributes := #[] }])
  fields := #[{ name := "MIN_VALUE", type := .long, accessFlags := 25, slot := 0, constantValue := 0 }, { name := "MAX_VALUE", type := .long, accessFlags := 25, slot := 1, constantValue := 0 }, { name := "TYPE", type := (.object "java/lang/Class"), accessFlags := 25, slot := 2, constantValue := 0 }, { name := "value", type := .long, accessFlags := 18, slot := 0, constantValue := 0 }, { name := "SIZE", type := .int, accessFlags := 25, slot := 3, constantValue := 0 }, { name := "BYTES", type := .int, accessFlags := 25, slot := 4, constantValue := 0 }, { name := "serialVersionUID", type := .long, accessFlags := 26, slot := 5, constantValue := 0 }]
  methods := #[k8m0, k8m1]
  instanceTypes := #[.long]
  staticTypes := #[.long, .long, (.object "java/lang/Class"), .int, .int, .long]
  resolved := Array.replicate 524 none
  statics := none }

def pool9 : Array CpInfo := pool [(2, .class_ 4), (1, u "java/lang/Object"), (0, u "<init>"), (0, u "()V"), (0, .class_ 8), (0, u "java/lang/Long"), (7, .class_ 18), (1, u "java/lang/Long$LongCache"), (0, u "$assertionsDisabled"), (0, u "Z"), (8, u "archivedCache"), (0, u "[Ljava/lang/Long;"), (7, u "cache")] 24

def k9m0 : Method := { name := "<init>", desc := "()V", sig := { parameters := [], returnType := none }, accessFlags := 2, code := none }
/-- java/lang/Long$LongCache -/
def k9 : Class := { plain "java/lang/Long$LongCache" (some 0) with
  accessFlags := 48
  interfaces := #[]
  cf := some (fileOf pool9 16 #[.nestHost 7] #[{ accessFlags := 2, nameIndex := 5, descriptorIndex := 6, attributes := #[] }] 48 2 #[] #[{ accessFlags := 24, nameIndex := 38, descriptorIndex := 30, attributes := #[] }, { accessFlags := 8, nameIndex := 29, descriptorIndex := 30, attributes := #[] }, { accessFlags := 4120, nameIndex := 19, descriptorIndex := 20, attributes := #[] }])
  fields := #[{ name := "cache", type := (.array (.object "java/lang/Long")), accessFlags := 24, slot := 0, constantValue := 0 }, { name := "archivedCache", type := (.array (.object "java/lang/Long")), accessFlags := 8, slot := 1, constantValue := 0 }, { name := "$assertionsDisabled", type := .boolean, accessFlags := 4120, slot := 2, constantValue := 0 }]
  methods := #[k9m0]
  instanceTypes := #[]
  staticTypes := #[(.array (.object "java/lang/Long")), (.array (.object "java/lang/Long")), .boolean]
  resolved := Array.replicate 63 none
  statics := some 0 }

def pool10 : Array CpInfo := pool [(1, u "java/lang/Cloneable"), (0, .class_ 1), (0, u "java/lang/Object"), (0, .class_ 3)] 3

/-- java/lang/Cloneable -/
def k10 : Class := { plain "java/lang/Cloneable" (some 0) with
  accessFlags := 1537
  interfaces := #[]
  cf := some (fileOf pool10 2 #[] #[] 1537 4 #[] #[])
  fields := #[]
  methods := #[]
  instanceTypes := #[]
  staticTypes := #[]
  resolved := Array.replicate 8 none
  statics := none }

/-- the primitive byte -/
def k11 : Class := { plain "byte" none with kind := .primitive 'B', accessFlags := 0x411 }
/-- [B -/
def k12 : Class := { plain "[B" (some 0) with kind := .array 11 .byte, interfaces := #[10, 3], accessFlags := 1041 }

/-- the primitive int -/
def k13 : Class := { plain "int" none with kind := .primitive 'I', accessFlags := 0x411 }
/-- [I -/
def k14 : Class := { plain "[I" (some 0) with kind := .array 13 .int, interfaces := #[10, 3], accessFlags := 1041 }

/-- [Ljava/lang/Long; -/
def k15 : Class := { plain "[Ljava/lang/Long;" (some 0) with kind := .array 8 (.object "java/lang/Long"), interfaces := #[10, 3], accessFlags := 1041 }

def heap : Heap := #[{ cls := 9, slots := #[.ref 1, .null, .int 0], vm := .statics 9 },
  { cls := 15, slots := #[.ref 2, .ref 3, .ref 4, .ref 5, .ref 6, .ref 7, .ref 8, .ref 9, .ref 10, .ref 11, .ref 12, .ref 13, .ref 14, .ref 15, .ref 16, .ref 17, .ref 18, .ref 19, .ref 20, .ref 21, .ref 22, .ref 23, .ref 24, .ref 25, .ref 26, .ref 27, .ref 28, .ref 29, .ref 30, .ref 31, .ref 32, .ref 33, .ref 34, .ref 35, .ref 36, .ref 37, .ref 38, .ref 39, .ref 40, .ref 41, .ref 42, .ref 43, .ref 44, .ref 45, .ref 46, .ref 47, .ref 48, .ref 49, .ref 50, .ref 51, .ref 52, .ref 53, .ref 54, .ref 55, .ref 56, .ref 57, .ref 58, .ref 59, .ref 60, .ref 61, .ref 62, .ref 63, .ref 64, .ref 65, .ref 66, .ref 67, .ref 68, .ref 69, .ref 70, .ref 71, .ref 72, .ref 73, .ref 74, .ref 75, .ref 76, .ref 77, .ref 78, .ref 79, .ref 80, .ref 81, .ref 82, .ref 83, .ref 84, .ref 85, .ref 86, .ref 87, .ref 88, .ref 89, .ref 90, .ref 91, .ref 92, .ref 93, .ref 94, .ref 95, .ref 96, .ref 97, .ref 98, .ref 99, .ref 100, .ref 101, .ref 102, .ref 103, .ref 104, .ref 105, .ref 106, .ref 107, .ref 108, .ref 109, .ref 110, .ref 111, .ref 112, .ref 113, .ref 114, .ref 115, .ref 116, .ref 117, .ref 118, .ref 119, .ref 120, .ref 121, .ref 122, .ref 123, .ref 124, .ref 125, .ref 126, .ref 127, .ref 128, .ref 129, .ref 130, .ref 131, .ref 132, .ref 133, .ref 134, .ref 135, .ref 136, .ref 137, .ref 138, .ref 139, .ref 140, .ref 141, .ref 142, .ref 143, .ref 144, .ref 145, .ref 146, .ref 147, .ref 148, .ref 149, .ref 150, .ref 151, .ref 152, .ref 153, .ref 154, .ref 155, .ref 156, .ref 157, .ref 158, .ref 159, .ref 160, .ref 161, .ref 162, .ref 163, .ref 164, .ref 165, .ref 166, .ref 167, .ref 168, .ref 169, .ref 170, .ref 171, .ref 172, .ref 173, .ref 174, .ref 175, .ref 176, .ref 177, .ref 178, .ref 179, .ref 180, .ref 181, .ref 182, .ref 183, .ref 184, .ref 185, .ref 186, .ref 187, .ref 188, .ref 189, .ref 190, .ref 191, .ref 192, .ref 193, .ref 194, .ref 195, .ref 196, .ref 197, .ref 198, .ref 199, .ref 200, .ref 201, .ref 202, .ref 203, .ref 204, .ref 205, .ref 206, .ref 207, .ref 208, .ref 209, .ref 210, .ref 211, .ref 212, .ref 213, .ref 214, .ref 215, .ref 216, .ref 217, .ref 218, .ref 219, .ref 220, .ref 221, .ref 222, .ref 223, .ref 224, .ref 225, .ref 226, .ref 227, .ref 228, .ref 229, .ref 230, .ref 231, .ref 232, .ref 233, .ref 234, .ref 235, .ref 236, .ref 237, .ref 238, .ref 239, .ref 240, .ref 241, .ref 242, .ref 243, .ref 244, .ref 245, .ref 246, .ref 247, .ref 248, .ref 249, .ref 250, .ref 251, .ref 252, .ref 253, .ref 254, .ref 255, .ref 256, .ref 257], vm := .none },
  { cls := 8, slots := #[.long (-128)], vm := .none },
  { cls := 8, slots := #[.long (-127)], vm := .none },
  { cls := 8, slots := #[.long (-126)], vm := .none },
  { cls := 8, slots := #[.long (-125)], vm := .none },
  { cls := 8, slots := #[.long (-124)], vm := .none },
  { cls := 8, slots := #[.long (-123)], vm := .none },
  { cls := 8, slots := #[.long (-122)], vm := .none },
  { cls := 8, slots := #[.long (-121)], vm := .none },
  { cls := 8, slots := #[.long (-120)], vm := .none },
  { cls := 8, slots := #[.long (-119)], vm := .none },
  { cls := 8, slots := #[.long (-118)], vm := .none },
  { cls := 8, slots := #[.long (-117)], vm := .none },
  { cls := 8, slots := #[.long (-116)], vm := .none },
  { cls := 8, slots := #[.long (-115)], vm := .none },
  { cls := 8, slots := #[.long (-114)], vm := .none },
  { cls := 8, slots := #[.long (-113)], vm := .none },
  { cls := 8, slots := #[.long (-112)], vm := .none },
  { cls := 8, slots := #[.long (-111)], vm := .none },
  { cls := 8, slots := #[.long (-110)], vm := .none },
  { cls := 8, slots := #[.long (-109)], vm := .none },
  { cls := 8, slots := #[.long (-108)], vm := .none },
  { cls := 8, slots := #[.long (-107)], vm := .none },
  { cls := 8, slots := #[.long (-106)], vm := .none },
  { cls := 8, slots := #[.long (-105)], vm := .none },
  { cls := 8, slots := #[.long (-104)], vm := .none },
  { cls := 8, slots := #[.long (-103)], vm := .none },
  { cls := 8, slots := #[.long (-102)], vm := .none },
  { cls := 8, slots := #[.long (-101)], vm := .none },
  { cls := 8, slots := #[.long (-100)], vm := .none },
  { cls := 8, slots := #[.long (-99)], vm := .none },
  { cls := 8, slots := #[.long (-98)], vm := .none },
  { cls := 8, slots := #[.long (-97)], vm := .none },
  { cls := 8, slots := #[.long (-96)], vm := .none },
  { cls := 8, slots := #[.long (-95)], vm := .none },
  { cls := 8, slots := #[.long (-94)], vm := .none },
  { cls := 8, slots := #[.long (-93)], vm := .none },
  { cls := 8, slots := #[.long (-92)], vm := .none },
  { cls := 8, slots := #[.long (-91)], vm := .none },
  { cls := 8, slots := #[.long (-90)], vm := .none },
  { cls := 8, slots := #[.long (-89)], vm := .none },
  { cls := 8, slots := #[.long (-88)], vm := .none },
  { cls := 8, slots := #[.long (-87)], vm := .none },
  { cls := 8, slots := #[.long (-86)], vm := .none },
  { cls := 8, slots := #[.long (-85)], vm := .none },
  { cls := 8, slots := #[.long (-84)], vm := .none },
  { cls := 8, slots := #[.long (-83)], vm := .none },
  { cls := 8, slots := #[.long (-82)], vm := .none },
  { cls := 8, slots := #[.long (-81)], vm := .none },
  { cls := 8, slots := #[.long (-80)], vm := .none },
  { cls := 8, slots := #[.long (-79)], vm := .none },
  { cls := 8, slots := #[.long (-78)], vm := .none },
  { cls := 8, slots := #[.long (-77)], vm := .none },
  { cls := 8, slots := #[.long (-76)], vm := .none },
  { cls := 8, slots := #[.long (-75)], vm := .none },
  { cls := 8, slots := #[.long (-74)], vm := .none },
  { cls := 8, slots := #[.long (-73)], vm := .none },
  { cls := 8, slots := #[.long (-72)], vm := .none },
  { cls := 8, slots := #[.long (-71)], vm := .none },
  { cls := 8, slots := #[.long (-70)], vm := .none },
  { cls := 8, slots := #[.long (-69)], vm := .none },
  { cls := 8, slots := #[.long (-68)], vm := .none },
  { cls := 8, slots := #[.long (-67)], vm := .none },
  { cls := 8, slots := #[.long (-66)], vm := .none },
  { cls := 8, slots := #[.long (-65)], vm := .none },
  { cls := 8, slots := #[.long (-64)], vm := .none },
  { cls := 8, slots := #[.long (-63)], vm := .none },
  { cls := 8, slots := #[.long (-62)], vm := .none },
  { cls := 8, slots := #[.long (-61)], vm := .none },
  { cls := 8, slots := #[.long (-60)], vm := .none },
  { cls := 8, slots := #[.long (-59)], vm := .none },
  { cls := 8, slots := #[.long (-58)], vm := .none },
  { cls := 8, slots := #[.long (-57)], vm := .none },
  { cls := 8, slots := #[.long (-56)], vm := .none },
  { cls := 8, slots := #[.long (-55)], vm := .none },
  { cls := 8, slots := #[.long (-54)], vm := .none },
  { cls := 8, slots := #[.long (-53)], vm := .none },
  { cls := 8, slots := #[.long (-52)], vm := .none },
  { cls := 8, slots := #[.long (-51)], vm := .none },
  { cls := 8, slots := #[.long (-50)], vm := .none },
  { cls := 8, slots := #[.long (-49)], vm := .none },
  { cls := 8, slots := #[.long (-48)], vm := .none },
  { cls := 8, slots := #[.long (-47)], vm := .none },
  { cls := 8, slots := #[.long (-46)], vm := .none },
  { cls := 8, slots := #[.long (-45)], vm := .none },
  { cls := 8, slots := #[.long (-44)], vm := .none },
  { cls := 8, slots := #[.long (-43)], vm := .none },
  { cls := 8, slots := #[.long (-42)], vm := .none },
  { cls := 8, slots := #[.long (-41)], vm := .none },
  { cls := 8, slots := #[.long (-40)], vm := .none },
  { cls := 8, slots := #[.long (-39)], vm := .none },
  { cls := 8, slots := #[.long (-38)], vm := .none },
  { cls := 8, slots := #[.long (-37)], vm := .none },
  { cls := 8, slots := #[.long (-36)], vm := .none },
  { cls := 8, slots := #[.long (-35)], vm := .none },
  { cls := 8, slots := #[.long (-34)], vm := .none },
  { cls := 8, slots := #[.long (-33)], vm := .none },
  { cls := 8, slots := #[.long (-32)], vm := .none },
  { cls := 8, slots := #[.long (-31)], vm := .none },
  { cls := 8, slots := #[.long (-30)], vm := .none },
  { cls := 8, slots := #[.long (-29)], vm := .none },
  { cls := 8, slots := #[.long (-28)], vm := .none },
  { cls := 8, slots := #[.long (-27)], vm := .none },
  { cls := 8, slots := #[.long (-26)], vm := .none },
  { cls := 8, slots := #[.long (-25)], vm := .none },
  { cls := 8, slots := #[.long (-24)], vm := .none },
  { cls := 8, slots := #[.long (-23)], vm := .none },
  { cls := 8, slots := #[.long (-22)], vm := .none },
  { cls := 8, slots := #[.long (-21)], vm := .none },
  { cls := 8, slots := #[.long (-20)], vm := .none },
  { cls := 8, slots := #[.long (-19)], vm := .none },
  { cls := 8, slots := #[.long (-18)], vm := .none },
  { cls := 8, slots := #[.long (-17)], vm := .none },
  { cls := 8, slots := #[.long (-16)], vm := .none },
  { cls := 8, slots := #[.long (-15)], vm := .none },
  { cls := 8, slots := #[.long (-14)], vm := .none },
  { cls := 8, slots := #[.long (-13)], vm := .none },
  { cls := 8, slots := #[.long (-12)], vm := .none },
  { cls := 8, slots := #[.long (-11)], vm := .none },
  { cls := 8, slots := #[.long (-10)], vm := .none },
  { cls := 8, slots := #[.long (-9)], vm := .none },
  { cls := 8, slots := #[.long (-8)], vm := .none },
  { cls := 8, slots := #[.long (-7)], vm := .none },
  { cls := 8, slots := #[.long (-6)], vm := .none },
  { cls := 8, slots := #[.long (-5)], vm := .none },
  { cls := 8, slots := #[.long (-4)], vm := .none },
  { cls := 8, slots := #[.long (-3)], vm := .none },
  { cls := 8, slots := #[.long (-2)], vm := .none },
  { cls := 8, slots := #[.long (-1)], vm := .none },
  { cls := 8, slots := #[.long (0)], vm := .none },
  { cls := 8, slots := #[.long (1)], vm := .none },
  { cls := 8, slots := #[.long (2)], vm := .none },
  { cls := 8, slots := #[.long (3)], vm := .none },
  { cls := 8, slots := #[.long (4)], vm := .none },
  { cls := 8, slots := #[.long (5)], vm := .none },
  { cls := 8, slots := #[.long (6)], vm := .none },
  { cls := 8, slots := #[.long (7)], vm := .none },
  { cls := 8, slots := #[.long (8)], vm := .none },
  { cls := 8, slots := #[.long (9)], vm := .none },
  { cls := 8, slots := #[.long (10)], vm := .none },
  { cls := 8, slots := #[.long (11)], vm := .none },
  { cls := 8, slots := #[.long (12)], vm := .none },
  { cls := 8, slots := #[.long (13)], vm := .none },
  { cls := 8, slots := #[.long (14)], vm := .none },
  { cls := 8, slots := #[.long (15)], vm := .none },
  { cls := 8, slots := #[.long (16)], vm := .none },
  { cls := 8, slots := #[.long (17)], vm := .none },
  { cls := 8, slots := #[.long (18)], vm := .none },
  { cls := 8, slots := #[.long (19)], vm := .none },
  { cls := 8, slots := #[.long (20)], vm := .none },
  { cls := 8, slots := #[.long (21)], vm := .none },
  { cls := 8, slots := #[.long (22)], vm := .none },
  { cls := 8, slots := #[.long (23)], vm := .none },
  { cls := 8, slots := #[.long (24)], vm := .none },
  { cls := 8, slots := #[.long (25)], vm := .none },
  { cls := 8, slots := #[.long (26)], vm := .none },
  { cls := 8, slots := #[.long (27)], vm := .none },
  { cls := 8, slots := #[.long (28)], vm := .none },
  { cls := 8, slots := #[.long (29)], vm := .none },
  { cls := 8, slots := #[.long (30)], vm := .none },
  { cls := 8, slots := #[.long (31)], vm := .none },
  { cls := 8, slots := #[.long (32)], vm := .none },
  { cls := 8, slots := #[.long (33)], vm := .none },
  { cls := 8, slots := #[.long (34)], vm := .none },
  { cls := 8, slots := #[.long (35)], vm := .none },
  { cls := 8, slots := #[.long (36)], vm := .none },
  { cls := 8, slots := #[.long (37)], vm := .none },
  { cls := 8, slots := #[.long (38)], vm := .none },
  { cls := 8, slots := #[.long (39)], vm := .none },
  { cls := 8, slots := #[.long (40)], vm := .none },
  { cls := 8, slots := #[.long (41)], vm := .none },
  { cls := 8, slots := #[.long (42)], vm := .none },
  { cls := 8, slots := #[.long (43)], vm := .none },
  { cls := 8, slots := #[.long (44)], vm := .none },
  { cls := 8, slots := #[.long (45)], vm := .none },
  { cls := 8, slots := #[.long (46)], vm := .none },
  { cls := 8, slots := #[.long (47)], vm := .none },
  { cls := 8, slots := #[.long (48)], vm := .none },
  { cls := 8, slots := #[.long (49)], vm := .none },
  { cls := 8, slots := #[.long (50)], vm := .none },
  { cls := 8, slots := #[.long (51)], vm := .none },
  { cls := 8, slots := #[.long (52)], vm := .none },
  { cls := 8, slots := #[.long (53)], vm := .none },
  { cls := 8, slots := #[.long (54)], vm := .none },
  { cls := 8, slots := #[.long (55)], vm := .none },
  { cls := 8, slots := #[.long (56)], vm := .none },
  { cls := 8, slots := #[.long (57)], vm := .none },
  { cls := 8, slots := #[.long (58)], vm := .none },
  { cls := 8, slots := #[.long (59)], vm := .none },
  { cls := 8, slots := #[.long (60)], vm := .none },
  { cls := 8, slots := #[.long (61)], vm := .none },
  { cls := 8, slots := #[.long (62)], vm := .none },
  { cls := 8, slots := #[.long (63)], vm := .none },
  { cls := 8, slots := #[.long (64)], vm := .none },
  { cls := 8, slots := #[.long (65)], vm := .none },
  { cls := 8, slots := #[.long (66)], vm := .none },
  { cls := 8, slots := #[.long (67)], vm := .none },
  { cls := 8, slots := #[.long (68)], vm := .none },
  { cls := 8, slots := #[.long (69)], vm := .none },
  { cls := 8, slots := #[.long (70)], vm := .none },
  { cls := 8, slots := #[.long (71)], vm := .none },
  { cls := 8, slots := #[.long (72)], vm := .none },
  { cls := 8, slots := #[.long (73)], vm := .none },
  { cls := 8, slots := #[.long (74)], vm := .none },
  { cls := 8, slots := #[.long (75)], vm := .none },
  { cls := 8, slots := #[.long (76)], vm := .none },
  { cls := 8, slots := #[.long (77)], vm := .none },
  { cls := 8, slots := #[.long (78)], vm := .none },
  { cls := 8, slots := #[.long (79)], vm := .none },
  { cls := 8, slots := #[.long (80)], vm := .none },
  { cls := 8, slots := #[.long (81)], vm := .none },
  { cls := 8, slots := #[.long (82)], vm := .none },
  { cls := 8, slots := #[.long (83)], vm := .none },
  { cls := 8, slots := #[.long (84)], vm := .none },
  { cls := 8, slots := #[.long (85)], vm := .none },
  { cls := 8, slots := #[.long (86)], vm := .none },
  { cls := 8, slots := #[.long (87)], vm := .none },
  { cls := 8, slots := #[.long (88)], vm := .none },
  { cls := 8, slots := #[.long (89)], vm := .none },
  { cls := 8, slots := #[.long (90)], vm := .none },
  { cls := 8, slots := #[.long (91)], vm := .none },
  { cls := 8, slots := #[.long (92)], vm := .none },
  { cls := 8, slots := #[.long (93)], vm := .none },
  { cls := 8, slots := #[.long (94)], vm := .none },
  { cls := 8, slots := #[.long (95)], vm := .none },
  { cls := 8, slots := #[.long (96)], vm := .none },
  { cls := 8, slots := #[.long (97)], vm := .none },
  { cls := 8, slots := #[.long (98)], vm := .none },
  { cls := 8, slots := #[.long (99)], vm := .none },
  { cls := 8, slots := #[.long (100)], vm := .none },
  { cls := 8, slots := #[.long (101)], vm := .none },
  { cls := 8, slots := #[.long (102)], vm := .none },
  { cls := 8, slots := #[.long (103)], vm := .none },
  { cls := 8, slots := #[.long (104)], vm := .none },
  { cls := 8, slots := #[.long (105)], vm := .none },
  { cls := 8, slots := #[.long (106)], vm := .none },
  { cls := 8, slots := #[.long (107)], vm := .none },
  { cls := 8, slots := #[.long (108)], vm := .none },
  { cls := 8, slots := #[.long (109)], vm := .none },
  { cls := 8, slots := #[.long (110)], vm := .none },
  { cls := 8, slots := #[.long (111)], vm := .none },
  { cls := 8, slots := #[.long (112)], vm := .none },
  { cls := 8, slots := #[.long (113)], vm := .none },
  { cls := 8, slots := #[.long (114)], vm := .none },
  { cls := 8, slots := #[.long (115)], vm := .none },
  { cls := 8, slots := #[.long (116)], vm := .none },
  { cls := 8, slots := #[.long (117)], vm := .none },
  { cls := 8, slots := #[.long (118)], vm := .none },
  { cls := 8, slots := #[.long (119)], vm := .none },
  { cls := 8, slots := #[.long (120)], vm := .none },
  { cls := 8, slots := #[.long (121)], vm := .none },
  { cls := 8, slots := #[.long (122)], vm := .none },
  { cls := 8, slots := #[.long (123)], vm := .none },
  { cls := 8, slots := #[.long (124)], vm := .none },
  { cls := 8, slots := #[.long (125)], vm := .none },
  { cls := 8, slots := #[.long (126)], vm := .none },
  { cls := 8, slots := #[.long (127)], vm := .none }]
def classes : Array Class := #[k0, k1, k2, k3, k4, k5, k6, k7, k8, k9, k10, k11, k12, k13, k14, k15]
def interned : List (Array UInt16 × Addr) := []
def slotsUsed : Nat := 515
def theMethod : MethodId := ⟨1, 1⟩
def args0 : Array Value := #[.int 5, .long 7, .int 5, .long 7, .int 3]
def aboutOver (below : List Frame) : State where
  vm := { classes := classes, interned := interned.toArray }
  heap := heap
  slotsUsed := slotsUsed
  threads := #[{ frames := .invoking theMethod args0 :: below }]
def below0 : List Frame := [.native { method := ⟨0, 0⟩, args := #[] }]
def about1 : State := aboutOver below0
def p0 : Program := .bare "" "" ""
def e0 : Env := launch0.env 0 0 0
theorem w_frames : about1.frames = Frame.invoking theMethod args0 :: below0 := rfl
set_option maxRecDepth 65536 in
theorem w_args : argsFit about1.vm theMethod args0 = true := by decide +kernel
set_option maxRecDepth 65536 in
theorem w_heap : heapFits about1 = true := by decide +kernel
set_option maxRecDepth 65536 in
theorem w_runnable : about1.curStatus? = some .runnable := by decide +kernel
set_option maxRecDepth 65536 in
theorem w_alone : about1.alone = true := by decide +kernel
set_option maxRecDepth 65536 in
theorem w_named : about1.methodNamed? x = some theMethod := by decide +kernel
set_option maxRecDepth 65536 in
theorem w_hears : about1.hears theMethod below0 = true := by decide +kernel
set_option maxRecDepth 65536 in
theorem w_ripe : about1.ripe theMethod args0 below0 = true := by decide +kernel
theorem w_running : about1.status = .running := rfl
set_option maxRecDepth 65536 in
theorem w_room : about1.hasRoom e0.platform room_1 = true :=
  launch0.hasRoom_least _ room_1 (by decide +kernel) (by decide +kernel) (by decide +kernel) (by decide +kernel) (by decide +kernel) (by decide +kernel)
theorem allAtoms_all (ts : List Jvm.Cond) (a : Array Jvm.Value) (st : Jvm.State) : (allAtoms ts).before a st = ts.all (fun c => c.before a st) := by
  induction ts with
  | nil => rfl
  | cons c t ih =>
    show (Jvm.Cond.and c (allAtoms t)).before a st = _
    rw [Jvm.Cond.before_and, ih, List.all_cons]
def words1 : List Jvm.Cond := Jvm.Cond.code x code maxLocals ret :: tables_1
/-- a 'code' word, met by the world's own term for the bytes: nothing is compared byte by byte -/
theorem code_word {y : MethodName} {bytes : ByteArray} {mx : Nat} {rt : Option FieldType} {a : Array Value} {s : State} {m : MethodId} {meth : Method} {c : Code} (h1 : s.methodNamed? y = some m) (h2 : s.vm.method? m = some meth) (h3 : meth.code = some c) (h4 : c.code = bytes)
    (h5 : (c.maxLocals == mx && c.exceptionTable.isEmpty && decide (c.maxStack ≤ mostOperands) && decide (meth.sig.returnType = rt) && !meth.locks && decide (parseMethodDescriptor y.desc = some meth.sig)) = true) : (Jvm.Cond.code y bytes mx rt).before a s = true := by
  simp only [Bool.and_eq_true, beq_iff_eq, Bool.not_eq_true', decide_eq_true_eq] at h5
  obtain ⟨⟨⟨⟨⟨g1, g2⟩, g3⟩, g4⟩, g5⟩, g6⟩ := h5
  simp [Cond.before, Cond.holds, Cond.value, h1, h2, h3, h4, g1, g2, g3, g4, g5, g6]
def isCode : Jvm.Cond → Bool
  | .code _ _ _ _ => true
  | _ => false
theorem all_split {L : List Jvm.Cond} {P : Jvm.Cond → Bool} (h1 : L.all (fun c => isCode c || P c) = true) (h2 : ∀ c ∈ L.filter isCode, P c = true) : L.all P = true := by
  refine List.all_eq_true.mpr fun c hc => ?_
  have h := List.all_eq_true.mp h1 c hc
  rcases Bool.eq_false_or_eq_true (isCode c) with hi | hi
  · exact h2 c (List.mem_filter.mpr ⟨hc, hi⟩)
  · simpa [hi] using h
set_option maxRecDepth 65536 in
theorem w_c0 : (Jvm.Cond.code x code maxLocals ret).before args0 about1 = true := code_word (m := ⟨1, 1⟩) (meth := k1m1) (c := k1c1) (by decide +kernel) rfl rfl rfl (by decide +kernel)
set_option maxRecDepth 65536 in
theorem w_c1 : (Jvm.Cond.code ({ cls := "com/example/loomfilter/loomfilter/core/Sharding", name := "<init>", desc := "(IJ)V" } : Jvm.MethodName) prog_7_method_1_code (4 : Nat) (Option.none : Option Jvm.ClassFile.FieldType)).before args0 about1 = true := code_word (m := ⟨2, 0⟩) (meth := k2m0) (c := k2c0) (by decide +kernel) rfl rfl rfl (by decide +kernel)
set_option maxRecDepth 65536 in
theorem w_c2 : (Jvm.Cond.code ({ cls := "java/lang/Object", name := "<init>", desc := "()V" } : Jvm.MethodName) object_method_1_code (1 : Nat) (Option.none : Option Jvm.ClassFile.FieldType)).before args0 about1 = true := code_word (m := ⟨0, 0⟩) (meth := k0m0) (c := k0c0) (by decide +kernel) rfl rfl rfl (by decide +kernel)
set_option maxRecDepth 65536 in
theorem w_c3 : (Jvm.Cond.code ({ cls := "java/lang/Long", name := "valueOf", desc := "(J)Ljava/lang/Long;" } : Jvm.MethodName) jdk_35_method_24_code (3 : Nat) (Option.some (Jvm.ClassFile.FieldType.object "java/lang/Long"))).before args0 about1 = true := code_word (m := ⟨8, 0⟩) (meth := k8m0) (c := k8c0) (by decide +kernel) rfl rfl rfl (by decide +kernel)
set_option maxRecDepth 65536 in
theorem w_c4 : (Jvm.Cond.code ({ cls := "com/example/loomfilter/loomfilter/core/Sharding", name := "equals", desc := "(Ljava/lang/Object;)Z" } : Jvm.MethodName) prog_7_method_7_code (2 : Nat) (Option.some Jvm.ClassFile.FieldType.boolean)).before args0 about1 = true := code_word (m := ⟨2, 1⟩) (meth := k2m1) (c := k2c1) (by decide +kernel) rfl rfl rfl (by decide +kernel)
set_option maxRecDepth 65536 in
theorem w_c5 : (Jvm.Cond.code ({ cls := "java/lang/Long", name := "<init>", desc := "(J)V" } : Jvm.MethodName) jdk_35_method_26_code (3 : Nat) (Option.none : Option Jvm.ClassFile.FieldType)).before args0 about1 = true := code_word (m := ⟨8, 1⟩) (meth := k8m1) (c := k8c1) (by decide +kernel) rfl rfl rfl (by decide +kernel)
set_option maxRecDepth 65536 in
theorem w_c6 : (Jvm.Cond.code ({ cls := "java/lang/Number", name := "<init>", desc := "()V" } : Jvm.MethodName) jdk_18_method_1_code (1 : Nat) (Option.none : Option Jvm.ClassFile.FieldType)).before args0 about1 = true := code_word (m := ⟨4, 0⟩) (meth := k4m0) (c := k4c0) (by decide +kernel) rfl rfl rfl (by decide +kernel)
def codes1 : List Jvm.Cond := [Jvm.Cond.code x code maxLocals ret, Jvm.Cond.code ({ cls := "com/example/loomfilter/loomfilter/core/Sharding", name := "<init>", desc := "(IJ)V" } : Jvm.MethodName) prog_7_method_1_code (4 : Nat) (Option.none : Option Jvm.ClassFile.FieldType), Jvm.Cond.code ({ cls := "java/lang/Object", name := "<init>", desc := "()V" } : Jvm.MethodName) object_method_1_code (1 : Nat) (Option.none : Option Jvm.ClassFile.FieldType), Jvm.Cond.code ({ cls := "java/lang/Long", name := "valueOf", desc := "(J)Ljava/lang/Long;" } : Jvm.MethodName) jdk_35_method_24_code (3 : Nat) (Option.some (Jvm.ClassFile.FieldType.object "java/lang/Long")), Jvm.Cond.code ({ cls := "com/example/loomfilter/loomfilter/core/Sharding", name := "equals", desc := "(Ljava/lang/Object;)Z" } : Jvm.MethodName) prog_7_method_7_code (2 : Nat) (Option.some Jvm.ClassFile.FieldType.boolean), Jvm.Cond.code ({ cls := "java/lang/Long", name := "<init>", desc := "(J)V" } : Jvm.MethodName) jdk_35_method_26_code (3 : Nat) (Option.none : Option Jvm.ClassFile.FieldType), Jvm.Cond.code ({ cls := "java/lang/Number", name := "<init>", desc := "()V" } : Jvm.MethodName) jdk_18_method_1_code (1 : Nat) (Option.none : Option Jvm.ClassFile.FieldType)]
set_option maxRecDepth 65536 in
theorem codes_eq : words1.filter isCode = codes1 := rfl
theorem w_codes : ∀ c ∈ words1.filter isCode, c.before args0 about1 = true := by
  rw [codes_eq]
  intro c hc
  simp only [codes1, List.mem_cons, List.not_mem_nil, or_false] at hc
  rcases hc with rfl | rfl | rfl | rfl | rfl | rfl | rfl
  · exact w_c0
  · exact w_c1
  · exact w_c2
  · exact w_c3
  · exact w_c4
  · exact w_c5
  · exact w_c6
set_option maxRecDepth 65536 in
theorem w_t1 : (words1.take 24).all (fun c => isCode c || c.before args0 about1) = true := by decide +kernel
set_option maxRecDepth 65536 in
theorem w_t2 : (words1.drop 24).all (fun c => isCode c || c.before args0 about1) = true := by decide +kernel
theorem w_tables : (allAtoms (Jvm.Cond.code x code maxLocals ret :: tables_1)).before args0 about1 = true := by
  rw [allAtoms_all]
  show words1.all (fun c => c.before args0 about1) = true
  refine all_split ?_ w_codes
  rw [← List.take_append_drop 24 words1, List.all_append, w_t1, w_t2]
  rfl
set_option maxRecDepth 65536 in
theorem w_rest : rest_1_c.before args0 about1 = true := by decide +kernel
set_option maxRecDepth 65536 in
theorem w_case : (Jvm.Cond.and given_1 narrow_1).before args0 about1 = true := by decide +kernel
theorem w_applies : (headSpec (Jvm.Cond.code x code maxLocals ret :: tables_1) room_1).applies x e0.platform about1 = true :=
  (Spec.applies_iff w_frames).mpr ⟨w_running, w_runnable, w_alone, w_named, w_hears, w_ripe, w_room, w_tables⟩
theorem atStart : AtStart classFile x code maxLocals ret World_1 tables_1 room_1 Calls_1 rest_1 Pre_1 launch0 p0 e0 about1 theMethod args0 below0 :=
  ⟨lists_1, trivial, launch0.admits_env _ _ _, launch0.least_env, fairChoices_fair.cas, fairChoices_fair.clock, w_frames, w_args, w_heap, w_applies, trivial, w_rest, w_case⟩
end start1
theorem witness_1 : WitnessClaimed_1 := ⟨start1.p0, start1.e0, start1.about1, start1.theMethod, start1.args0, start1.below0, start1.atStart⟩
end Jvm.Pilot.@@N@@
