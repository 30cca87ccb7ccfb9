import JvmDerived
import JvmDerived.Pilot.@@N@@Statement
import JvmDerived.Pilot.@@N@@Code
set_option linter.unusedVariables false
set_option linter.unusedSimpArgs false
@@BLOCK:NumsL.lean.txt@@
namespace Jvm.Pilot.@@N@@
open Jvm Jvm.ClassFile Sem Op Lib Jvm.Free Jvm.Stand Jvm.LawKit Jvm.RoadKit Bundle Jvm.Pilot.@@N@@.Jvm.D
theorem own_eqL {x y : Int64} (h : x = y) : lcmpW x y = 0 := by rw [lcW]; exact (lc_eq x y).2 h
theorem own_neL {x y : Int64} (h : ¬ x = y) : ¬ lcmpW x y = 0 := by rw [lcW]; exact fun q => h ((lc_eq x y).1 q)
theorem own_ltL {x y : Int64} (h : x < y) : lcmpW x y < 0 := by rw [lcW]; exact (lc_lt x y).2 h
theorem own_nltL {x y : Int64} (h : ¬ x < y) : ¬ lcmpW x y < 0 := by rw [lcW]; exact fun q => h ((lc_lt x y).1 q)
theorem own_gtL {x y : Int64} (h : y < x) : 0 < lcmpW x y := by rw [lcW]; exact (lc_gt x y).2 h
theorem own_ns_exa {Z : State} {h : Heap} {a : Addr} {C : String} (E : Exa Z h a C) : ∀ cell : Cell, h[a]? = some cell → cell.vm.isStatics = false := by
  obtain ⟨c, k, h1, -, -, h4, -⟩ := E
  intro cell hc; cases h1.symm.trans hc; exact h4
theorem own_ns1 {h : Heap} {a : Addr} (p : ∀ cell : Cell, h[a]? = some cell → cell.vm.isStatics = false) : ∀ x ∈ [a], ∀ cell : Cell, h[x]? = some cell → cell.vm.isStatics = false := by
  intro x hx; cases List.mem_singleton.mp hx; exact p
theorem own_ns2 {h : Heap} {a b : Addr} (p : ∀ cell : Cell, h[a]? = some cell → cell.vm.isStatics = false) (q : ∀ cell : Cell, h[b]? = some cell → cell.vm.isStatics = false) : ∀ x ∈ [a, b], ∀ cell : Cell, h[x]? = some cell → cell.vm.isStatics = false := by
  intro x hx; simp only [List.mem_cons, List.not_mem_nil, or_false] at hx; rcases hx with rfl | rfl <;> first | exact p | exact q
theorem own_sta_keep {Z : State} {h h' : Heap} {ws : List Addr} {C n d : String} {v : Value} (F : Sta Z h C n d v) (K : Keep h h' ws) (hn : ∀ x ∈ ws, ∀ cell : Cell, h[x]? = some cell → cell.vm.isStatics = false) : Sta Z h' C n d v := by
  obtain ⟨cf, i, k, f, st, cell, h1, h2, h3, h4, h5, h6, r⟩ := F
  exact ⟨cf, i, k, f, st, cell, h1, h2, h3, h4, K.2.1 _ _ h5 (fun q => by rw [hn _ q _ h5] at h6; cases h6), h6, r⟩
theorem own_sta_keep0 {Z : State} {h h' : Heap} {C n d : String} {v : Value} (F : Sta Z h C n d v) (K : Keep h h' []) : Sta Z h' C n d v := by
  obtain ⟨cf, i, k, f, st, cell, h1, h2, h3, h4, h5, r⟩ := F
  exact ⟨cf, i, k, f, st, cell, h1, h2, h3, h4, K.2.1 _ _ h5 List.not_mem_nil, r⟩
theorem own_ngtL {x y : Int64} (h : ¬ y < x) : ¬ 0 < lcmpW x y := by rw [lcW]; exact fun q => h ((lc_gt x y).1 q)
theorem pn_0 : plainName "java/util/Objects" = true := by first | (simp [plainName, overriddenIn]; done) | decide +kernel
theorem d6_0 : decode jdk_31_method_10_code 0 = .ok (.aload_n 0, 1) := by decide +kernel
theorem d6_1 : decode jdk_31_method_10_code 1 = .ok (.ifnonnull 11, 3) := by decide +kernel
theorem d6_12 : decode jdk_31_method_10_code 12 = .ok (.aload_n 0, 1) := by decide +kernel
theorem d6_13 : decode jdk_31_method_10_code 13 = .ok (.areturn, 1) := by decide +kernel
theorem ef_6 (m : MethodId) (x0 : Addr) : entryFrame m #[(.ref x0)] 1 = mkF m 0 #[.val (.ref x0)] [] := by first | (simp [entryFrame, mkF, argsToLocals, Value.category]; done) | rfl
def Q6 (Z : State) (a0 : Addr) (h0 : Heap) (n0 : Nat) (v : Option Value) (h : Heap) (L : List Loc) : Prop := v = some (.ref a0) ∧ Fr n0 L ∧ h = h0
set_option maxRecDepth 65536 in
set_option maxHeartbeats 40000000 in
theorem rm6 (l : Launch) (Z : State) (ar0 : Array Value) (hw : ∀ d ∈ tables_1, d.before ar0 Z = true) (ws : List Jvm.Cond) (a0 : Addr) (h0 : Heap) (n0 : Nat) (Z0 : n0 ≤ h0.size) :
    MetFree l (⟨"java/util/Objects", "requireNonNull", "(Ljava/lang/Object;)Ljava/lang/Object;"⟩ : MethodName) (head1 (Jvm.Cond.code (⟨"java/util/Objects", "requireNonNull", "(Ljava/lang/Object;)Ljava/lang/Object;"⟩ : MethodName) jdk_31_method_10_code 1 (some (.object "java/lang/Object")) :: ws) ({ frames := 0, cells := 0, slots := 0, locals := 0 } : Room)) (fun a U => a = #[(.ref a0)] ∧ Z.Warmed39 U.vm ∧ U.heap = h0) (fun _ _ _ _ _ => True) (fun _ U o U' => ∃ v L, o = .returned v ∧ Q6 Z a0 h0 n0 v U'.heap L ∧ FrameEnd U o U' L ({ frames := 0, cells := 0, slots := 0, locals := 0 } : Room).cells ({ frames := 0, cells := 0, slots := 0, locals := 0 } : Room).slots) := by
  refine MetFree.of_bodySF (plainFor_of_name pn_0) hisR ?_
  intro p e s m args below meth c s₁ Bd hml0 hP hK
  obtain ⟨rfl, hZ, hh⟩ := hP
  have hx := Bd.exec
  have hby := Bd.bytes
  have hml : c.maxLocals = 1 := hml0
  have hown : s.vm.findClass "java/util/Objects" = some m.cls := findClass_of_methodNamed Bd.named
  have hnm := (name_of_methodNamed Bd.named Bd.method).1
  have X0 : Stand p l e ({ frames := 0, cells := 0, slots := 0, locals := 0 } : Room) s m #[(.ref a0)] below meth c s₁ [] 0 0 := Stand.of_body Bd
  have e0 : s₁.heap = h0 := by rw [← hh, Bd.state]; rfl
  have N0 := Fr.nil n0
  have pre0 : ∀ t, Steps p.tables e below (s₁.setTop (mkF m 0 #[.val (.ref a0)] [])) t → Steps p.tables e below (s₁.setTop (entryFrame m #[(.ref a0)] 1)) t := fun t k => castTop (ef_6 m a0) k
  obtain ⟨fs, hr, hrun, hended, hW, hsame⟩ := X0.leave (v := some (.ref a0)) (fun h => by rw [Bd.returns] at h; cases h)
  refine ⟨_, _, pre0 _ ?_, hrun, hended, _, _, rfl, ?_, ⟨_, rfl⟩, hW, hsame.mono (by decide) (by decide)⟩
  · show Steps p.tables e below (s₁.setTop (mkF m 0 #[.val (.ref a0)] [])) _
    refine XS.aloadN X0.here hx rfl (hb hby d6_0) rfl rfl ?_
    show Steps p.tables e below (s₁.setTop (mkF m 1 #[.val (.ref a0)] [(.ref a0)])) _
    show Steps p.tables e below (s₁.setTop (mkF m 1 #[.val (.ref a0)] [(.ref a0)])) _
    refine XS.ifnonnullYes X0.here hx rfl (pc0 := 1) (pc' := 12) rfl (hb hby d6_1) rfl (by decide) (by decide) ?_
    show Steps p.tables e below (s₁.setTop (mkF m 12 #[.val (.ref a0)] [])) _
    refine XS.aloadN X0.here hx rfl (hb hby d6_12) rfl rfl ?_
    show Steps p.tables e below (s₁.setTop (mkF m 13 #[.val (.ref a0)] [(.ref a0)])) _
    exact retOut X0 hx Bd.returns rfl (Or.inr (Or.inr (Or.inr (Or.inr ⟨rfl, rfl, rfl⟩)))) (hb hby d6_13) hr
  · show Q6 Z a0 h0 n0 _ s₁.heap _
    rw [e0]
    exact ⟨rfl, N0, rfl⟩
theorem pn_1 : plainName "java/util/Optional" = true := by first | (simp [plainName, overriddenIn]; done) | decide +kernel
theorem d7_0 : decode jdk_32_method_2_code 0 = .ok (.aload_n 0, 1) := by decide +kernel
theorem d7_1 : decode jdk_32_method_2_code 1 = .ok (.invokespecial 7, 3) := by decide +kernel
theorem d7_4 : decode jdk_32_method_2_code 4 = .ok (.aload_n 0, 1) := by decide +kernel
theorem d7_5 : decode jdk_32_method_2_code 5 = .ok (.aload_n 1, 1) := by decide +kernel
theorem d7_6 : decode jdk_32_method_2_code 6 = .ok (.putfield 13, 3) := by decide +kernel
theorem d7_9 : decode jdk_32_method_2_code 9 = .ok (.return_, 1) := by decide +kernel
theorem ef_7 (m : MethodId) (x0 : Addr) (x1 : Addr) : entryFrame m #[(.ref x0), (.ref x1)] 2 = mkF m 0 #[.val (.ref x0), .val (.ref x1)] [] := by first | (simp [entryFrame, mkF, argsToLocals, Value.category]; done) | rfl
def Q7 (Z : State) (a0 : Addr) (a1 : Addr) (w_value_a0 : Value) (h0 : Heap) (n0 : Nat) (v : Option Value) (h : Heap) (L : List Loc) : Prop := v = none ∧ Fr n0 L ∧ Keep h0 h [a0] ∧ Exa Z h a0 "java/util/Optional" ∧ Fld Z h a0 "java/util/Optional" "value" "Ljava/lang/Object;" (.ref a1)
set_option maxRecDepth 65536 in
set_option maxHeartbeats 40000000 in
theorem rm7 (l : Launch) (Z : State) (ar0 : Array Value) (hw : ∀ d ∈ tables_1, d.before ar0 Z = true) (ws : List Jvm.Cond) (a0 : Addr) (a1 : Addr) (w_value_a0 : Value) (h0 : Heap) (n0 : Nat) (Z0 : n0 ≤ h0.size) (E_a0 : Exa Z h0 a0 "java/util/Optional") (F_value_a0 : Fld Z h0 a0 "java/util/Optional" "value" "Ljava/lang/Object;" w_value_a0) (g_a0 : n0 ≤ a0) :
    MetFree l (⟨"java/util/Optional", "<init>", "(Ljava/lang/Object;)V"⟩ : MethodName) (head1 (Jvm.Cond.code (⟨"java/util/Optional", "<init>", "(Ljava/lang/Object;)V"⟩ : MethodName) jdk_32_method_2_code 2 none :: ws) ({ frames := 1, cells := 0, slots := 0, locals := 12 } : Room)) (fun a U => a = #[(.ref a0), (.ref a1)] ∧ Z.Warmed39 U.vm ∧ U.heap = h0) (fun _ _ _ _ _ => True) (fun _ U o U' => ∃ v L, o = .returned v ∧ Q7 Z a0 a1 w_value_a0 h0 n0 v U'.heap L ∧ FrameEnd U o U' L ({ frames := 1, cells := 0, slots := 0, locals := 12 } : Room).cells ({ frames := 1, cells := 0, slots := 0, locals := 12 } : Room).slots) := by
  refine MetFree.of_bodySF (plainFor_of_name pn_1) hisR ?_
  intro p e s m args below meth c s₁ Bd hml0 hP hK
  obtain ⟨rfl, hZ, hh⟩ := hP
  have hx := Bd.exec
  have hby := Bd.bytes
  have hml : c.maxLocals = 2 := hml0
  have hown : s.vm.findClass "java/util/Optional" = some m.cls := findClass_of_methodNamed Bd.named
  have hnm := (name_of_methodNamed Bd.named Bd.method).1
  have X0 : Stand p l e ({ frames := 1, cells := 0, slots := 0, locals := 12 } : Room) s m #[(.ref a0), (.ref a1)] below meth c s₁ [] 0 0 := Stand.of_body Bd
  have e0 : s₁.heap = h0 := by rw [← hh, Bd.state]; rfl
  have N0 := Fr.nil n0
  have pre0 : ∀ t, Steps p.tables e below (s₁.setTop (mkF m 0 #[.val (.ref a0), .val (.ref a1)] [])) t → Steps p.tables e below (s₁.setTop (entryFrame m #[(.ref a0), (.ref a1)] 2)) t := fun t k => castTop (ef_7 m a0 a1) k
  have pre1 : ∀ t, Steps p.tables e below (s₁.setTop (mkF m 1 #[.val (.ref a0), .val (.ref a1)] [(.ref a0)])) t → Steps p.tables e below (s₁.setTop (entryFrame m #[(.ref a0), (.ref a1)] 2)) t := by
    intro t k
    refine pre0 t ?_
    show Steps p.tables e below (s₁.setTop (mkF m 0 #[.val (.ref a0), .val (.ref a1)] [])) _
    refine XS.aloadN X0.here hx rfl (hb hby d7_0) rfl rfl ?_
    show Steps p.tables e below (s₁.setTop (mkF m 1 #[.val (.ref a0), .val (.ref a1)] [(.ref a0)])) _
    exact k
  obtain ⟨T2, X2, e2, st2⟩ := initO X0 hx hZ hown (hw _ (List.mem_of_getElem? (i := 48) rfl)) (hw _ (List.mem_of_getElem? (i := 49) rfl)) (hw _ (List.mem_of_getElem? (i := 50) rfl)) e0 (g := (mkF m 1 #[.val (.ref a0), .val (.ref a1)] [(.ref a0)])) rfl (by rw [hml]; rfl) rfl (hb hby d7_1) (by decide) (W := 0) (by show 2 * 0 + _ ≤ _; exact Nat.le_of_eq rfl) (by decide)
  have pre3 : ∀ t, Steps p.tables e below (T2.setTop (mkF m 4 #[.val (.ref a0), .val (.ref a1)] [])) t → Steps p.tables e below (s₁.setTop (entryFrame m #[(.ref a0), (.ref a1)] 2)) t := fun t k => pre1 t (st2 t k)
  have pre4 : ∀ t, Steps p.tables e below (T2.setTop (mkF m 6 #[.val (.ref a0), .val (.ref a1)] [(.ref a1), (.ref a0)])) t → Steps p.tables e below (s₁.setTop (entryFrame m #[(.ref a0), (.ref a1)] 2)) t := by
    intro t k
    refine pre3 t ?_
    show Steps p.tables e below (T2.setTop (mkF m 4 #[.val (.ref a0), .val (.ref a1)] [])) _
    refine XS.aloadN X2.here hx rfl (hb hby d7_4) rfl rfl ?_
    show Steps p.tables e below (T2.setTop (mkF m 5 #[.val (.ref a0), .val (.ref a1)] [(.ref a0)])) _
    refine XS.aloadN X2.here hx rfl (hb hby d7_5) rfl rfl ?_
    show Steps p.tables e below (T2.setTop (mkF m 6 #[.val (.ref a0), .val (.ref a1)] [(.ref a1), (.ref a0)])) _
    exact k
  obtain ⟨T5, h5, X5, e5, W5, st5⟩ := putF X2 hx hZ hown (host := "") (Or.inl (hw _ (List.mem_of_getElem? (i := 32) rfl))) Via.refl e2 F_value_a0 E_a0 (Or.inr ⟨(hw _ (List.mem_of_getElem? (i := 33) rfl)), rfl, hnm⟩) (hw _ (List.mem_of_getElem? (i := 39) rfl)) (ty := (.object "java/lang/Object")) (by decide) rfl rfl (g := (mkF m 6 #[.val (.ref a0), .val (.ref a1)] [(.ref a1), (.ref a0)])) rfl rfl (hb hby d7_6)
  have Z5 : n0 ≤ h5.size := Nat.le_trans Z0 (Keep.of_wr W5).1
  have K5 : Keep h0 h5 [a0] := (Keep.refl h0 [a0]).wr W5 (Or.inl (List.mem_of_getElem? (i := 0) rfl))
  have N5 := Fr.snoc X5 N0 g_a0
  have Ef6 : Exa Z h5 a0 "java/util/Optional" := (E_a0).wr W5
  have Fw5 : Fld Z h5 a0 "java/util/Optional" "value" "Ljava/lang/Object;" (.ref a1) := (F_value_a0).same W5
  have pre7 : ∀ t, Steps p.tables e below (T5.setTop (mkF m 9 #[.val (.ref a0), .val (.ref a1)] [])) t → Steps p.tables e below (s₁.setTop (entryFrame m #[(.ref a0), (.ref a1)] 2)) t := fun t k => pre4 t (st5 t k)
  obtain ⟨fs, hr, hrun, hended, hW, hsame⟩ := X5.leave (v := none) (fun _ => rfl)
  refine ⟨_, _, pre7 _ ?_, hrun, hended, _, _, rfl, ?_, ⟨_, rfl⟩, hW, hsame.mono (by decide) (by decide)⟩
  · show Steps p.tables e below (T5.setTop (mkF m 9 #[.val (.ref a0), .val (.ref a1)] [])) _
    exact X5.returnOut hx Bd.returns (hb hby d7_9) hr
  · show Q7 Z a0 a1 w_value_a0 h0 n0 _ T5.heap _
    rw [e5]
    exact ⟨rfl, N5, K5, Ef6, Fw5⟩
theorem pd_0 : parseMethodDescriptor "(Ljava/lang/Object;)Ljava/lang/Object;" = some ⟨[(.object "java/lang/Object")], some (.object "java/lang/Object")⟩ := by decide +kernel
theorem pd_1 : parseMethodDescriptor "(Ljava/lang/Object;)V" = some ⟨[(.object "java/lang/Object")], none⟩ := by decide +kernel
theorem d5_0 : decode jdk_32_method_3_code 0 = .ok (.new 2, 3) := by decide +kernel
theorem d5_3 : decode jdk_32_method_3_code 3 = .ok (.dup, 1) := by decide +kernel
theorem d5_4 : decode jdk_32_method_3_code 4 = .ok (.aload_n 0, 1) := by decide +kernel
theorem d5_5 : decode jdk_32_method_3_code 5 = .ok (.invokestatic 17, 3) := by decide +kernel
theorem d5_8 : decode jdk_32_method_3_code 8 = .ok (.invokespecial 23, 3) := by decide +kernel
theorem d5_11 : decode jdk_32_method_3_code 11 = .ok (.areturn, 1) := by decide +kernel
theorem ef_5 (m : MethodId) (x0 : Addr) : entryFrame m #[(.ref x0)] 1 = mkF m 0 #[.val (.ref x0)] [] := by first | (simp [entryFrame, mkF, argsToLocals, Value.category]; done) | rfl
def Q5 (Z : State) (a0 : Addr) (h0 : Heap) (n0 : Nat) (v : Option Value) (h : Heap) (L : List Loc) : Prop := ∃ (b : Addr), v = some (.ref b) ∧ Fr n0 L ∧ Keep h0 h [] ∧ h0.size ≤ b ∧ Exa Z h b "java/util/Optional" ∧ Fld Z h b "java/util/Optional" "value" "Ljava/lang/Object;" (.ref a0)
set_option maxRecDepth 65536 in
set_option maxHeartbeats 40000000 in
theorem rm5 (l : Launch) (Z : State) (ar0 : Array Value) (hw : ∀ d ∈ tables_1, d.before ar0 Z = true) (ws : List Jvm.Cond) (a0 : Addr) (h0 : Heap) (n0 : Nat) (Z0 : n0 ≤ h0.size) :
    MetFree l (⟨"java/util/Optional", "of", "(Ljava/lang/Object;)Ljava/util/Optional;"⟩ : MethodName) (head1 (Jvm.Cond.code (⟨"java/util/Optional", "of", "(Ljava/lang/Object;)Ljava/util/Optional;"⟩ : MethodName) jdk_32_method_3_code 1 (some (.object "java/util/Optional")) :: ws) ({ frames := 2, cells := 1, slots := 1, locals := 26 } : Room)) (fun a U => a = #[(.ref a0)] ∧ Z.Warmed39 U.vm ∧ U.heap = h0) (fun _ _ _ _ _ => True) (fun _ U o U' => ∃ v L, o = .returned v ∧ Q5 Z a0 h0 n0 v U'.heap L ∧ FrameEnd U o U' L ({ frames := 2, cells := 1, slots := 1, locals := 26 } : Room).cells ({ frames := 2, cells := 1, slots := 1, locals := 26 } : Room).slots) := by
  refine MetFree.of_bodySF (plainFor_of_name pn_1) hisR ?_
  intro p e s m args below meth c s₁ Bd hml0 hP hK
  obtain ⟨rfl, hZ, hh⟩ := hP
  have hx := Bd.exec
  have hby := Bd.bytes
  have hml : c.maxLocals = 1 := hml0
  have hown : s.vm.findClass "java/util/Optional" = some m.cls := findClass_of_methodNamed Bd.named
  have hnm := (name_of_methodNamed Bd.named Bd.method).1
  have X0 : Stand p l e ({ frames := 2, cells := 1, slots := 1, locals := 26 } : Room) s m #[(.ref a0)] below meth c s₁ [] 0 0 := Stand.of_body Bd
  have e0 : s₁.heap = h0 := by rw [← hh, Bd.state]; rfl
  have N0 := Fr.nil n0
  have pre0 : ∀ t, Steps p.tables e below (s₁.setTop (mkF m 0 #[.val (.ref a0)] [])) t → Steps p.tables e below (s₁.setTop (entryFrame m #[(.ref a0)] 1)) t := fun t k => castTop (ef_5 m a0) k
  obtain ⟨T8, h8, X8, e8, E8, A8, D8, -, st8⟩ := newO X0 hx hZ hown (hw _ (List.mem_of_getElem? (i := 38) rfl)) (hw _ (List.mem_of_getElem? (i := 39) rfl)) (hw _ (List.mem_of_getElem? (i := 6) rfl)) e0 (g := (mkF m 0 #[.val (.ref a0)] [])) rfl (hb hby d5_0) (by decide) (by decide)
  obtain ⟨b8, g8⟩ : ∃ z, z = h0.size := ⟨_, rfl⟩
  rw [← g8] at A8 D8 st8
  have g_b8 : n0 ≤ b8 := Nat.le_trans Z0 (Nat.le_of_eq g8.symm)
  have sz_b8 : h0.size ≤ b8 := Nat.le_trans (Keep.refl h0 []).1 (Nat.le_of_eq g8.symm)
  have Z8 : n0 ≤ h8.size := Nat.le_trans Z0 E8.1
  have K8 : Keep h0 h8 [] := (Keep.refl h0 []).ext E8
  have Fvalue_b8 : Fld Z h8 b8 "java/util/Optional" "value" "Ljava/lang/Object;" .null := D8 (Or.inr (hw _ (List.mem_of_getElem? (i := 33) rfl))) (ty := (.object "java/lang/Object")) (by decide)
  have pre9 : ∀ t, Steps p.tables e below (T8.setTop (mkF m 3 #[.val (.ref a0)] [(.ref b8)])) t → Steps p.tables e below (s₁.setTop (entryFrame m #[(.ref a0)] 1)) t := fun t k => pre0 t (st8 t k)
  have pre10 : ∀ t, Steps p.tables e below (T8.setTop (mkF m 5 #[.val (.ref a0)] [(.ref a0), (.ref b8), (.ref b8)])) t → Steps p.tables e below (s₁.setTop (entryFrame m #[(.ref a0)] 1)) t := by
    intro t k
    refine pre9 t ?_
    show Steps p.tables e below (T8.setTop (mkF m 3 #[.val (.ref a0)] [(.ref b8)])) _
    refine XS.dup X8.here hx rfl (hb hby d5_3) rfl rfl ?_
    show Steps p.tables e below (T8.setTop (mkF m 4 #[.val (.ref a0)] [(.ref b8), (.ref b8)])) _
    refine XS.aloadN X8.here hx rfl (hb hby d5_4) rfl rfl ?_
    show Steps p.tables e below (T8.setTop (mkF m 5 #[.val (.ref a0)] [(.ref a0), (.ref b8), (.ref b8)])) _
    exact k
  obtain ⟨_, _, ⟨T11, L11, k11, n11⟩, -, X11, ⟨Lc11, hQ11, l11, y11, z11⟩, st11⟩ := Jvm.LawKit.callS X8 hx (y := (⟨"java/util/Objects", "requireNonNull", "(Ljava/lang/Object;)Ljava/lang/Object;"⟩ : MethodName)) hown (mvT hZ (hw _ (List.mem_of_getElem? (i := 40) rfl))) (mvT hZ (hw _ (List.mem_of_getElem? (i := 41) rfl))) (mvT hZ (hw _ (List.mem_of_getElem? (i := 42) rfl))) (mvT hZ (hw _ (List.mem_of_getElem? (i := 43) rfl))) (by decide) (backOf (W := 2) (rm6 l Z ar0 hw [] a0 h8 n0 Z8) hZ (hw _ (List.mem_of_getElem? (i := 43) rfl)) (hw _ (List.mem_of_getElem? (i := 42) rfl)) (by decide) (by decide)) (g := (mkF m 5 #[.val (.ref a0)] [(.ref a0), (.ref b8), (.ref b8)])) rfl (by rw [hml]; rfl) (argsL := [(.ref a0)]) (rest := [(.ref b8), (.ref b8)]) (lenOf pd_0 rfl) rfl (by show 2 * 0 + _ ≤ _; exact Nat.le_of_eq rfl) (hb hby d5_5) (fun _ _ => ⟨rfl, e8, (by decide : 1 + 0 ≤ _), (by decide : 1 + 0 ≤ _)⟩)
  dsimp only [Pt.U, Pt.locs, Pt.cells, Pt.slots] at X11 l11 y11 z11 st11 hQ11
  subst l11 y11 z11
  obtain ⟨rfl, N11q, e11⟩ := hQ11
  have N11 := Fr.app N0 N11q
  have pre12 : ∀ t, Steps p.tables e below (T11.setTop (mkF m 8 #[.val (.ref a0)] [(.ref a0), (.ref b8), (.ref b8)])) t → Steps p.tables e below (s₁.setTop (entryFrame m #[(.ref a0)] 1)) t := fun t k => pre10 t (st11 t k)
  obtain ⟨_, _, ⟨T13, L13, k13, n13⟩, -, X13, ⟨Lc13, hQ13, l13, y13, z13⟩, st13⟩ := X11.specialBack hx (y := (⟨"java/util/Optional", "<init>", "(Ljava/lang/Object;)V"⟩ : MethodName)) rfl hown (mvT hZ (hw _ (List.mem_of_getElem? (i := 44) rfl))) (mvT hZ (hw _ (List.mem_of_getElem? (i := 45) rfl))) (mvT hZ (hw _ (List.mem_of_getElem? (i := 47) rfl))) (by decide) (backOf (W := 1) (rm7 l Z ar0 hw [] b8 a0 .null h8 n0 Z8 A8 Fvalue_b8 g_b8) hZ (hw _ (List.mem_of_getElem? (i := 47) rfl)) (hw _ (List.mem_of_getElem? (i := 6) rfl)) (by decide) (by decide)) (g := (mkF m 8 #[.val (.ref a0)] [(.ref a0), (.ref b8), (.ref b8)])) rfl (by rw [hml]; rfl) (Steps.refl _) (a := b8) (argsL := [(.ref a0)]) (rest := [(.ref b8)]) (lenOf pd_1 rfl) rfl (by show 2 * 0 + _ ≤ _; exact Nat.le_of_eq rfl) (hb hby d5_8) (fun _ _ => ⟨rfl, e11, (by decide : 1 + 0 ≤ _), (by decide : 1 + 0 ≤ _)⟩)
  dsimp only [Pt.U, Pt.locs, Pt.cells, Pt.slots] at X13 l13 y13 z13 st13 hQ13
  subst l13 y13 z13
  obtain ⟨h13, e13⟩ : ∃ h, T13.heap = h := ⟨_, rfl⟩
  rw [e13] at hQ13
  obtain ⟨rfl, N13q, K13q, Q13_0, Q13_1⟩ := hQ13
  have N13 := Fr.app N11 N13q
  have Z13 : n0 ≤ h13.size := Nat.le_trans Z8 K13q.1
  have K13 : Keep h0 h13 [] := K8.trans K13q (fun x hx => by cases List.mem_singleton.mp hx; exact Or.inr sz_b8)
  have Ef14 : Exa Z h13 b8 "java/util/Optional" := (A8).keep K13q
  have pre15 : ∀ t, Steps p.tables e below (T13.setTop (mkF m 11 #[.val (.ref a0)] [(.ref b8)])) t → Steps p.tables e below (s₁.setTop (entryFrame m #[(.ref a0)] 1)) t := fun t k => pre12 t (st13.trans k)
  obtain ⟨fs, hr, hrun, hended, hW, hsame⟩ := X13.leave (v := some (.ref b8)) (fun h => by rw [Bd.returns] at h; cases h)
  refine ⟨_, _, pre15 _ ?_, hrun, hended, _, _, rfl, ?_, ⟨_, rfl⟩, hW, hsame.mono (by decide) (by decide)⟩
  · show Steps p.tables e below (T13.setTop (mkF m 11 #[.val (.ref a0)] [(.ref b8)])) _
    exact retOut X13 hx Bd.returns rfl (Or.inr (Or.inr (Or.inr (Or.inr ⟨rfl, rfl, rfl⟩)))) (hb hby d5_11) hr
  · show Q5 Z a0 h0 n0 _ T13.heap _
    rw [e13]
    exact ⟨b8, rfl, N13, K13, sz_b8, Q13_0, Q13_1⟩
theorem d2_0 : decode jdk_32_method_1_code 0 = .ok (.getstatic 1, 3) := by decide +kernel
theorem d2_3 : decode jdk_32_method_1_code 3 = .ok (.astore_n 0, 1) := by decide +kernel
theorem d2_4 : decode jdk_32_method_1_code 4 = .ok (.aload_n 0, 1) := by decide +kernel
theorem d2_5 : decode jdk_32_method_1_code 5 = .ok (.areturn, 1) := by decide +kernel
theorem ef_2 (m : MethodId)  : entryFrame m #[] 1 = mkF m 0 #[.unset] [] := by first | (simp [entryFrame, mkF, argsToLocals, Value.category]; done) | rfl
def Q2 (Z : State) (s_EMPTY : Addr) (h0 : Heap) (n0 : Nat) (v : Option Value) (h : Heap) (L : List Loc) : Prop := v = some (.ref s_EMPTY) ∧ Fr n0 L ∧ h = h0
set_option maxRecDepth 65536 in
set_option maxHeartbeats 40000000 in
theorem rm2 (l : Launch) (Z : State) (ar0 : Array Value) (hw : ∀ d ∈ tables_1, d.before ar0 Z = true) (ws : List Jvm.Cond) (s_EMPTY : Addr) (h0 : Heap) (n0 : Nat) (Z0 : n0 ≤ h0.size) (S_EMPTY : Sta Z h0 "java/util/Optional" "EMPTY" "Ljava/util/Optional;" (.ref s_EMPTY)) :
    MetFree l (⟨"java/util/Optional", "empty", "()Ljava/util/Optional;"⟩ : MethodName) (head1 (Jvm.Cond.code (⟨"java/util/Optional", "empty", "()Ljava/util/Optional;"⟩ : MethodName) jdk_32_method_1_code 1 (some (.object "java/util/Optional")) :: ws) ({ frames := 0, cells := 0, slots := 0, locals := 0 } : Room)) (fun a U => a = #[] ∧ Z.Warmed39 U.vm ∧ U.heap = h0) (fun _ _ _ _ _ => True) (fun _ U o U' => ∃ v L, o = .returned v ∧ Q2 Z s_EMPTY h0 n0 v U'.heap L ∧ FrameEnd U o U' L ({ frames := 0, cells := 0, slots := 0, locals := 0 } : Room).cells ({ frames := 0, cells := 0, slots := 0, locals := 0 } : Room).slots) := by
  refine MetFree.of_bodySF (plainFor_of_name pn_1) hisR ?_
  intro p e s m args below meth c s₁ Bd hml0 hP hK
  obtain ⟨rfl, hZ, hh⟩ := hP
  have hx := Bd.exec
  have hby := Bd.bytes
  have hml : c.maxLocals = 1 := hml0
  have hown : s.vm.findClass "java/util/Optional" = some m.cls := findClass_of_methodNamed Bd.named
  have hnm := (name_of_methodNamed Bd.named Bd.method).1
  have X0 : Stand p l e ({ frames := 0, cells := 0, slots := 0, locals := 0 } : Room) s m #[] below meth c s₁ [] 0 0 := Stand.of_body Bd
  have e0 : s₁.heap = h0 := by rw [← hh, Bd.state]; rfl
  have N0 := Fr.nil n0
  have pre0 : ∀ t, Steps p.tables e below (s₁.setTop (mkF m 0 #[.unset] [])) t → Steps p.tables e below (s₁.setTop (entryFrame m #[] 1)) t := fun t k => castTop (ef_2 m ) k
  obtain ⟨T16, X16, e16, st16⟩ := getS2 X0 hx hZ hown (host := "") (Or.inl (hw _ (List.mem_of_getElem? (i := 8) rfl))) Via.refl e0 S_EMPTY (g := (mkF m 0 #[.unset] [])) rfl (hb hby d2_0)
  have pre17 : ∀ t, Steps p.tables e below (T16.setTop (mkF m 3 #[.unset] [(.ref s_EMPTY)])) t → Steps p.tables e below (s₁.setTop (entryFrame m #[] 1)) t := fun t k => pre0 t (st16 t k)
  obtain ⟨fs, hr, hrun, hended, hW, hsame⟩ := X16.leave (v := some (.ref s_EMPTY)) (fun h => by rw [Bd.returns] at h; cases h)
  refine ⟨_, _, pre17 _ ?_, hrun, hended, _, _, rfl, ?_, ⟨_, rfl⟩, hW, hsame.mono (by decide) (by decide)⟩
  · show Steps p.tables e below (T16.setTop (mkF m 3 #[.unset] [(.ref s_EMPTY)])) _
    refine XS.astoreN X16.here hx rfl (hb hby d2_3) rfl rfl (l' := #[.val (.ref s_EMPTY)]) rfl ?_
    show Steps p.tables e below (T16.setTop (mkF m 4 #[.val (.ref s_EMPTY)] [])) _
    refine XS.aloadN X16.here hx rfl (hb hby d2_4) rfl rfl ?_
    show Steps p.tables e below (T16.setTop (mkF m 5 #[.val (.ref s_EMPTY)] [(.ref s_EMPTY)])) _
    exact retOut X16 hx Bd.returns rfl (Or.inr (Or.inr (Or.inr (Or.inr ⟨rfl, rfl, rfl⟩)))) (hb hby d2_5) hr
  · show Q2 Z s_EMPTY h0 n0 _ T16.heap _
    rw [e16]
    exact ⟨rfl, N0, rfl⟩
theorem pn_2 : plainName "com/example/keyed_collections/keyedcollections/protocol/Feature" = true := by first | (simp [plainName, overriddenIn]; done) | decide +kernel
theorem d3_0 : decode prog_9_method_1_code 0 = .ok (.getstatic 7, 3) := by decide +kernel
theorem d3_3 : decode prog_9_method_1_code 3 = .ok (.invokevirtual 11, 3) := by decide +kernel
theorem d3_6 : decode prog_9_method_1_code 6 = .ok (.checkcast 12, 3) := by decide +kernel
theorem d3_9 : decode prog_9_method_1_code 9 = .ok (.areturn, 1) := by decide +kernel
theorem ef_3 (m : MethodId)  : entryFrame m #[] 0 = mkF m 0 #[] [] := by first | (simp [entryFrame, mkF, argsToLocals, Value.category]; done) | rfl
def Q3 (Z : State) (s__VALUES : Addr) (k__VALUES : ClassId) (s_COLLECTIONS : Addr) (h0 : Heap) (n0 : Nat) (v : Option Value) (h : Heap) (L : List Loc) : Prop := ∃ (b : Addr) (k_b : ClassId), v = some (.ref b) ∧ Fr n0 L ∧ Keep h0 h [] ∧ h0.size ≤ b ∧ Arv Z h b k_b (.object "com/example/keyed_collections/keyedcollections/protocol/Feature") (1 : Int32) [(.ref s_COLLECTIONS)] .null ∧ Exa Z h b "[Lcom/example/keyed_collections/keyedcollections/protocol/Feature;"
set_option maxRecDepth 65536 in
set_option maxHeartbeats 40000000 in
theorem rm3 (l : Launch) (Z : State) (ar0 : Array Value) (hw : ∀ d ∈ tables_1, d.before ar0 Z = true) (ws : List Jvm.Cond) (s__VALUES : Addr) (k__VALUES : ClassId) (s_COLLECTIONS : Addr) (h0 : Heap) (n0 : Nat) (Z0 : n0 ≤ h0.size) (S__VALUES : Sta Z h0 "com/example/keyed_collections/keyedcollections/protocol/Feature" "$VALUES" "[Lcom/example/keyed_collections/keyedcollections/protocol/Feature;" (.ref s__VALUES)) (V_s__VALUES : Arv Z h0 s__VALUES k__VALUES (.object "com/example/keyed_collections/keyedcollections/protocol/Feature") (1 : Int32) [(.ref s_COLLECTIONS)] .null) (E_s__VALUES : Exa Z h0 s__VALUES "[Lcom/example/keyed_collections/keyedcollections/protocol/Feature;") :
    MetFree l (⟨"com/example/keyed_collections/keyedcollections/protocol/Feature", "values", "()[Lcom/example/keyed_collections/keyedcollections/protocol/Feature;"⟩ : MethodName) (head1 (Jvm.Cond.code (⟨"com/example/keyed_collections/keyedcollections/protocol/Feature", "values", "()[Lcom/example/keyed_collections/keyedcollections/protocol/Feature;"⟩ : MethodName) prog_9_method_1_code 0 (some (.array (.object "com/example/keyed_collections/keyedcollections/protocol/Feature"))) :: ws) ({ frames := 1, cells := 1, slots := 1, locals := 14 } : Room)) (fun a U => a = #[] ∧ Z.Warmed39 U.vm ∧ U.heap = h0) (fun _ _ _ _ _ => True) (fun _ U o U' => ∃ v L, o = .returned v ∧ Q3 Z s__VALUES k__VALUES s_COLLECTIONS h0 n0 v U'.heap L ∧ FrameEnd U o U' L ({ frames := 1, cells := 1, slots := 1, locals := 14 } : Room).cells ({ frames := 1, cells := 1, slots := 1, locals := 14 } : Room).slots) := by
  refine MetFree.of_bodySF (plainFor_of_name pn_2) hisR ?_
  intro p e s m args below meth c s₁ Bd hml0 hP hK
  obtain ⟨rfl, hZ, hh⟩ := hP
  have hx := Bd.exec
  have hby := Bd.bytes
  have hml : c.maxLocals = 0 := hml0
  have hown : s.vm.findClass "com/example/keyed_collections/keyedcollections/protocol/Feature" = some m.cls := findClass_of_methodNamed Bd.named
  have hnm := (name_of_methodNamed Bd.named Bd.method).1
  have X0 : Stand p l e ({ frames := 1, cells := 1, slots := 1, locals := 14 } : Room) s m #[] below meth c s₁ [] 0 0 := Stand.of_body Bd
  have e0 : s₁.heap = h0 := by rw [← hh, Bd.state]; rfl
  have N0 := Fr.nil n0
  have pre0 : ∀ t, Steps p.tables e below (s₁.setTop (mkF m 0 #[] [])) t → Steps p.tables e below (s₁.setTop (entryFrame m #[] 0)) t := fun t k => castTop (ef_3 m ) k
  obtain ⟨T18, X18, e18, st18⟩ := getS2 X0 hx hZ hown (host := "") (Or.inl (hw _ (List.mem_of_getElem? (i := 12) rfl))) Via.refl e0 S__VALUES (g := (mkF m 0 #[] [])) rfl (hb hby d3_0)
  have pre19 : ∀ t, Steps p.tables e below (T18.setTop (mkF m 3 #[] [(.ref s__VALUES)])) t → Steps p.tables e below (s₁.setTop (entryFrame m #[] 0)) t := fun t k => pre0 t (st18 t k)
  obtain ⟨T20, h20, X20, e20, E20, A20, C20, st20⟩ := cloneH X18 hx hZ hown (hw _ (List.mem_of_getElem? (i := 14) rfl)) (hw _ (List.mem_of_getElem? (i := 15) rfl)) (hw _ (List.mem_of_getElem? (i := 19) rfl)) (hw _ (List.mem_of_getElem? (i := 17) rfl)) (hw _ (List.mem_of_getElem? (i := 18) rfl)) (hw _ (List.mem_of_getElem? (i := 20) rfl)) e18 (Arv.arh V_s__VALUES) E_s__VALUES (g := (mkF m 3 #[] [(.ref s__VALUES)])) rfl (by rw [hml]; rfl) rfl (hb hby d3_3) (by decide) (W := 0) (cap := 1) (by show 2 * 0 + _ ≤ _; exact Nat.le_of_eq rfl) (by decide) (by decide) (by decide) (by decide)
  obtain ⟨b20, g20⟩ : ∃ z, z = h0.size := ⟨_, rfl⟩
  rw [← g20] at A20 C20 st20
  have ne_s__VALUES_b20 : s__VALUES ≠ b20 := Nat.ne_of_lt (Nat.lt_of_lt_of_le (V_s__VALUES).lt (Nat.le_of_eq g20.symm))
  have g_b20 : n0 ≤ b20 := Nat.le_trans Z0 (Nat.le_of_eq g20.symm)
  have sz_b20 : h0.size ≤ b20 := Nat.le_trans (Keep.refl h0 []).1 (Nat.le_of_eq g20.symm)
  have Z20 : n0 ≤ h20.size := Nat.le_trans Z0 E20.1
  have K20 : Keep h0 h20 [] := (Keep.refl h0 []).ext E20
  have Sf21 : Sta Z h20 "com/example/keyed_collections/keyedcollections/protocol/Feature" "$VALUES" "[Lcom/example/keyed_collections/keyedcollections/protocol/Feature;" (.ref s__VALUES) := (S__VALUES).ext E20
  have Vf22 : Arv Z h20 s__VALUES k__VALUES (.object "com/example/keyed_collections/keyedcollections/protocol/Feature") (1 : Int32) [(.ref s_COLLECTIONS)] .null := (V_s__VALUES).ext E20
  have Ef23 : Exa Z h20 s__VALUES "[Lcom/example/keyed_collections/keyedcollections/protocol/Feature;" := (E_s__VALUES).ext E20
  have V_b20 : Arv Z h20 b20 k__VALUES (.object "com/example/keyed_collections/keyedcollections/protocol/Feature") (1 : Int32) [(.ref s_COLLECTIONS)] .null := A20
  have pre24 : ∀ t, Steps p.tables e below (T20.setTop (mkF m 6 #[] [(.ref b20)])) t → Steps p.tables e below (s₁.setTop (entryFrame m #[] 0)) t := fun t k => pre19 t (st20 t k)
  obtain ⟨T25, X25, e25, st25⟩ := castY X20 hx hZ hown (hw _ (List.mem_of_getElem? (i := 23) rfl)) e20 (Ins.self C20) (g := (mkF m 6 #[] [(.ref b20)])) rfl rfl (hb hby d3_6)
  have pre26 : ∀ t, Steps p.tables e below (T25.setTop (mkF m 9 #[] [(.ref b20)])) t → Steps p.tables e below (s₁.setTop (entryFrame m #[] 0)) t := fun t k => pre24 t (st25 t k)
  obtain ⟨fs, hr, hrun, hended, hW, hsame⟩ := X25.leave (v := some (.ref b20)) (fun h => by rw [Bd.returns] at h; cases h)
  refine ⟨_, _, pre26 _ ?_, hrun, hended, _, _, rfl, ?_, ⟨_, rfl⟩, hW, hsame.mono (by decide) (by decide)⟩
  · show Steps p.tables e below (T25.setTop (mkF m 9 #[] [(.ref b20)])) _
    exact retOut X25 hx Bd.returns rfl (Or.inr (Or.inr (Or.inr (Or.inr ⟨rfl, rfl, rfl⟩)))) (hb hby d3_9) hr
  · show Q3 Z s__VALUES k__VALUES s_COLLECTIONS h0 n0 _ T25.heap _
    rw [e25]
    exact ⟨b20, k__VALUES, rfl, N0, K20, sz_b20, V_b20, C20⟩
theorem pd_2 : parseMethodDescriptor "()Ljava/util/Optional;" = some ⟨[], some (.object "java/util/Optional")⟩ := by decide +kernel
theorem pd_3 : parseMethodDescriptor "()[Lcom/example/keyed_collections/keyedcollections/protocol/Feature;" = some ⟨[], some (.array (.object "com/example/keyed_collections/keyedcollections/protocol/Feature"))⟩ := by decide +kernel
theorem pd_4 : parseMethodDescriptor "(Ljava/lang/Object;)Ljava/util/Optional;" = some ⟨[(.object "java/lang/Object")], some (.object "java/util/Optional")⟩ := by decide +kernel
theorem d1_0 : decode prog_9_method_5_code 0 = .ok (.invokestatic 30, 3) := by decide +kernel
theorem d1_3 : decode prog_9_method_5_code 3 = .ok (.astore_n 1, 1) := by decide +kernel
theorem d1_4 : decode prog_9_method_5_code 4 = .ok (.invokestatic 36, 3) := by decide +kernel
theorem d1_7 : decode prog_9_method_5_code 7 = .ok (.astore_n 2, 1) := by decide +kernel
theorem d1_8 : decode prog_9_method_5_code 8 = .ok (.aload_n 2, 1) := by decide +kernel
theorem d1_9 : decode prog_9_method_5_code 9 = .ok (.arraylength, 1) := by decide +kernel
theorem d1_10 : decode prog_9_method_5_code 10 = .ok (.istore_n 3, 1) := by decide +kernel
theorem d1_11 : decode prog_9_method_5_code 11 = .ok (.iconst 0, 1) := by decide +kernel
theorem d1_12 : decode prog_9_method_5_code 12 = .ok (.istore 4, 2) := by decide +kernel
theorem d1_14 : decode prog_9_method_5_code 14 = .ok (.iload 4, 2) := by decide +kernel
theorem d1_16 : decode prog_9_method_5_code 16 = .ok (.iload_n 3, 1) := by decide +kernel
theorem d1_17 : decode prog_9_method_5_code 17 = .ok (.if_icmp .ge 30, 3) := by decide +kernel
theorem d1_20 : decode prog_9_method_5_code 20 = .ok (.aload_n 2, 1) := by decide +kernel
theorem d1_21 : decode prog_9_method_5_code 21 = .ok (.iload 4, 2) := by decide +kernel
theorem d1_23 : decode prog_9_method_5_code 23 = .ok (.aaload, 1) := by decide +kernel
theorem d1_24 : decode prog_9_method_5_code 24 = .ok (.astore 5, 2) := by decide +kernel
theorem d1_26 : decode prog_9_method_5_code 26 = .ok (.aload 5, 2) := by decide +kernel
theorem d1_28 : decode prog_9_method_5_code 28 = .ok (.getfield 26, 3) := by decide +kernel
theorem d1_31 : decode prog_9_method_5_code 31 = .ok (.iload_n 0, 1) := by decide +kernel
theorem d1_32 : decode prog_9_method_5_code 32 = .ok (.if_icmp .ne 9, 3) := by decide +kernel
theorem d1_35 : decode prog_9_method_5_code 35 = .ok (.aload 5, 2) := by decide +kernel
theorem d1_37 : decode prog_9_method_5_code 37 = .ok (.invokestatic 40, 3) := by decide +kernel
theorem d1_40 : decode prog_9_method_5_code 40 = .ok (.astore_n 1, 1) := by decide +kernel
theorem d1_41 : decode prog_9_method_5_code 41 = .ok (.iinc 4 1, 3) := by decide +kernel
theorem d1_44 : decode prog_9_method_5_code 44 = .ok (.goto (-30), 3) := by decide +kernel
theorem d1_47 : decode prog_9_method_5_code 47 = .ok (.aload_n 1, 1) := by decide +kernel
theorem d1_48 : decode prog_9_method_5_code 48 = .ok (.areturn, 1) := by decide +kernel
theorem ef_1 (m : MethodId) (x0 : Int32) : entryFrame m #[(.int x0)] 6 = mkF m 0 #[.val (.int x0), .unset, .unset, .unset, .unset, .unset] [] := by first | (simp [entryFrame, mkF, argsToLocals, Value.category]; done) | rfl
def Q1_y (Z : State) (p0 : Int32) (s__VALUES : Addr) (k__VALUES : ClassId) (s_COLLECTIONS : Addr) (s_EMPTY : Addr) (h0 : Heap) (n0 : Nat) (v : Option Value) (h : Heap) (L : List Loc) : Prop := ∃ (b : Addr), v = some (.ref b) ∧ Fr n0 L ∧ Keep h0 h [] ∧ h0.size ≤ b ∧ Exa Z h b "java/util/Optional" ∧ Fld Z h b "java/util/Optional" "value" "Ljava/lang/Object;" (.ref s_COLLECTIONS)
set_option maxRecDepth 65536 in
set_option maxHeartbeats 40000000 in
theorem rm1_y (l : Launch) (Z : State) (ar0 : Array Value) (hw : ∀ d ∈ tables_1, d.before ar0 Z = true) (ws : List Jvm.Cond) (p0 : Int32) (s__VALUES : Addr) (k__VALUES : ClassId) (s_COLLECTIONS : Addr) (s_EMPTY : Addr) (h0 : Heap) (n0 : Nat) (Z0 : n0 ≤ h0.size) (S__VALUES : Sta Z h0 "com/example/keyed_collections/keyedcollections/protocol/Feature" "$VALUES" "[Lcom/example/keyed_collections/keyedcollections/protocol/Feature;" (.ref s__VALUES)) (V_s__VALUES : Arv Z h0 s__VALUES k__VALUES (.object "com/example/keyed_collections/keyedcollections/protocol/Feature") (1 : Int32) [(.ref s_COLLECTIONS)] .null) (E_s__VALUES : Exa Z h0 s__VALUES "[Lcom/example/keyed_collections/keyedcollections/protocol/Feature;") (F_code_s_COLLECTIONS : Fld Z h0 s_COLLECTIONS "com/example/keyed_collections/keyedcollections/protocol/Feature" "code" "I" (.int (18 : Int32))) (S_EMPTY : Sta Z h0 "java/util/Optional" "EMPTY" "Ljava/util/Optional;" (.ref s_EMPTY)) (hk32 : (18 : Int32) = p0) :
    MetFree l (⟨"com/example/keyed_collections/keyedcollections/protocol/Feature", "of", "(I)Ljava/util/Optional;"⟩ : MethodName) (head1 (Jvm.Cond.code (⟨"com/example/keyed_collections/keyedcollections/protocol/Feature", "of", "(I)Ljava/util/Optional;"⟩ : MethodName) prog_9_method_5_code 6 (some (.object "java/util/Optional")) :: ws) ({ frames := 3, cells := 2, slots := 2, locals := 38 } : Room)) (fun a U => a = #[(.int p0)] ∧ Z.Warmed39 U.vm ∧ U.heap = h0) (fun _ _ _ _ _ => True) (fun _ U o U' => ∃ v L, o = .returned v ∧ Q1_y Z p0 s__VALUES k__VALUES s_COLLECTIONS s_EMPTY h0 n0 v U'.heap L ∧ FrameEnd U o U' L ({ frames := 3, cells := 2, slots := 2, locals := 38 } : Room).cells ({ frames := 3, cells := 2, slots := 2, locals := 38 } : Room).slots) := by
  refine MetFree.of_bodySF (plainFor_of_name pn_2) hisR ?_
  intro p e s m args below meth c s₁ Bd hml0 hP hK
  obtain ⟨rfl, hZ, hh⟩ := hP
  have hx := Bd.exec
  have hby := Bd.bytes
  have hml : c.maxLocals = 6 := hml0
  have hown : s.vm.findClass "com/example/keyed_collections/keyedcollections/protocol/Feature" = some m.cls := findClass_of_methodNamed Bd.named
  have hnm := (name_of_methodNamed Bd.named Bd.method).1
  have X0 : Stand p l e ({ frames := 3, cells := 2, slots := 2, locals := 38 } : Room) s m #[(.int p0)] below meth c s₁ [] 0 0 := Stand.of_body Bd
  have e0 : s₁.heap = h0 := by rw [← hh, Bd.state]; rfl
  have N0 := Fr.nil n0
  have pre0 : ∀ t, Steps p.tables e below (s₁.setTop (mkF m 0 #[.val (.int p0), .unset, .unset, .unset, .unset, .unset] [])) t → Steps p.tables e below (s₁.setTop (entryFrame m #[(.int p0)] 6)) t := fun t k => castTop (ef_1 m p0) k
  obtain ⟨_, _, ⟨T27, L27, k27, n27⟩, -, X27, ⟨Lc27, hQ27, l27, y27, z27⟩, st27⟩ := Jvm.LawKit.callS X0 hx (y := (⟨"java/util/Optional", "empty", "()Ljava/util/Optional;"⟩ : MethodName)) hown (mvT hZ (hw _ (List.mem_of_getElem? (i := 4) rfl))) (mvT hZ (hw _ (List.mem_of_getElem? (i := 5) rfl))) (mvT hZ (hw _ (List.mem_of_getElem? (i := 6) rfl))) (mvT hZ (hw _ (List.mem_of_getElem? (i := 7) rfl))) (by decide) (backOf (W := 0) (rm2 l Z ar0 hw [] s_EMPTY h0 n0 Z0 S_EMPTY) hZ (hw _ (List.mem_of_getElem? (i := 7) rfl)) (hw _ (List.mem_of_getElem? (i := 6) rfl)) (by decide) (by decide)) (g := (mkF m 0 #[.val (.int p0), .unset, .unset, .unset, .unset, .unset] [])) rfl (by rw [hml]; rfl) (argsL := []) (rest := []) (lenOf pd_2 rfl) rfl (by show 2 * 0 + _ ≤ _; exact Nat.le_of_eq rfl) (hb hby d1_0) (fun _ _ => ⟨rfl, e0, (by decide : 0 + 0 ≤ _), (by decide : 0 + 0 ≤ _)⟩)
  dsimp only [Pt.U, Pt.locs, Pt.cells, Pt.slots] at X27 l27 y27 z27 st27 hQ27
  subst l27 y27 z27
  obtain ⟨rfl, N27q, e27⟩ := hQ27
  have N27 := Fr.app N0 N27q
  have pre28 : ∀ t, Steps p.tables e below (T27.setTop (mkF m 3 #[.val (.int p0), .unset, .unset, .unset, .unset, .unset] [(.ref s_EMPTY)])) t → Steps p.tables e below (s₁.setTop (entryFrame m #[(.int p0)] 6)) t := fun t k => pre0 t (st27 t k)
  have pre29 : ∀ t, Steps p.tables e below (T27.setTop (mkF m 4 #[.val (.int p0), .val (.ref s_EMPTY), .unset, .unset, .unset, .unset] [])) t → Steps p.tables e below (s₁.setTop (entryFrame m #[(.int p0)] 6)) t := by
    intro t k
    refine pre28 t ?_
    show Steps p.tables e below (T27.setTop (mkF m 3 #[.val (.int p0), .unset, .unset, .unset, .unset, .unset] [(.ref s_EMPTY)])) _
    refine XS.astoreN X27.here hx rfl (hb hby d1_3) rfl rfl (l' := #[.val (.int p0), .val (.ref s_EMPTY), .unset, .unset, .unset, .unset]) rfl ?_
    show Steps p.tables e below (T27.setTop (mkF m 4 #[.val (.int p0), .val (.ref s_EMPTY), .unset, .unset, .unset, .unset] [])) _
    exact k
  obtain ⟨_, _, ⟨T30, L30, k30, n30⟩, -, X30, ⟨Lc30, hQ30, l30, y30, z30⟩, st30⟩ := Jvm.LawKit.callS X27 hx (y := (⟨"com/example/keyed_collections/keyedcollections/protocol/Feature", "values", "()[Lcom/example/keyed_collections/keyedcollections/protocol/Feature;"⟩ : MethodName)) hown (mvT hZ (hw _ (List.mem_of_getElem? (i := 9) rfl))) (mvT hZ (hw _ (List.mem_of_getElem? (i := 10) rfl))) (mvT hZ (hw _ (List.mem_of_getElem? (i := 2) rfl))) (mvT hZ (hw _ (List.mem_of_getElem? (i := 11) rfl))) (by decide) (backOf (W := 0) (rm3 l Z ar0 hw [] s__VALUES k__VALUES s_COLLECTIONS h0 n0 Z0 S__VALUES V_s__VALUES E_s__VALUES) hZ (hw _ (List.mem_of_getElem? (i := 11) rfl)) (hw _ (List.mem_of_getElem? (i := 2) rfl)) (by decide) (by decide)) (g := (mkF m 4 #[.val (.int p0), .val (.ref s_EMPTY), .unset, .unset, .unset, .unset] [])) rfl (by rw [hml]; rfl) (argsL := []) (rest := []) (lenOf pd_3 rfl) rfl (by show 2 * 0 + _ ≤ _; exact Nat.le_of_eq rfl) (hb hby d1_4) (fun _ _ => ⟨rfl, e27, (by decide : 0 + 1 ≤ _), (by decide : 0 + 1 ≤ _)⟩)
  dsimp only [Pt.U, Pt.locs, Pt.cells, Pt.slots] at X30 l30 y30 z30 st30 hQ30
  subst l30 y30 z30
  obtain ⟨h30, e30⟩ : ∃ h, T30.heap = h := ⟨_, rfl⟩
  rw [e30] at hQ30
  obtain ⟨b30, kb30, rfl, N30q, K30q, y_b30, Ob30_0, Ob30_1⟩ := hQ30
  have N30 := Fr.app N27 N30q
  have ne_s__VALUES_b30 : s__VALUES ≠ b30 := Nat.ne_of_lt (Nat.lt_of_lt_of_le (V_s__VALUES).lt y_b30)
  have ne_s_COLLECTIONS_b30 : s_COLLECTIONS ≠ b30 := Nat.ne_of_lt (Nat.lt_of_lt_of_le (F_code_s_COLLECTIONS).lt y_b30)
  have g_b30 : n0 ≤ b30 := Nat.le_trans Z0 y_b30
  have sz_b30 : h0.size ≤ b30 := Nat.le_trans (Keep.refl h0 []).1 y_b30
  have Z30 : n0 ≤ h30.size := Nat.le_trans Z0 K30q.1
  have K30 : Keep h0 h30 [] := (Keep.refl h0 []).trans K30q (fun x hx => absurd hx List.not_mem_nil)
  have Sf31 : Sta Z h30 "com/example/keyed_collections/keyedcollections/protocol/Feature" "$VALUES" "[Lcom/example/keyed_collections/keyedcollections/protocol/Feature;" (.ref s__VALUES) := own_sta_keep0 S__VALUES K30q
  have Vf32 : Arv Z h30 s__VALUES k__VALUES (.object "com/example/keyed_collections/keyedcollections/protocol/Feature") (1 : Int32) [(.ref s_COLLECTIONS)] .null := (V_s__VALUES).keep K30q List.not_mem_nil
  have Ef33 : Exa Z h30 s__VALUES "[Lcom/example/keyed_collections/keyedcollections/protocol/Feature;" := (E_s__VALUES).keep K30q
  have Ff34 : Fld Z h30 s_COLLECTIONS "com/example/keyed_collections/keyedcollections/protocol/Feature" "code" "I" (.int (18 : Int32)) := (F_code_s_COLLECTIONS).keep K30q List.not_mem_nil
  have Sf35 : Sta Z h30 "java/util/Optional" "EMPTY" "Ljava/util/Optional;" (.ref s_EMPTY) := own_sta_keep0 S_EMPTY K30q
  have pre36 : ∀ t, Steps p.tables e below (T30.setTop (mkF m 7 #[.val (.int p0), .val (.ref s_EMPTY), .unset, .unset, .unset, .unset] [(.ref b30)])) t → Steps p.tables e below (s₁.setTop (entryFrame m #[(.int p0)] 6)) t := fun t k => pre29 t (st30 t k)
  have pre37 : ∀ t, Steps p.tables e below (T30.setTop (mkF m 9 #[.val (.int p0), .val (.ref s_EMPTY), .val (.ref b30), .unset, .unset, .unset] [(.ref b30)])) t → Steps p.tables e below (s₁.setTop (entryFrame m #[(.int p0)] 6)) t := by
    intro t k
    refine pre36 t ?_
    show Steps p.tables e below (T30.setTop (mkF m 7 #[.val (.int p0), .val (.ref s_EMPTY), .unset, .unset, .unset, .unset] [(.ref b30)])) _
    refine XS.astoreN X30.here hx rfl (hb hby d1_7) rfl rfl (l' := #[.val (.int p0), .val (.ref s_EMPTY), .val (.ref b30), .unset, .unset, .unset]) rfl ?_
    show Steps p.tables e below (T30.setTop (mkF m 8 #[.val (.int p0), .val (.ref s_EMPTY), .val (.ref b30), .unset, .unset, .unset] [])) _
    refine XS.aloadN X30.here hx rfl (hb hby d1_8) rfl rfl ?_
    show Steps p.tables e below (T30.setTop (mkF m 9 #[.val (.int p0), .val (.ref s_EMPTY), .val (.ref b30), .unset, .unset, .unset] [(.ref b30)])) _
    exact k
  obtain ⟨cl38, Ar38, q38, S38, M38, H38, G38⟩ := id Ob30_0
  have pre39 : ∀ t, Steps p.tables e below (T30.setTop (mkF m 23 #[.val (.int p0), .val (.ref s_EMPTY), .val (.ref b30), .val (.int (1 : Int32)), .val (.int (0 : Int32)), .unset] [(.int (0 : Int32)), (.ref b30)])) t → Steps p.tables e below (s₁.setTop (entryFrame m #[(.int p0)] 6)) t := by
    intro t k
    refine pre37 t ?_
    show Steps p.tables e below (T30.setTop (mkF m 9 #[.val (.int p0), .val (.ref s_EMPTY), .val (.ref b30), .unset, .unset, .unset] [(.ref b30)])) _
    refine X30.arraylength hx (by rw [e30]; exact Ar38.1) (State.isArrayOf_alike hZ.alike Ar38.2.1) (g := (mkF m 9 #[.val (.int p0), .val (.ref s_EMPTY), .val (.ref b30), .unset, .unset, .unset] [(.ref b30)])) rfl rfl (hb hby d1_9) _ ?_
    rw [len_of S38 M38]
    show Steps p.tables e below (T30.setTop (mkF m 10 #[.val (.int p0), .val (.ref s_EMPTY), .val (.ref b30), .unset, .unset, .unset] [(.int (1 : Int32))])) _
    refine XS.istoreN X30.here hx rfl (hb hby d1_10) rfl (l' := #[.val (.int p0), .val (.ref s_EMPTY), .val (.ref b30), .val (.int (1 : Int32)), .unset, .unset]) rfl ?_
    show Steps p.tables e below (T30.setTop (mkF m 11 #[.val (.int p0), .val (.ref s_EMPTY), .val (.ref b30), .val (.int (1 : Int32)), .unset, .unset] [])) _
    refine XS.iconst X30.here hx rfl (hb hby d1_11) ?_
    show Steps p.tables e below (T30.setTop (mkF m 12 #[.val (.int p0), .val (.ref s_EMPTY), .val (.ref b30), .val (.int (1 : Int32)), .unset, .unset] [(.int (0 : Int32))])) _
    refine XS.istore X30.here hx rfl (hb hby d1_12) rfl (l' := #[.val (.int p0), .val (.ref s_EMPTY), .val (.ref b30), .val (.int (1 : Int32)), .val (.int (0 : Int32)), .unset]) rfl ?_
    show Steps p.tables e below (T30.setTop (mkF m 14 #[.val (.int p0), .val (.ref s_EMPTY), .val (.ref b30), .val (.int (1 : Int32)), .val (.int (0 : Int32)), .unset] [])) _
    refine XS.iload X30.here hx rfl (hb hby d1_14) rfl ?_
    show Steps p.tables e below (T30.setTop (mkF m 16 #[.val (.int p0), .val (.ref s_EMPTY), .val (.ref b30), .val (.int (1 : Int32)), .val (.int (0 : Int32)), .unset] [(.int (0 : Int32))])) _
    refine XS.iloadN X30.here hx rfl (hb hby d1_16) rfl ?_
    show Steps p.tables e below (T30.setTop (mkF m 17 #[.val (.int p0), .val (.ref s_EMPTY), .val (.ref b30), .val (.int (1 : Int32)), .val (.int (0 : Int32)), .unset] [(.int (1 : Int32)), (.int (0 : Int32))])) _
    show Steps p.tables e below (T30.setTop (mkF m 17 #[.val (.int p0), .val (.ref s_EMPTY), .val (.ref b30), .val (.int (1 : Int32)), .val (.int (0 : Int32)), .unset] [(.int (1 : Int32)), (.int (0 : Int32))])) _
    refine XS.icmpNo X30.here hx rfl (hb hby d1_17) rfl (tlt (by decide : (0 : Int32) < (1 : Int32))).2.1 ?_
    show Steps p.tables e below (T30.setTop (mkF m 20 #[.val (.int p0), .val (.ref s_EMPTY), .val (.ref b30), .val (.int (1 : Int32)), .val (.int (0 : Int32)), .unset] [])) _
    refine XS.aloadN X30.here hx rfl (hb hby d1_20) rfl rfl ?_
    show Steps p.tables e below (T30.setTop (mkF m 21 #[.val (.int p0), .val (.ref s_EMPTY), .val (.ref b30), .val (.int (1 : Int32)), .val (.int (0 : Int32)), .unset] [(.ref b30)])) _
    refine XS.iload X30.here hx rfl (hb hby d1_21) rfl ?_
    show Steps p.tables e below (T30.setTop (mkF m 23 #[.val (.int p0), .val (.ref s_EMPTY), .val (.ref b30), .val (.int (1 : Int32)), .val (.int (0 : Int32)), .unset] [(.int (0 : Int32)), (.ref b30)])) _
    exact k
  obtain ⟨cl40, Ar40, q40, S40, M40, H40, G40⟩ := id Ob30_0
  have hin40 : ¬ ((0 : Int32) < 0 ∨ cl40.slots.size ≤ ((0 : Int32)).toNatClampNeg) := inb_of S40 ⟨by decide, by decide⟩
  have hat40 : cl40.slots[((0 : Int32)).toNatClampNeg]? = some (.ref s_COLLECTIONS) := H40.at hin40 rfl
  have pre41 : ∀ t, Steps p.tables e below (T30.setTop (mkF m 28 #[.val (.int p0), .val (.ref s_EMPTY), .val (.ref b30), .val (.int (1 : Int32)), .val (.int (0 : Int32)), .val (.ref s_COLLECTIONS)] [(.ref s_COLLECTIONS)])) t → Steps p.tables e below (s₁.setTop (entryFrame m #[(.int p0)] 6)) t := by
    intro t k
    refine pre39 t ?_
    show Steps p.tables e below (T30.setTop (mkF m 23 #[.val (.int p0), .val (.ref s_EMPTY), .val (.ref b30), .val (.int (1 : Int32)), .val (.int (0 : Int32)), .unset] [(.int (0 : Int32)), (.ref b30)])) _
    refine X30.aaload hx (j := (0 : Int32)) (v := (.ref s_COLLECTIONS)) (by rw [e30]; exact Ar40.1) (State.isArrayOf_alike hZ.alike Ar40.2.1) rfl Ar40.2.2 hin40 hat40 (g := (mkF m 23 #[.val (.int p0), .val (.ref s_EMPTY), .val (.ref b30), .val (.int (1 : Int32)), .val (.int (0 : Int32)), .unset] [(.int (0 : Int32)), (.ref b30)])) rfl rfl (hb hby d1_23) _ ?_
    show Steps p.tables e below (T30.setTop (mkF m 24 #[.val (.int p0), .val (.ref s_EMPTY), .val (.ref b30), .val (.int (1 : Int32)), .val (.int (0 : Int32)), .unset] [(.ref s_COLLECTIONS)])) _
    refine XS.astore X30.here hx rfl (hb hby d1_24) rfl rfl (l' := #[.val (.int p0), .val (.ref s_EMPTY), .val (.ref b30), .val (.int (1 : Int32)), .val (.int (0 : Int32)), .val (.ref s_COLLECTIONS)]) rfl ?_
    show Steps p.tables e below (T30.setTop (mkF m 26 #[.val (.int p0), .val (.ref s_EMPTY), .val (.ref b30), .val (.int (1 : Int32)), .val (.int (0 : Int32)), .val (.ref s_COLLECTIONS)] [])) _
    refine XS.aload X30.here hx rfl (hb hby d1_26) rfl rfl ?_
    show Steps p.tables e below (T30.setTop (mkF m 28 #[.val (.int p0), .val (.ref s_EMPTY), .val (.ref b30), .val (.int (1 : Int32)), .val (.int (0 : Int32)), .val (.ref s_COLLECTIONS)] [(.ref s_COLLECTIONS)])) _
    exact k
  obtain ⟨T42, X42, e42, st42⟩ := getF X30 hx hZ hown (host := "") (Or.inl (hw _ (List.mem_of_getElem? (i := 25) rfl))) Via.refl e30 Ff34 (g := (mkF m 28 #[.val (.int p0), .val (.ref s_EMPTY), .val (.ref b30), .val (.int (1 : Int32)), .val (.int (0 : Int32)), .val (.ref s_COLLECTIONS)] [(.ref s_COLLECTIONS)])) rfl rfl (hb hby d1_28)
  have pre43 : ∀ t, Steps p.tables e below (T42.setTop (mkF m 31 #[.val (.int p0), .val (.ref s_EMPTY), .val (.ref b30), .val (.int (1 : Int32)), .val (.int (0 : Int32)), .val (.ref s_COLLECTIONS)] [(.int (18 : Int32))])) t → Steps p.tables e below (s₁.setTop (entryFrame m #[(.int p0)] 6)) t := fun t k => pre41 t (st42 t k)
  have pre44 : ∀ t, Steps p.tables e below (T42.setTop (mkF m 37 #[.val (.int p0), .val (.ref s_EMPTY), .val (.ref b30), .val (.int (1 : Int32)), .val (.int (0 : Int32)), .val (.ref s_COLLECTIONS)] [(.ref s_COLLECTIONS)])) t → Steps p.tables e below (s₁.setTop (entryFrame m #[(.int p0)] 6)) t := by
    intro t k
    refine pre43 t ?_
    show Steps p.tables e below (T42.setTop (mkF m 31 #[.val (.int p0), .val (.ref s_EMPTY), .val (.ref b30), .val (.int (1 : Int32)), .val (.int (0 : Int32)), .val (.ref s_COLLECTIONS)] [(.int (18 : Int32))])) _
    refine XS.iloadN X42.here hx rfl (hb hby d1_31) rfl ?_
    show Steps p.tables e below (T42.setTop (mkF m 32 #[.val (.int p0), .val (.ref s_EMPTY), .val (.ref b30), .val (.int (1 : Int32)), .val (.int (0 : Int32)), .val (.ref s_COLLECTIONS)] [(.int p0), (.int (18 : Int32))])) _
    show Steps p.tables e below (T42.setTop (mkF m 32 #[.val (.int p0), .val (.ref s_EMPTY), .val (.ref b30), .val (.int (1 : Int32)), .val (.int (0 : Int32)), .val (.ref s_COLLECTIONS)] [(.int p0), (.int (18 : Int32))])) _
    refine XS.icmpNo X42.here hx rfl (hb hby d1_32) rfl (teq hk32).2 ?_
    show Steps p.tables e below (T42.setTop (mkF m 35 #[.val (.int p0), .val (.ref s_EMPTY), .val (.ref b30), .val (.int (1 : Int32)), .val (.int (0 : Int32)), .val (.ref s_COLLECTIONS)] [])) _
    refine XS.aload X42.here hx rfl (hb hby d1_35) rfl rfl ?_
    show Steps p.tables e below (T42.setTop (mkF m 37 #[.val (.int p0), .val (.ref s_EMPTY), .val (.ref b30), .val (.int (1 : Int32)), .val (.int (0 : Int32)), .val (.ref s_COLLECTIONS)] [(.ref s_COLLECTIONS)])) _
    exact k
  obtain ⟨_, _, ⟨T45, L45, k45, n45⟩, -, X45, ⟨Lc45, hQ45, l45, y45, z45⟩, st45⟩ := Jvm.LawKit.callS X42 hx (y := (⟨"java/util/Optional", "of", "(Ljava/lang/Object;)Ljava/util/Optional;"⟩ : MethodName)) hown (mvT hZ (hw _ (List.mem_of_getElem? (i := 35) rfl))) (mvT hZ (hw _ (List.mem_of_getElem? (i := 36) rfl))) (mvT hZ (hw _ (List.mem_of_getElem? (i := 6) rfl))) (mvT hZ (hw _ (List.mem_of_getElem? (i := 37) rfl))) (by decide) (backOf (W := 0) (rm5 l Z ar0 hw [] s_COLLECTIONS h30 n0 Z30) hZ (hw _ (List.mem_of_getElem? (i := 37) rfl)) (hw _ (List.mem_of_getElem? (i := 6) rfl)) (by decide) (by decide)) (g := (mkF m 37 #[.val (.int p0), .val (.ref s_EMPTY), .val (.ref b30), .val (.int (1 : Int32)), .val (.int (0 : Int32)), .val (.ref s_COLLECTIONS)] [(.ref s_COLLECTIONS)])) rfl (by rw [hml]; rfl) (argsL := [(.ref s_COLLECTIONS)]) (rest := []) (lenOf pd_4 rfl) rfl (by show 2 * 0 + _ ≤ _; exact Nat.le_of_eq rfl) (hb hby d1_37) (fun _ _ => ⟨rfl, e42, (by decide : 1 + 1 ≤ _), (by decide : 1 + 1 ≤ _)⟩)
  dsimp only [Pt.U, Pt.locs, Pt.cells, Pt.slots] at X45 l45 y45 z45 st45 hQ45
  subst l45 y45 z45
  obtain ⟨h45, e45⟩ : ∃ h, T45.heap = h := ⟨_, rfl⟩
  rw [e45] at hQ45
  obtain ⟨b45, rfl, N45q, K45q, y_b45, Ob45_0, Ob45_1⟩ := hQ45
  have N45 := Fr.app N30 N45q
  have ne_s__VALUES_b45 : s__VALUES ≠ b45 := Nat.ne_of_lt (Nat.lt_of_lt_of_le (Vf32).lt y_b45)
  have ne_s_COLLECTIONS_b45 : s_COLLECTIONS ≠ b45 := Nat.ne_of_lt (Nat.lt_of_lt_of_le (Ff34).lt y_b45)
  have ne_b30_b45 : b30 ≠ b45 := Nat.ne_of_lt (Nat.lt_of_lt_of_le (Ob30_0).lt y_b45)
  have g_b45 : n0 ≤ b45 := Nat.le_trans Z30 y_b45
  have sz_b45 : h0.size ≤ b45 := Nat.le_trans K30.1 y_b45
  have Z45 : n0 ≤ h45.size := Nat.le_trans Z30 K45q.1
  have K45 : Keep h0 h45 [] := K30.trans K45q (fun x hx => absurd hx List.not_mem_nil)
  have Sf46 : Sta Z h45 "com/example/keyed_collections/keyedcollections/protocol/Feature" "$VALUES" "[Lcom/example/keyed_collections/keyedcollections/protocol/Feature;" (.ref s__VALUES) := own_sta_keep0 Sf31 K45q
  have Vf47 : Arv Z h45 s__VALUES k__VALUES (.object "com/example/keyed_collections/keyedcollections/protocol/Feature") (1 : Int32) [(.ref s_COLLECTIONS)] .null := (Vf32).keep K45q List.not_mem_nil
  have Ef48 : Exa Z h45 s__VALUES "[Lcom/example/keyed_collections/keyedcollections/protocol/Feature;" := (Ef33).keep K45q
  have Ff49 : Fld Z h45 s_COLLECTIONS "com/example/keyed_collections/keyedcollections/protocol/Feature" "code" "I" (.int (18 : Int32)) := (Ff34).keep K45q List.not_mem_nil
  have Sf50 : Sta Z h45 "java/util/Optional" "EMPTY" "Ljava/util/Optional;" (.ref s_EMPTY) := own_sta_keep0 Sf35 K45q
  have Vf51 : Arv Z h45 b30 kb30 (.object "com/example/keyed_collections/keyedcollections/protocol/Feature") (1 : Int32) [(.ref s_COLLECTIONS)] .null := (Ob30_0).keep K45q List.not_mem_nil
  have Ef52 : Exa Z h45 b30 "[Lcom/example/keyed_collections/keyedcollections/protocol/Feature;" := (Ob30_1).keep K45q
  have pre53 : ∀ t, Steps p.tables e below (T45.setTop (mkF m 40 #[.val (.int p0), .val (.ref s_EMPTY), .val (.ref b30), .val (.int (1 : Int32)), .val (.int (0 : Int32)), .val (.ref s_COLLECTIONS)] [(.ref b45)])) t → Steps p.tables e below (s₁.setTop (entryFrame m #[(.int p0)] 6)) t := fun t k => pre44 t (st45 t k)
  obtain ⟨fs, hr, hrun, hended, hW, hsame⟩ := X45.leave (v := some (.ref b45)) (fun h => by rw [Bd.returns] at h; cases h)
  refine ⟨_, _, pre53 _ ?_, hrun, hended, _, _, rfl, ?_, ⟨_, rfl⟩, hW, hsame.mono (by decide) (by decide)⟩
  · show Steps p.tables e below (T45.setTop (mkF m 40 #[.val (.int p0), .val (.ref s_EMPTY), .val (.ref b30), .val (.int (1 : Int32)), .val (.int (0 : Int32)), .val (.ref s_COLLECTIONS)] [(.ref b45)])) _
    refine XS.astoreN X45.here hx rfl (hb hby d1_40) rfl rfl (l' := #[.val (.int p0), .val (.ref b45), .val (.ref b30), .val (.int (1 : Int32)), .val (.int (0 : Int32)), .val (.ref s_COLLECTIONS)]) rfl ?_
    show Steps p.tables e below (T45.setTop (mkF m 41 #[.val (.int p0), .val (.ref b45), .val (.ref b30), .val (.int (1 : Int32)), .val (.int (0 : Int32)), .val (.ref s_COLLECTIONS)] [])) _
    refine XS.iinc X45.here hx rfl (hb hby d1_41) rfl (l' := #[.val (.int p0), .val (.ref b45), .val (.ref b30), .val (.int (1 : Int32)), .val (.int (1 : Int32)), .val (.ref s_COLLECTIONS)]) rfl ?_
    show Steps p.tables e below (T45.setTop (mkF m 44 #[.val (.int p0), .val (.ref b45), .val (.ref b30), .val (.int (1 : Int32)), .val (.int (1 : Int32)), .val (.ref s_COLLECTIONS)] [])) _
    refine XS.goto X45.here hx rfl (pc0 := 44) (pc' := 14) rfl (hb hby d1_44) (by decide) (by decide) ?_
    show Steps p.tables e below (T45.setTop (mkF m 14 #[.val (.int p0), .val (.ref b45), .val (.ref b30), .val (.int (1 : Int32)), .val (.int (1 : Int32)), .val (.ref s_COLLECTIONS)] [])) _
    refine XS.iload X45.here hx rfl (hb hby d1_14) rfl ?_
    show Steps p.tables e below (T45.setTop (mkF m 16 #[.val (.int p0), .val (.ref b45), .val (.ref b30), .val (.int (1 : Int32)), .val (.int (1 : Int32)), .val (.ref s_COLLECTIONS)] [(.int (1 : Int32))])) _
    refine XS.iloadN X45.here hx rfl (hb hby d1_16) rfl ?_
    show Steps p.tables e below (T45.setTop (mkF m 17 #[.val (.int p0), .val (.ref b45), .val (.ref b30), .val (.int (1 : Int32)), .val (.int (1 : Int32)), .val (.ref s_COLLECTIONS)] [(.int (1 : Int32)), (.int (1 : Int32))])) _
    show Steps p.tables e below (T45.setTop (mkF m 17 #[.val (.int p0), .val (.ref b45), .val (.ref b30), .val (.int (1 : Int32)), .val (.int (1 : Int32)), .val (.ref s_COLLECTIONS)] [(.int (1 : Int32)), (.int (1 : Int32))])) _
    refine XS.icmpYes X45.here hx rfl (pc0 := 17) (pc' := 47) rfl (hb hby d1_17) rfl (flt (by decide : ¬ (1 : Int32) < (1 : Int32))).2.1 (by decide) (by decide) ?_
    show Steps p.tables e below (T45.setTop (mkF m 47 #[.val (.int p0), .val (.ref b45), .val (.ref b30), .val (.int (1 : Int32)), .val (.int (1 : Int32)), .val (.ref s_COLLECTIONS)] [])) _
    refine XS.aloadN X45.here hx rfl (hb hby d1_47) rfl rfl ?_
    show Steps p.tables e below (T45.setTop (mkF m 48 #[.val (.int p0), .val (.ref b45), .val (.ref b30), .val (.int (1 : Int32)), .val (.int (1 : Int32)), .val (.ref s_COLLECTIONS)] [(.ref b45)])) _
    exact retOut X45 hx Bd.returns rfl (Or.inr (Or.inr (Or.inr (Or.inr ⟨rfl, rfl, rfl⟩)))) (hb hby d1_48) hr
  · show Q1_y Z p0 s__VALUES k__VALUES s_COLLECTIONS s_EMPTY h0 n0 _ T45.heap _
    rw [e45]
    exact ⟨b45, rfl, N45, K45, sz_b45, Ob45_0, Ob45_1⟩
def Q1_n (Z : State) (p0 : Int32) (s__VALUES : Addr) (k__VALUES : ClassId) (s_COLLECTIONS : Addr) (s_EMPTY : Addr) (h0 : Heap) (n0 : Nat) (v : Option Value) (h : Heap) (L : List Loc) : Prop := v = some (.ref s_EMPTY) ∧ Fr n0 L ∧ Keep h0 h []
set_option maxRecDepth 65536 in
set_option maxHeartbeats 40000000 in
theorem rm1_n (l : Launch) (Z : State) (ar0 : Array Value) (hw : ∀ d ∈ tables_1, d.before ar0 Z = true) (ws : List Jvm.Cond) (p0 : Int32) (s__VALUES : Addr) (k__VALUES : ClassId) (s_COLLECTIONS : Addr) (s_EMPTY : Addr) (h0 : Heap) (n0 : Nat) (Z0 : n0 ≤ h0.size) (S__VALUES : Sta Z h0 "com/example/keyed_collections/keyedcollections/protocol/Feature" "$VALUES" "[Lcom/example/keyed_collections/keyedcollections/protocol/Feature;" (.ref s__VALUES)) (V_s__VALUES : Arv Z h0 s__VALUES k__VALUES (.object "com/example/keyed_collections/keyedcollections/protocol/Feature") (1 : Int32) [(.ref s_COLLECTIONS)] .null) (E_s__VALUES : Exa Z h0 s__VALUES "[Lcom/example/keyed_collections/keyedcollections/protocol/Feature;") (F_code_s_COLLECTIONS : Fld Z h0 s_COLLECTIONS "com/example/keyed_collections/keyedcollections/protocol/Feature" "code" "I" (.int (18 : Int32))) (S_EMPTY : Sta Z h0 "java/util/Optional" "EMPTY" "Ljava/util/Optional;" (.ref s_EMPTY)) (hk32 : ¬ ((18 : Int32) = p0)) :
    MetFree l (⟨"com/example/keyed_collections/keyedcollections/protocol/Feature", "of", "(I)Ljava/util/Optional;"⟩ : MethodName) (head1 (Jvm.Cond.code (⟨"com/example/keyed_collections/keyedcollections/protocol/Feature", "of", "(I)Ljava/util/Optional;"⟩ : MethodName) prog_9_method_5_code 6 (some (.object "java/util/Optional")) :: ws) ({ frames := 2, cells := 1, slots := 1, locals := 25 } : Room)) (fun a U => a = #[(.int p0)] ∧ Z.Warmed39 U.vm ∧ U.heap = h0) (fun _ _ _ _ _ => True) (fun _ U o U' => ∃ v L, o = .returned v ∧ Q1_n Z p0 s__VALUES k__VALUES s_COLLECTIONS s_EMPTY h0 n0 v U'.heap L ∧ FrameEnd U o U' L ({ frames := 2, cells := 1, slots := 1, locals := 25 } : Room).cells ({ frames := 2, cells := 1, slots := 1, locals := 25 } : Room).slots) := by
  refine MetFree.of_bodySF (plainFor_of_name pn_2) hisR ?_
  intro p e s m args below meth c s₁ Bd hml0 hP hK
  obtain ⟨rfl, hZ, hh⟩ := hP
  have hx := Bd.exec
  have hby := Bd.bytes
  have hml : c.maxLocals = 6 := hml0
  have hown : s.vm.findClass "com/example/keyed_collections/keyedcollections/protocol/Feature" = some m.cls := findClass_of_methodNamed Bd.named
  have hnm := (name_of_methodNamed Bd.named Bd.method).1
  have X0 : Stand p l e ({ frames := 2, cells := 1, slots := 1, locals := 25 } : Room) s m #[(.int p0)] below meth c s₁ [] 0 0 := Stand.of_body Bd
  have e0 : s₁.heap = h0 := by rw [← hh, Bd.state]; rfl
  have N0 := Fr.nil n0
  have pre0 : ∀ t, Steps p.tables e below (s₁.setTop (mkF m 0 #[.val (.int p0), .unset, .unset, .unset, .unset, .unset] [])) t → Steps p.tables e below (s₁.setTop (entryFrame m #[(.int p0)] 6)) t := fun t k => castTop (ef_1 m p0) k
  obtain ⟨_, _, ⟨T54, L54, k54, n54⟩, -, X54, ⟨Lc54, hQ54, l54, y54, z54⟩, st54⟩ := Jvm.LawKit.callS X0 hx (y := (⟨"java/util/Optional", "empty", "()Ljava/util/Optional;"⟩ : MethodName)) hown (mvT hZ (hw _ (List.mem_of_getElem? (i := 4) rfl))) (mvT hZ (hw _ (List.mem_of_getElem? (i := 5) rfl))) (mvT hZ (hw _ (List.mem_of_getElem? (i := 6) rfl))) (mvT hZ (hw _ (List.mem_of_getElem? (i := 7) rfl))) (by decide) (backOf (W := 0) (rm2 l Z ar0 hw [] s_EMPTY h0 n0 Z0 S_EMPTY) hZ (hw _ (List.mem_of_getElem? (i := 7) rfl)) (hw _ (List.mem_of_getElem? (i := 6) rfl)) (by decide) (by decide)) (g := (mkF m 0 #[.val (.int p0), .unset, .unset, .unset, .unset, .unset] [])) rfl (by rw [hml]; rfl) (argsL := []) (rest := []) (lenOf pd_2 rfl) rfl (by show 2 * 0 + _ ≤ _; exact Nat.le_of_eq rfl) (hb hby d1_0) (fun _ _ => ⟨rfl, e0, (by decide : 0 + 0 ≤ _), (by decide : 0 + 0 ≤ _)⟩)
  dsimp only [Pt.U, Pt.locs, Pt.cells, Pt.slots] at X54 l54 y54 z54 st54 hQ54
  subst l54 y54 z54
  obtain ⟨rfl, N54q, e54⟩ := hQ54
  have N54 := Fr.app N0 N54q
  have pre55 : ∀ t, Steps p.tables e below (T54.setTop (mkF m 3 #[.val (.int p0), .unset, .unset, .unset, .unset, .unset] [(.ref s_EMPTY)])) t → Steps p.tables e below (s₁.setTop (entryFrame m #[(.int p0)] 6)) t := fun t k => pre0 t (st54 t k)
  have pre56 : ∀ t, Steps p.tables e below (T54.setTop (mkF m 4 #[.val (.int p0), .val (.ref s_EMPTY), .unset, .unset, .unset, .unset] [])) t → Steps p.tables e below (s₁.setTop (entryFrame m #[(.int p0)] 6)) t := by
    intro t k
    refine pre55 t ?_
    show Steps p.tables e below (T54.setTop (mkF m 3 #[.val (.int p0), .unset, .unset, .unset, .unset, .unset] [(.ref s_EMPTY)])) _
    refine XS.astoreN X54.here hx rfl (hb hby d1_3) rfl rfl (l' := #[.val (.int p0), .val (.ref s_EMPTY), .unset, .unset, .unset, .unset]) rfl ?_
    show Steps p.tables e below (T54.setTop (mkF m 4 #[.val (.int p0), .val (.ref s_EMPTY), .unset, .unset, .unset, .unset] [])) _
    exact k
  obtain ⟨_, _, ⟨T57, L57, k57, n57⟩, -, X57, ⟨Lc57, hQ57, l57, y57, z57⟩, st57⟩ := Jvm.LawKit.callS X54 hx (y := (⟨"com/example/keyed_collections/keyedcollections/protocol/Feature", "values", "()[Lcom/example/keyed_collections/keyedcollections/protocol/Feature;"⟩ : MethodName)) hown (mvT hZ (hw _ (List.mem_of_getElem? (i := 9) rfl))) (mvT hZ (hw _ (List.mem_of_getElem? (i := 10) rfl))) (mvT hZ (hw _ (List.mem_of_getElem? (i := 2) rfl))) (mvT hZ (hw _ (List.mem_of_getElem? (i := 11) rfl))) (by decide) (backOf (W := 0) (rm3 l Z ar0 hw [] s__VALUES k__VALUES s_COLLECTIONS h0 n0 Z0 S__VALUES V_s__VALUES E_s__VALUES) hZ (hw _ (List.mem_of_getElem? (i := 11) rfl)) (hw _ (List.mem_of_getElem? (i := 2) rfl)) (by decide) (by decide)) (g := (mkF m 4 #[.val (.int p0), .val (.ref s_EMPTY), .unset, .unset, .unset, .unset] [])) rfl (by rw [hml]; rfl) (argsL := []) (rest := []) (lenOf pd_3 rfl) rfl (by show 2 * 0 + _ ≤ _; exact Nat.le_of_eq rfl) (hb hby d1_4) (fun _ _ => ⟨rfl, e54, (by decide : 0 + 1 ≤ _), (by decide : 0 + 1 ≤ _)⟩)
  dsimp only [Pt.U, Pt.locs, Pt.cells, Pt.slots] at X57 l57 y57 z57 st57 hQ57
  subst l57 y57 z57
  obtain ⟨h57, e57⟩ : ∃ h, T57.heap = h := ⟨_, rfl⟩
  rw [e57] at hQ57
  obtain ⟨b57, kb57, rfl, N57q, K57q, y_b57, Ob57_0, Ob57_1⟩ := hQ57
  have N57 := Fr.app N54 N57q
  have ne_s__VALUES_b57 : s__VALUES ≠ b57 := Nat.ne_of_lt (Nat.lt_of_lt_of_le (V_s__VALUES).lt y_b57)
  have ne_s_COLLECTIONS_b57 : s_COLLECTIONS ≠ b57 := Nat.ne_of_lt (Nat.lt_of_lt_of_le (F_code_s_COLLECTIONS).lt y_b57)
  have g_b57 : n0 ≤ b57 := Nat.le_trans Z0 y_b57
  have sz_b57 : h0.size ≤ b57 := Nat.le_trans (Keep.refl h0 []).1 y_b57
  have Z57 : n0 ≤ h57.size := Nat.le_trans Z0 K57q.1
  have K57 : Keep h0 h57 [] := (Keep.refl h0 []).trans K57q (fun x hx => absurd hx List.not_mem_nil)
  have Sf58 : Sta Z h57 "com/example/keyed_collections/keyedcollections/protocol/Feature" "$VALUES" "[Lcom/example/keyed_collections/keyedcollections/protocol/Feature;" (.ref s__VALUES) := own_sta_keep0 S__VALUES K57q
  have Vf59 : Arv Z h57 s__VALUES k__VALUES (.object "com/example/keyed_collections/keyedcollections/protocol/Feature") (1 : Int32) [(.ref s_COLLECTIONS)] .null := (V_s__VALUES).keep K57q List.not_mem_nil
  have Ef60 : Exa Z h57 s__VALUES "[Lcom/example/keyed_collections/keyedcollections/protocol/Feature;" := (E_s__VALUES).keep K57q
  have Ff61 : Fld Z h57 s_COLLECTIONS "com/example/keyed_collections/keyedcollections/protocol/Feature" "code" "I" (.int (18 : Int32)) := (F_code_s_COLLECTIONS).keep K57q List.not_mem_nil
  have Sf62 : Sta Z h57 "java/util/Optional" "EMPTY" "Ljava/util/Optional;" (.ref s_EMPTY) := own_sta_keep0 S_EMPTY K57q
  have pre63 : ∀ t, Steps p.tables e below (T57.setTop (mkF m 7 #[.val (.int p0), .val (.ref s_EMPTY), .unset, .unset, .unset, .unset] [(.ref b57)])) t → Steps p.tables e below (s₁.setTop (entryFrame m #[(.int p0)] 6)) t := fun t k => pre56 t (st57 t k)
  have pre64 : ∀ t, Steps p.tables e below (T57.setTop (mkF m 9 #[.val (.int p0), .val (.ref s_EMPTY), .val (.ref b57), .unset, .unset, .unset] [(.ref b57)])) t → Steps p.tables e below (s₁.setTop (entryFrame m #[(.int p0)] 6)) t := by
    intro t k
    refine pre63 t ?_
    show Steps p.tables e below (T57.setTop (mkF m 7 #[.val (.int p0), .val (.ref s_EMPTY), .unset, .unset, .unset, .unset] [(.ref b57)])) _
    refine XS.astoreN X57.here hx rfl (hb hby d1_7) rfl rfl (l' := #[.val (.int p0), .val (.ref s_EMPTY), .val (.ref b57), .unset, .unset, .unset]) rfl ?_
    show Steps p.tables e below (T57.setTop (mkF m 8 #[.val (.int p0), .val (.ref s_EMPTY), .val (.ref b57), .unset, .unset, .unset] [])) _
    refine XS.aloadN X57.here hx rfl (hb hby d1_8) rfl rfl ?_
    show Steps p.tables e below (T57.setTop (mkF m 9 #[.val (.int p0), .val (.ref s_EMPTY), .val (.ref b57), .unset, .unset, .unset] [(.ref b57)])) _
    exact k
  obtain ⟨cl65, Ar65, q65, S65, M65, H65, G65⟩ := id Ob57_0
  have pre66 : ∀ t, Steps p.tables e below (T57.setTop (mkF m 23 #[.val (.int p0), .val (.ref s_EMPTY), .val (.ref b57), .val (.int (1 : Int32)), .val (.int (0 : Int32)), .unset] [(.int (0 : Int32)), (.ref b57)])) t → Steps p.tables e below (s₁.setTop (entryFrame m #[(.int p0)] 6)) t := by
    intro t k
    refine pre64 t ?_
    show Steps p.tables e below (T57.setTop (mkF m 9 #[.val (.int p0), .val (.ref s_EMPTY), .val (.ref b57), .unset, .unset, .unset] [(.ref b57)])) _
    refine X57.arraylength hx (by rw [e57]; exact Ar65.1) (State.isArrayOf_alike hZ.alike Ar65.2.1) (g := (mkF m 9 #[.val (.int p0), .val (.ref s_EMPTY), .val (.ref b57), .unset, .unset, .unset] [(.ref b57)])) rfl rfl (hb hby d1_9) _ ?_
    rw [len_of S65 M65]
    show Steps p.tables e below (T57.setTop (mkF m 10 #[.val (.int p0), .val (.ref s_EMPTY), .val (.ref b57), .unset, .unset, .unset] [(.int (1 : Int32))])) _
    refine XS.istoreN X57.here hx rfl (hb hby d1_10) rfl (l' := #[.val (.int p0), .val (.ref s_EMPTY), .val (.ref b57), .val (.int (1 : Int32)), .unset, .unset]) rfl ?_
    show Steps p.tables e below (T57.setTop (mkF m 11 #[.val (.int p0), .val (.ref s_EMPTY), .val (.ref b57), .val (.int (1 : Int32)), .unset, .unset] [])) _
    refine XS.iconst X57.here hx rfl (hb hby d1_11) ?_
    show Steps p.tables e below (T57.setTop (mkF m 12 #[.val (.int p0), .val (.ref s_EMPTY), .val (.ref b57), .val (.int (1 : Int32)), .unset, .unset] [(.int (0 : Int32))])) _
    refine XS.istore X57.here hx rfl (hb hby d1_12) rfl (l' := #[.val (.int p0), .val (.ref s_EMPTY), .val (.ref b57), .val (.int (1 : Int32)), .val (.int (0 : Int32)), .unset]) rfl ?_
    show Steps p.tables e below (T57.setTop (mkF m 14 #[.val (.int p0), .val (.ref s_EMPTY), .val (.ref b57), .val (.int (1 : Int32)), .val (.int (0 : Int32)), .unset] [])) _
    refine XS.iload X57.here hx rfl (hb hby d1_14) rfl ?_
    show Steps p.tables e below (T57.setTop (mkF m 16 #[.val (.int p0), .val (.ref s_EMPTY), .val (.ref b57), .val (.int (1 : Int32)), .val (.int (0 : Int32)), .unset] [(.int (0 : Int32))])) _
    refine XS.iloadN X57.here hx rfl (hb hby d1_16) rfl ?_
    show Steps p.tables e below (T57.setTop (mkF m 17 #[.val (.int p0), .val (.ref s_EMPTY), .val (.ref b57), .val (.int (1 : Int32)), .val (.int (0 : Int32)), .unset] [(.int (1 : Int32)), (.int (0 : Int32))])) _
    show Steps p.tables e below (T57.setTop (mkF m 17 #[.val (.int p0), .val (.ref s_EMPTY), .val (.ref b57), .val (.int (1 : Int32)), .val (.int (0 : Int32)), .unset] [(.int (1 : Int32)), (.int (0 : Int32))])) _
    refine XS.icmpNo X57.here hx rfl (hb hby d1_17) rfl (tlt (by decide : (0 : Int32) < (1 : Int32))).2.1 ?_
    show Steps p.tables e below (T57.setTop (mkF m 20 #[.val (.int p0), .val (.ref s_EMPTY), .val (.ref b57), .val (.int (1 : Int32)), .val (.int (0 : Int32)), .unset] [])) _
    refine XS.aloadN X57.here hx rfl (hb hby d1_20) rfl rfl ?_
    show Steps p.tables e below (T57.setTop (mkF m 21 #[.val (.int p0), .val (.ref s_EMPTY), .val (.ref b57), .val (.int (1 : Int32)), .val (.int (0 : Int32)), .unset] [(.ref b57)])) _
    refine XS.iload X57.here hx rfl (hb hby d1_21) rfl ?_
    show Steps p.tables e below (T57.setTop (mkF m 23 #[.val (.int p0), .val (.ref s_EMPTY), .val (.ref b57), .val (.int (1 : Int32)), .val (.int (0 : Int32)), .unset] [(.int (0 : Int32)), (.ref b57)])) _
    exact k
  obtain ⟨cl67, Ar67, q67, S67, M67, H67, G67⟩ := id Ob57_0
  have hin67 : ¬ ((0 : Int32) < 0 ∨ cl67.slots.size ≤ ((0 : Int32)).toNatClampNeg) := inb_of S67 ⟨by decide, by decide⟩
  have hat67 : cl67.slots[((0 : Int32)).toNatClampNeg]? = some (.ref s_COLLECTIONS) := H67.at hin67 rfl
  have pre68 : ∀ t, Steps p.tables e below (T57.setTop (mkF m 28 #[.val (.int p0), .val (.ref s_EMPTY), .val (.ref b57), .val (.int (1 : Int32)), .val (.int (0 : Int32)), .val (.ref s_COLLECTIONS)] [(.ref s_COLLECTIONS)])) t → Steps p.tables e below (s₁.setTop (entryFrame m #[(.int p0)] 6)) t := by
    intro t k
    refine pre66 t ?_
    show Steps p.tables e below (T57.setTop (mkF m 23 #[.val (.int p0), .val (.ref s_EMPTY), .val (.ref b57), .val (.int (1 : Int32)), .val (.int (0 : Int32)), .unset] [(.int (0 : Int32)), (.ref b57)])) _
    refine X57.aaload hx (j := (0 : Int32)) (v := (.ref s_COLLECTIONS)) (by rw [e57]; exact Ar67.1) (State.isArrayOf_alike hZ.alike Ar67.2.1) rfl Ar67.2.2 hin67 hat67 (g := (mkF m 23 #[.val (.int p0), .val (.ref s_EMPTY), .val (.ref b57), .val (.int (1 : Int32)), .val (.int (0 : Int32)), .unset] [(.int (0 : Int32)), (.ref b57)])) rfl rfl (hb hby d1_23) _ ?_
    show Steps p.tables e below (T57.setTop (mkF m 24 #[.val (.int p0), .val (.ref s_EMPTY), .val (.ref b57), .val (.int (1 : Int32)), .val (.int (0 : Int32)), .unset] [(.ref s_COLLECTIONS)])) _
    refine XS.astore X57.here hx rfl (hb hby d1_24) rfl rfl (l' := #[.val (.int p0), .val (.ref s_EMPTY), .val (.ref b57), .val (.int (1 : Int32)), .val (.int (0 : Int32)), .val (.ref s_COLLECTIONS)]) rfl ?_
    show Steps p.tables e below (T57.setTop (mkF m 26 #[.val (.int p0), .val (.ref s_EMPTY), .val (.ref b57), .val (.int (1 : Int32)), .val (.int (0 : Int32)), .val (.ref s_COLLECTIONS)] [])) _
    refine XS.aload X57.here hx rfl (hb hby d1_26) rfl rfl ?_
    show Steps p.tables e below (T57.setTop (mkF m 28 #[.val (.int p0), .val (.ref s_EMPTY), .val (.ref b57), .val (.int (1 : Int32)), .val (.int (0 : Int32)), .val (.ref s_COLLECTIONS)] [(.ref s_COLLECTIONS)])) _
    exact k
  obtain ⟨T69, X69, e69, st69⟩ := getF X57 hx hZ hown (host := "") (Or.inl (hw _ (List.mem_of_getElem? (i := 25) rfl))) Via.refl e57 Ff61 (g := (mkF m 28 #[.val (.int p0), .val (.ref s_EMPTY), .val (.ref b57), .val (.int (1 : Int32)), .val (.int (0 : Int32)), .val (.ref s_COLLECTIONS)] [(.ref s_COLLECTIONS)])) rfl rfl (hb hby d1_28)
  have pre70 : ∀ t, Steps p.tables e below (T69.setTop (mkF m 31 #[.val (.int p0), .val (.ref s_EMPTY), .val (.ref b57), .val (.int (1 : Int32)), .val (.int (0 : Int32)), .val (.ref s_COLLECTIONS)] [(.int (18 : Int32))])) t → Steps p.tables e below (s₁.setTop (entryFrame m #[(.int p0)] 6)) t := fun t k => pre68 t (st69 t k)
  obtain ⟨fs, hr, hrun, hended, hW, hsame⟩ := X69.leave (v := some (.ref s_EMPTY)) (fun h => by rw [Bd.returns] at h; cases h)
  refine ⟨_, _, pre70 _ ?_, hrun, hended, _, _, rfl, ?_, ⟨_, rfl⟩, hW, hsame.mono (by decide) (by decide)⟩
  · show Steps p.tables e below (T69.setTop (mkF m 31 #[.val (.int p0), .val (.ref s_EMPTY), .val (.ref b57), .val (.int (1 : Int32)), .val (.int (0 : Int32)), .val (.ref s_COLLECTIONS)] [(.int (18 : Int32))])) _
    refine XS.iloadN X69.here hx rfl (hb hby d1_31) rfl ?_
    show Steps p.tables e below (T69.setTop (mkF m 32 #[.val (.int p0), .val (.ref s_EMPTY), .val (.ref b57), .val (.int (1 : Int32)), .val (.int (0 : Int32)), .val (.ref s_COLLECTIONS)] [(.int p0), (.int (18 : Int32))])) _
    show Steps p.tables e below (T69.setTop (mkF m 32 #[.val (.int p0), .val (.ref s_EMPTY), .val (.ref b57), .val (.int (1 : Int32)), .val (.int (0 : Int32)), .val (.ref s_COLLECTIONS)] [(.int p0), (.int (18 : Int32))])) _
    refine XS.icmpYes X69.here hx rfl (pc0 := 32) (pc' := 41) rfl (hb hby d1_32) rfl (feq hk32).2 (by decide) (by decide) ?_
    show Steps p.tables e below (T69.setTop (mkF m 41 #[.val (.int p0), .val (.ref s_EMPTY), .val (.ref b57), .val (.int (1 : Int32)), .val (.int (0 : Int32)), .val (.ref s_COLLECTIONS)] [])) _
    refine XS.iinc X69.here hx rfl (hb hby d1_41) rfl (l' := #[.val (.int p0), .val (.ref s_EMPTY), .val (.ref b57), .val (.int (1 : Int32)), .val (.int (1 : Int32)), .val (.ref s_COLLECTIONS)]) rfl ?_
    show Steps p.tables e below (T69.setTop (mkF m 44 #[.val (.int p0), .val (.ref s_EMPTY), .val (.ref b57), .val (.int (1 : Int32)), .val (.int (1 : Int32)), .val (.ref s_COLLECTIONS)] [])) _
    refine XS.goto X69.here hx rfl (pc0 := 44) (pc' := 14) rfl (hb hby d1_44) (by decide) (by decide) ?_
    show Steps p.tables e below (T69.setTop (mkF m 14 #[.val (.int p0), .val (.ref s_EMPTY), .val (.ref b57), .val (.int (1 : Int32)), .val (.int (1 : Int32)), .val (.ref s_COLLECTIONS)] [])) _
    refine XS.iload X69.here hx rfl (hb hby d1_14) rfl ?_
    show Steps p.tables e below (T69.setTop (mkF m 16 #[.val (.int p0), .val (.ref s_EMPTY), .val (.ref b57), .val (.int (1 : Int32)), .val (.int (1 : Int32)), .val (.ref s_COLLECTIONS)] [(.int (1 : Int32))])) _
    refine XS.iloadN X69.here hx rfl (hb hby d1_16) rfl ?_
    show Steps p.tables e below (T69.setTop (mkF m 17 #[.val (.int p0), .val (.ref s_EMPTY), .val (.ref b57), .val (.int (1 : Int32)), .val (.int (1 : Int32)), .val (.ref s_COLLECTIONS)] [(.int (1 : Int32)), (.int (1 : Int32))])) _
    show Steps p.tables e below (T69.setTop (mkF m 17 #[.val (.int p0), .val (.ref s_EMPTY), .val (.ref b57), .val (.int (1 : Int32)), .val (.int (1 : Int32)), .val (.ref s_COLLECTIONS)] [(.int (1 : Int32)), (.int (1 : Int32))])) _
    refine XS.icmpYes X69.here hx rfl (pc0 := 17) (pc' := 47) rfl (hb hby d1_17) rfl (flt (by decide : ¬ (1 : Int32) < (1 : Int32))).2.1 (by decide) (by decide) ?_
    show Steps p.tables e below (T69.setTop (mkF m 47 #[.val (.int p0), .val (.ref s_EMPTY), .val (.ref b57), .val (.int (1 : Int32)), .val (.int (1 : Int32)), .val (.ref s_COLLECTIONS)] [])) _
    refine XS.aloadN X69.here hx rfl (hb hby d1_47) rfl rfl ?_
    show Steps p.tables e below (T69.setTop (mkF m 48 #[.val (.int p0), .val (.ref s_EMPTY), .val (.ref b57), .val (.int (1 : Int32)), .val (.int (1 : Int32)), .val (.ref s_COLLECTIONS)] [(.ref s_EMPTY)])) _
    exact retOut X69 hx Bd.returns rfl (Or.inr (Or.inr (Or.inr (Or.inr ⟨rfl, rfl, rfl⟩)))) (hb hby d1_48) hr
  · show Q1_n Z p0 s__VALUES k__VALUES s_COLLECTIONS s_EMPTY h0 n0 _ T69.heap _
    rw [e69]
    exact ⟨rfl, N57, K57⟩
theorem d4_0 : decode jdk_32_method_15_code 0 = .ok (.aload_n 0, 1) := by decide +kernel
theorem d4_1 : decode jdk_32_method_15_code 1 = .ok (.getfield 13, 3) := by decide +kernel
theorem d4_4 : decode jdk_32_method_15_code 4 = .ok (.ifnull 10, 3) := by decide +kernel
theorem d4_7 : decode jdk_32_method_15_code 7 = .ok (.aload_n 0, 1) := by decide +kernel
theorem d4_8 : decode jdk_32_method_15_code 8 = .ok (.getfield 13, 3) := by decide +kernel
theorem d4_11 : decode jdk_32_method_15_code 11 = .ok (.goto 4, 3) := by decide +kernel
theorem d4_15 : decode jdk_32_method_15_code 15 = .ok (.areturn, 1) := by decide +kernel
theorem ef_4_y (m : MethodId) (x0 : Addr) : entryFrame m #[(.ref x0), .null] 2 = mkF m 0 #[.val (.ref x0), .val .null] [] := by first | (simp [entryFrame, mkF, argsToLocals, Value.category]; done) | rfl
def Q4_y (Z : State) (a0 : Addr) (r1 : Addr) (h0 : Heap) (n0 : Nat) (v : Option Value) (h : Heap) (L : List Loc) : Prop := v = some (.ref r1) ∧ Fr n0 L ∧ h = h0
set_option maxRecDepth 65536 in
set_option maxHeartbeats 40000000 in
theorem rm4_y (l : Launch) (Z : State) (ar0 : Array Value) (hw : ∀ d ∈ tables_1, d.before ar0 Z = true) (ws : List Jvm.Cond) (a0 : Addr) (r1 : Addr) (h0 : Heap) (n0 : Nat) (Z0 : n0 ≤ h0.size) (F_value_a0 : Fld Z h0 a0 "java/util/Optional" "value" "Ljava/lang/Object;" (.ref r1)) :
    MetFree l (⟨"java/util/Optional", "orElse", "(Ljava/lang/Object;)Ljava/lang/Object;"⟩ : MethodName) (head1 (Jvm.Cond.code (⟨"java/util/Optional", "orElse", "(Ljava/lang/Object;)Ljava/lang/Object;"⟩ : MethodName) jdk_32_method_15_code 2 (some (.object "java/lang/Object")) :: ws) ({ frames := 0, cells := 0, slots := 0, locals := 0 } : Room)) (fun a U => a = #[(.ref a0), .null] ∧ Z.Warmed39 U.vm ∧ U.heap = h0) (fun _ _ _ _ _ => True) (fun _ U o U' => ∃ v L, o = .returned v ∧ Q4_y Z a0 r1 h0 n0 v U'.heap L ∧ FrameEnd U o U' L ({ frames := 0, cells := 0, slots := 0, locals := 0 } : Room).cells ({ frames := 0, cells := 0, slots := 0, locals := 0 } : Room).slots) := by
  refine MetFree.of_bodySF (plainFor_of_name pn_1) hisR ?_
  intro p e s m args below meth c s₁ Bd hml0 hP hK
  obtain ⟨rfl, hZ, hh⟩ := hP
  have hx := Bd.exec
  have hby := Bd.bytes
  have hml : c.maxLocals = 2 := hml0
  have hown : s.vm.findClass "java/util/Optional" = some m.cls := findClass_of_methodNamed Bd.named
  have hnm := (name_of_methodNamed Bd.named Bd.method).1
  have X0 : Stand p l e ({ frames := 0, cells := 0, slots := 0, locals := 0 } : Room) s m #[(.ref a0), .null] below meth c s₁ [] 0 0 := Stand.of_body Bd
  have e0 : s₁.heap = h0 := by rw [← hh, Bd.state]; rfl
  have N0 := Fr.nil n0
  have pre0 : ∀ t, Steps p.tables e below (s₁.setTop (mkF m 0 #[.val (.ref a0), .val .null] [])) t → Steps p.tables e below (s₁.setTop (entryFrame m #[(.ref a0), .null] 2)) t := fun t k => castTop (ef_4_y m a0) k
  have pre71 : ∀ t, Steps p.tables e below (s₁.setTop (mkF m 1 #[.val (.ref a0), .val .null] [(.ref a0)])) t → Steps p.tables e below (s₁.setTop (entryFrame m #[(.ref a0), .null] 2)) t := by
    intro t k
    refine pre0 t ?_
    show Steps p.tables e below (s₁.setTop (mkF m 0 #[.val (.ref a0), .val .null] [])) _
    refine XS.aloadN X0.here hx rfl (hb hby d4_0) rfl rfl ?_
    show Steps p.tables e below (s₁.setTop (mkF m 1 #[.val (.ref a0), .val .null] [(.ref a0)])) _
    exact k
  obtain ⟨T72, X72, e72, st72⟩ := getF X0 hx hZ hown (host := "") (Or.inl (hw _ (List.mem_of_getElem? (i := 32) rfl))) Via.refl e0 F_value_a0 (g := (mkF m 1 #[.val (.ref a0), .val .null] [(.ref a0)])) rfl rfl (hb hby d4_1)
  have pre73 : ∀ t, Steps p.tables e below (T72.setTop (mkF m 4 #[.val (.ref a0), .val .null] [(.ref r1)])) t → Steps p.tables e below (s₁.setTop (entryFrame m #[(.ref a0), .null] 2)) t := fun t k => pre71 t (st72 t k)
  have pre74 : ∀ t, Steps p.tables e below (T72.setTop (mkF m 8 #[.val (.ref a0), .val .null] [(.ref a0)])) t → Steps p.tables e below (s₁.setTop (entryFrame m #[(.ref a0), .null] 2)) t := by
    intro t k
    refine pre73 t ?_
    show Steps p.tables e below (T72.setTop (mkF m 4 #[.val (.ref a0), .val .null] [(.ref r1)])) _
    refine XS.ifnullNo X72.here hx rfl (hb hby d4_4) rfl ?_
    show Steps p.tables e below (T72.setTop (mkF m 7 #[.val (.ref a0), .val .null] [])) _
    refine XS.aloadN X72.here hx rfl (hb hby d4_7) rfl rfl ?_
    show Steps p.tables e below (T72.setTop (mkF m 8 #[.val (.ref a0), .val .null] [(.ref a0)])) _
    exact k
  obtain ⟨T75, X75, e75, st75⟩ := getF X72 hx hZ hown (host := "") (Or.inl (hw _ (List.mem_of_getElem? (i := 32) rfl))) Via.refl e72 F_value_a0 (g := (mkF m 8 #[.val (.ref a0), .val .null] [(.ref a0)])) rfl rfl (hb hby d4_8)
  have pre76 : ∀ t, Steps p.tables e below (T75.setTop (mkF m 11 #[.val (.ref a0), .val .null] [(.ref r1)])) t → Steps p.tables e below (s₁.setTop (entryFrame m #[(.ref a0), .null] 2)) t := fun t k => pre74 t (st75 t k)
  obtain ⟨fs, hr, hrun, hended, hW, hsame⟩ := X75.leave (v := some (.ref r1)) (fun h => by rw [Bd.returns] at h; cases h)
  refine ⟨_, _, pre76 _ ?_, hrun, hended, _, _, rfl, ?_, ⟨_, rfl⟩, hW, hsame.mono (by decide) (by decide)⟩
  · show Steps p.tables e below (T75.setTop (mkF m 11 #[.val (.ref a0), .val .null] [(.ref r1)])) _
    refine XS.goto X75.here hx rfl (pc0 := 11) (pc' := 15) rfl (hb hby d4_11) (by decide) (by decide) ?_
    show Steps p.tables e below (T75.setTop (mkF m 15 #[.val (.ref a0), .val .null] [(.ref r1)])) _
    exact retOut X75 hx Bd.returns rfl (Or.inr (Or.inr (Or.inr (Or.inr ⟨rfl, rfl, rfl⟩)))) (hb hby d4_15) hr
  · show Q4_y Z a0 r1 h0 n0 _ T75.heap _
    rw [e75]
    exact ⟨rfl, N0, rfl⟩
theorem d4_14 : decode jdk_32_method_15_code 14 = .ok (.aload_n 1, 1) := by decide +kernel
theorem ef_4_n (m : MethodId) (x0 : Addr) : entryFrame m #[(.ref x0), .null] 2 = mkF m 0 #[.val (.ref x0), .val .null] [] := by first | (simp [entryFrame, mkF, argsToLocals, Value.category]; done) | rfl
def Q4_n (Z : State) (a0 : Addr) (h0 : Heap) (n0 : Nat) (v : Option Value) (h : Heap) (L : List Loc) : Prop := v = some .null ∧ Fr n0 L ∧ h = h0
set_option maxRecDepth 65536 in
set_option maxHeartbeats 40000000 in
theorem rm4_n (l : Launch) (Z : State) (ar0 : Array Value) (hw : ∀ d ∈ tables_1, d.before ar0 Z = true) (ws : List Jvm.Cond) (a0 : Addr) (h0 : Heap) (n0 : Nat) (Z0 : n0 ≤ h0.size) (F_value_a0 : Fld Z h0 a0 "java/util/Optional" "value" "Ljava/lang/Object;" .null) :
    MetFree l (⟨"java/util/Optional", "orElse", "(Ljava/lang/Object;)Ljava/lang/Object;"⟩ : MethodName) (head1 (Jvm.Cond.code (⟨"java/util/Optional", "orElse", "(Ljava/lang/Object;)Ljava/lang/Object;"⟩ : MethodName) jdk_32_method_15_code 2 (some (.object "java/lang/Object")) :: ws) ({ frames := 0, cells := 0, slots := 0, locals := 0 } : Room)) (fun a U => a = #[(.ref a0), .null] ∧ Z.Warmed39 U.vm ∧ U.heap = h0) (fun _ _ _ _ _ => True) (fun _ U o U' => ∃ v L, o = .returned v ∧ Q4_n Z a0 h0 n0 v U'.heap L ∧ FrameEnd U o U' L ({ frames := 0, cells := 0, slots := 0, locals := 0 } : Room).cells ({ frames := 0, cells := 0, slots := 0, locals := 0 } : Room).slots) := by
  refine MetFree.of_bodySF (plainFor_of_name pn_1) hisR ?_
  intro p e s m args below meth c s₁ Bd hml0 hP hK
  obtain ⟨rfl, hZ, hh⟩ := hP
  have hx := Bd.exec
  have hby := Bd.bytes
  have hml : c.maxLocals = 2 := hml0
  have hown : s.vm.findClass "java/util/Optional" = some m.cls := findClass_of_methodNamed Bd.named
  have hnm := (name_of_methodNamed Bd.named Bd.method).1
  have X0 : Stand p l e ({ frames := 0, cells := 0, slots := 0, locals := 0 } : Room) s m #[(.ref a0), .null] below meth c s₁ [] 0 0 := Stand.of_body Bd
  have e0 : s₁.heap = h0 := by rw [← hh, Bd.state]; rfl
  have N0 := Fr.nil n0
  have pre0 : ∀ t, Steps p.tables e below (s₁.setTop (mkF m 0 #[.val (.ref a0), .val .null] [])) t → Steps p.tables e below (s₁.setTop (entryFrame m #[(.ref a0), .null] 2)) t := fun t k => castTop (ef_4_n m a0) k
  have pre77 : ∀ t, Steps p.tables e below (s₁.setTop (mkF m 1 #[.val (.ref a0), .val .null] [(.ref a0)])) t → Steps p.tables e below (s₁.setTop (entryFrame m #[(.ref a0), .null] 2)) t := by
    intro t k
    refine pre0 t ?_
    show Steps p.tables e below (s₁.setTop (mkF m 0 #[.val (.ref a0), .val .null] [])) _
    refine XS.aloadN X0.here hx rfl (hb hby d4_0) rfl rfl ?_
    show Steps p.tables e below (s₁.setTop (mkF m 1 #[.val (.ref a0), .val .null] [(.ref a0)])) _
    exact k
  obtain ⟨T78, X78, e78, st78⟩ := getF X0 hx hZ hown (host := "") (Or.inl (hw _ (List.mem_of_getElem? (i := 32) rfl))) Via.refl e0 F_value_a0 (g := (mkF m 1 #[.val (.ref a0), .val .null] [(.ref a0)])) rfl rfl (hb hby d4_1)
  have pre79 : ∀ t, Steps p.tables e below (T78.setTop (mkF m 4 #[.val (.ref a0), .val .null] [.null])) t → Steps p.tables e below (s₁.setTop (entryFrame m #[(.ref a0), .null] 2)) t := fun t k => pre77 t (st78 t k)
  obtain ⟨fs, hr, hrun, hended, hW, hsame⟩ := X78.leave (v := some .null) (fun h => by rw [Bd.returns] at h; cases h)
  refine ⟨_, _, pre79 _ ?_, hrun, hended, _, _, rfl, ?_, ⟨_, rfl⟩, hW, hsame.mono (by decide) (by decide)⟩
  · show Steps p.tables e below (T78.setTop (mkF m 4 #[.val (.ref a0), .val .null] [.null])) _
    refine XS.ifnullYes X78.here hx rfl (pc0 := 4) (pc' := 14) rfl (hb hby d4_4) rfl (by decide) (by decide) ?_
    show Steps p.tables e below (T78.setTop (mkF m 14 #[.val (.ref a0), .val .null] [])) _
    refine XS.aloadN X78.here hx rfl (hb hby d4_14) rfl rfl ?_
    show Steps p.tables e below (T78.setTop (mkF m 15 #[.val (.ref a0), .val .null] [.null])) _
    exact retOut X78 hx Bd.returns rfl (Or.inr (Or.inr (Or.inr (Or.inr ⟨rfl, rfl, rfl⟩)))) (hb hby d4_15) hr
  · show Q4_n Z a0 h0 n0 _ T78.heap _
    rw [e78]
    exact ⟨rfl, N0, rfl⟩
theorem own_eqI {a : Term} {k : Int32} {args : Array Value} {first s : State} {o : Option Outcome} {idx : List Nat} (h : (Cond.eq a (.int k)).value args first o s idx = some true) : a.eval args first o idx s = some (.int k) := by
  simp only [Cond.value, Term.eval] at h
  cases ha : a.eval args first o idx s with
  | none => simp [ha] at h
  | some x => cases x <;> simp [ha] at h ⊢; exact h
theorem own_eqJ {a : Term} {k : Int64} {args : Array Value} {first s : State} {o : Option Outcome} {idx : List Nat} (h : (Cond.eq a (.long k)).value args first o s idx = some true) : a.eval args first o idx s = some (.long k) := by
  simp only [Cond.value, Term.eval] at h
  cases ha : a.eval args first o idx s with
  | none => simp [ha] at h
  | some x => cases x <;> simp [ha] at h ⊢; exact h
theorem own_len {args : Array Value} {s : State} {t : Term} {a : Addr} {cl : Cell} {n : Int32} (ht : t.eval args s none [] s = some (.ref a)) (hc : s.arrayAt? a = some cl) (h : (Term.length t).eval args s none [] s = some (.int n)) : cl.slots.size < 2 ^ 31 ∧ cl.slots.size.toInt32 = n := by
  simp only [Term.eval, ht, hc, Option.bind_eq_bind, Option.bind_some] at h
  split at h
  · rename_i q; exact ⟨q, by simpa using h⟩
  · cases h
theorem own_sizeN {n : Nat} {k : Int32} (h : n < 2 ^ 31) (e : n.toInt32 = k) : n = k.toNatClampNeg := by
  have q : (n : Int) = k.toInt := by rw [← e]; exact (Int32.toInt_ofNat_of_lt h).symm
  show n = k.toInt.toNat
  omega
theorem own_exa_at {args : Array Value} {s : State} {idx : List Nat} {t : Term} {C : String} {b : Addr} (h : (Cond.exactly t C).value args s none s idx = some true) (e : t.eval args s none idx s = some (.ref b)) : Exa s s.heap b C := by
  obtain ⟨a', c', cell, k, e1, e2, e3, e4, e5, e6, e7⟩ := Cond.exactly_spec (show (Cond.exactly t C).holds args s none s idx = true from beq_iff_eq.mpr h)
  cases e.symm.trans e1
  exact ⟨cell, k, e3, by rw [e6]; exact e2, by rw [e6]; exact e4, e5, e7⟩
theorem own_index {args : Array Value} {s : State} {j : Int32} (h : ¬ j < 0) : (Term.index 0).eval args s none [j.toNatClampNeg] s = some (.int j) := by
  have q := back32 h
  simp [Term.eval, q.1, q.2]
theorem own_elR {args : Array Value} {s : State} {T t2 : Term} {a b : Addr} {cl : Cell} {ty : FieldType} {j : Int32} (A : Arr s s.heap a cl ty) (ha : T.eval args s none [] s = some (.ref a)) (hb : t2.eval args s none [] s = some (.ref b)) (h : (Cond.eq (.elem T (.int j)) t2).value args s none s [] = some true) : cl.slots[j.toNatClampNeg]? = some (.ref b) := by
  obtain ⟨x, y, e1, e2, k1, -⟩ := cmp_v (Or.inl h)
  cases hb.symm.trans e2
  obtain ⟨c', c1, -, c3⟩ := elem_at e1 ha rfl
  cases A.1.symm.trans c1
  rw [c3]
  have hx : x.isRef = true := by cases x <;> simp [Kin, Value.isRef] at k1 ⊢
  have q := gotT (eq_R e1 hb hx rfl) h
  rw [q]

theorem pd_5 : parseMethodDescriptor "(I)Ljava/util/Optional;" = some ⟨[.int], some (.object "java/util/Optional")⟩ := by decide +kernel
theorem pn_3 : plainName "com/example/keyed_collections/keyedcollections/protocol/FeatureOfPinLaw" = true := by first | (simp [plainName, overriddenIn]; done) | decide +kernel
theorem ef_0 (m : MethodId) (x0 : Int32) (x1 : Int32) : entryFrame m #[(.int x0), (.int x1)] maxLocals = mkF m 0 #[.val (.int x0), .val (.int x1), .unset, .unset, .unset] [] := by first | (simp [entryFrame, mkF, argsToLocals, Value.category, maxLocals]; done) | rfl
def Q0 (Z : State) (p0 : Int32) (p1 : Int32) (s__VALUES : Addr) (k__VALUES : ClassId) (s_COLLECTIONS : Addr) (s_EMPTY : Addr) (h0 : Heap) (n0 : Nat) (v : Option Value) (h : Heap) (L : List Loc) : Prop := v = some (.int 1) ∧ Fr n0 L
set_option maxRecDepth 65536 in
set_option maxHeartbeats 40000000 in
theorem rm0 (l : Launch) (Z : State) (ar0 : Array Value) (hw : ∀ d ∈ tables_1, d.before ar0 Z = true) (ws : List Jvm.Cond) (p0 : Int32) (p1 : Int32) (s__VALUES : Addr) (k__VALUES : ClassId) (s_COLLECTIONS : Addr) (s_EMPTY : Addr) (h0 : Heap) (n0 : Nat) (Z0 : n0 ≤ h0.size) (S__VALUES : Sta Z h0 "com/example/keyed_collections/keyedcollections/protocol/Feature" "$VALUES" "[Lcom/example/keyed_collections/keyedcollections/protocol/Feature;" (.ref s__VALUES)) (V_s__VALUES : Arv Z h0 s__VALUES k__VALUES (.object "com/example/keyed_collections/keyedcollections/protocol/Feature") (1 : Int32) [(.ref s_COLLECTIONS)] .null) (E_s__VALUES : Exa Z h0 s__VALUES "[Lcom/example/keyed_collections/keyedcollections/protocol/Feature;") (E_s_COLLECTIONS : Exa Z h0 s_COLLECTIONS "com/example/keyed_collections/keyedcollections/protocol/Feature") (S_EMPTY : Sta Z h0 "java/util/Optional" "EMPTY" "Ljava/util/Optional;" (.ref s_EMPTY)) (E_s_EMPTY : Exa Z h0 s_EMPTY "java/util/Optional") (F_value_s_EMPTY : Fld Z h0 s_EMPTY "java/util/Optional" "value" "Ljava/lang/Object;" .null) (S_COLLECTIONS : Sta Z h0 "com/example/keyed_collections/keyedcollections/protocol/Feature" "COLLECTIONS" "Lcom/example/keyed_collections/keyedcollections/protocol/Feature;" (.ref s_COLLECTIONS)) (F_code_s_COLLECTIONS : Fld Z h0 s_COLLECTIONS "com/example/keyed_collections/keyedcollections/protocol/Feature" "code" "I" (.int (18 : Int32))) :
    MetFree l x (head1 (Jvm.Cond.code x code maxLocals ret :: ws) room_1) (fun a U => a = #[(.int p0), (.int p1)] ∧ Z.Warmed39 U.vm ∧ U.heap = h0) (fun _ _ _ _ _ => True) (fun _ U o U' => ∃ v L, o = .returned v ∧ Q0 Z p0 p1 s__VALUES k__VALUES s_COLLECTIONS s_EMPTY h0 n0 v U'.heap L ∧ FrameEnd U o U' L room_1.cells room_1.slots) := by
  refine MetFree.of_bodySF (plainFor_of_name pn_3) hisR ?_
  intro p e s m args below meth c s₁ Bd hml0 hP hK
  obtain ⟨rfl, hZ, hh⟩ := hP
  have hx := Bd.exec
  have hby := Bd.bytes
  have hml : c.maxLocals = 5 := hml0
  have hown : s.vm.findClass "com/example/keyed_collections/keyedcollections/protocol/FeatureOfPinLaw" = some m.cls := findClass_of_methodNamed Bd.named
  have hnm := (name_of_methodNamed Bd.named Bd.method).1
  have X0 : Stand p l e room_1 s m #[(.int p0), (.int p1)] below meth c s₁ [] 0 0 := Stand.of_body Bd
  have e0 : s₁.heap = h0 := by rw [← hh, Bd.state]; rfl
  have N0 := Fr.nil n0
  have pre0 : ∀ t, Steps p.tables e below (s₁.setTop (mkF m 0 #[.val (.int p0), .val (.int p1), .unset, .unset, .unset] [])) t → Steps p.tables e below (s₁.setTop (entryFrame m #[(.int p0), (.int p1)] maxLocals)) t := fun t k => castTop (ef_0 m p0 p1) k
  have pre80 : ∀ t, Steps p.tables e below (s₁.setTop (mkF m 3 #[.val (.int p0), .val (.int p1), .unset, .unset, .unset] [(.int (p1 &&& (1 : Int32)))])) t → Steps p.tables e below (s₁.setTop (entryFrame m #[(.int p0), (.int p1)] maxLocals)) t := by
    intro t k
    refine pre0 t ?_
    show Steps p.tables e below (s₁.setTop (mkF m 0 #[.val (.int p0), .val (.int p1), .unset, .unset, .unset] [])) _
    refine XS.iloadN X0.here hx rfl (hb hby at_0) rfl ?_
    show Steps p.tables e below (s₁.setTop (mkF m 1 #[.val (.int p0), .val (.int p1), .unset, .unset, .unset] [(.int p1)])) _
    refine XS.iconst X0.here hx rfl (hb hby at_1) ?_
    show Steps p.tables e below (s₁.setTop (mkF m 2 #[.val (.int p0), .val (.int p1), .unset, .unset, .unset] [(.int (1 : Int32)), (.int p1)])) _
    refine XS.iand X0.here hx rfl (hb hby at_2) rfl ?_
    show Steps p.tables e below (s₁.setTop (mkF m 3 #[.val (.int p0), .val (.int p1), .unset, .unset, .unset] [(.int (p1 &&& (1 : Int32)))])) _
    exact k
  obtain ⟨v84, pre85, hv84⟩ : ∃ (v84 : Int32), (∀ t, Steps p.tables e below (s₁.setTop (mkF m 18 #[.val (.int p0), .val (.int p1), .unset, .unset, .unset] [(.int v84)])) t → Steps p.tables e below (s₁.setTop (entryFrame m #[(.int p0), (.int p1)] maxLocals)) t) ∧ v84 = (if (p1 &&& (1 : Int32)) = (0 : Int32) then p0 else ((16 : Int32) + (((p1.toUInt32 >>> ((1 : Int32) &&& 31).toUInt32).toInt32) &&& (3 : Int32)))) := by
    by_cases hc3_81 : (p1 &&& (1 : Int32)) = (0 : Int32)
    · have pre82 : ∀ t, Steps p.tables e below (s₁.setTop (mkF m 18 #[.val (.int p0), .val (.int p1), .unset, .unset, .unset] [(.int p0)])) t → Steps p.tables e below (s₁.setTop (entryFrame m #[(.int p0), (.int p1)] maxLocals)) t := by
        intro t k
        refine pre80 t ?_
        show Steps p.tables e below (s₁.setTop (mkF m 3 #[.val (.int p0), .val (.int p1), .unset, .unset, .unset] [(.int (p1 &&& (1 : Int32)))])) _
        refine XS.ifYes X0.here hx rfl (pc0 := 3) (pc' := 17) rfl (hb hby at_3) rfl ((if0 _ _).trans (teq hc3_81).1) (by decide) (by decide) ?_
        show Steps p.tables e below (s₁.setTop (mkF m 17 #[.val (.int p0), .val (.int p1), .unset, .unset, .unset] [])) _
        refine XS.iloadN X0.here hx rfl (hb hby at_17) rfl ?_
        show Steps p.tables e below (s₁.setTop (mkF m 18 #[.val (.int p0), .val (.int p1), .unset, .unset, .unset] [(.int p0)])) _
        exact k
      exact ⟨p0, pre82, by rw [if_pos hc3_81]⟩
    · have pre83 : ∀ t, Steps p.tables e below (s₁.setTop (mkF m 18 #[.val (.int p0), .val (.int p1), .unset, .unset, .unset] [(.int ((16 : Int32) + (((p1.toUInt32 >>> ((1 : Int32) &&& 31).toUInt32).toInt32) &&& (3 : Int32))))])) t → Steps p.tables e below (s₁.setTop (entryFrame m #[(.int p0), (.int p1)] maxLocals)) t := by
        intro t k
        refine pre80 t ?_
        show Steps p.tables e below (s₁.setTop (mkF m 3 #[.val (.int p0), .val (.int p1), .unset, .unset, .unset] [(.int (p1 &&& (1 : Int32)))])) _
        refine XS.ifNo X0.here hx rfl (hb hby at_3) rfl ((if0 _ _).trans (feq hc3_81).1) ?_
        show Steps p.tables e below (s₁.setTop (mkF m 6 #[.val (.int p0), .val (.int p1), .unset, .unset, .unset] [])) _
        refine XS.bipush X0.here hx rfl (hb hby at_6) ?_
        show Steps p.tables e below (s₁.setTop (mkF m 8 #[.val (.int p0), .val (.int p1), .unset, .unset, .unset] [(.int (16 : Int32))])) _
        refine XS.iloadN X0.here hx rfl (hb hby at_8) rfl ?_
        show Steps p.tables e below (s₁.setTop (mkF m 9 #[.val (.int p0), .val (.int p1), .unset, .unset, .unset] [(.int p1), (.int (16 : Int32))])) _
        refine XS.iconst X0.here hx rfl (hb hby at_9) ?_
        show Steps p.tables e below (s₁.setTop (mkF m 10 #[.val (.int p0), .val (.int p1), .unset, .unset, .unset] [(.int (1 : Int32)), (.int p1), (.int (16 : Int32))])) _
        refine XS.iushr X0.here hx rfl (hb hby at_10) rfl ?_
        show Steps p.tables e below (s₁.setTop (mkF m 11 #[.val (.int p0), .val (.int p1), .unset, .unset, .unset] [(.int ((p1.toUInt32 >>> ((1 : Int32) &&& 31).toUInt32).toInt32)), (.int (16 : Int32))])) _
        refine XS.iconst X0.here hx rfl (hb hby at_11) ?_
        show Steps p.tables e below (s₁.setTop (mkF m 12 #[.val (.int p0), .val (.int p1), .unset, .unset, .unset] [(.int (3 : Int32)), (.int ((p1.toUInt32 >>> ((1 : Int32) &&& 31).toUInt32).toInt32)), (.int (16 : Int32))])) _
        refine XS.iand X0.here hx rfl (hb hby at_12) rfl ?_
        show Steps p.tables e below (s₁.setTop (mkF m 13 #[.val (.int p0), .val (.int p1), .unset, .unset, .unset] [(.int (((p1.toUInt32 >>> ((1 : Int32) &&& 31).toUInt32).toInt32) &&& (3 : Int32))), (.int (16 : Int32))])) _
        refine XS.iadd X0.here hx rfl (hb hby at_13) rfl ?_
        show Steps p.tables e below (s₁.setTop (mkF m 14 #[.val (.int p0), .val (.int p1), .unset, .unset, .unset] [(.int ((16 : Int32) + (((p1.toUInt32 >>> ((1 : Int32) &&& 31).toUInt32).toInt32) &&& (3 : Int32))))])) _
        refine XS.goto X0.here hx rfl (pc0 := 14) (pc' := 18) rfl (hb hby at_14) (by decide) (by decide) ?_
        show Steps p.tables e below (s₁.setTop (mkF m 18 #[.val (.int p0), .val (.int p1), .unset, .unset, .unset] [(.int ((16 : Int32) + (((p1.toUInt32 >>> ((1 : Int32) &&& 31).toUInt32).toInt32) &&& (3 : Int32))))])) _
        exact k
      exact ⟨((16 : Int32) + (((p1.toUInt32 >>> ((1 : Int32) &&& 31).toUInt32).toInt32) &&& (3 : Int32))), pre83, by rw [if_neg hc3_81]⟩
  have pre86 : ∀ t, Steps p.tables e below (s₁.setTop (mkF m 22 #[.val (.int p0), .val (.int p1), .val (.int v84), .unset, .unset] [(.int (18 : Int32)), (.int v84)])) t → Steps p.tables e below (s₁.setTop (entryFrame m #[(.int p0), (.int p1)] maxLocals)) t := by
    intro t k
    refine pre85 t ?_
    show Steps p.tables e below (s₁.setTop (mkF m 18 #[.val (.int p0), .val (.int p1), .unset, .unset, .unset] [(.int v84)])) _
    refine XS.istoreN X0.here hx rfl (hb hby at_18) rfl (l' := #[.val (.int p0), .val (.int p1), .val (.int v84), .unset, .unset]) rfl ?_
    show Steps p.tables e below (s₁.setTop (mkF m 19 #[.val (.int p0), .val (.int p1), .val (.int v84), .unset, .unset] [])) _
    refine XS.iloadN X0.here hx rfl (hb hby at_19) rfl ?_
    show Steps p.tables e below (s₁.setTop (mkF m 20 #[.val (.int p0), .val (.int p1), .val (.int v84), .unset, .unset] [(.int v84)])) _
    refine XS.bipush X0.here hx rfl (hb hby at_20) ?_
    show Steps p.tables e below (s₁.setTop (mkF m 22 #[.val (.int p0), .val (.int p1), .val (.int v84), .unset, .unset] [(.int (18 : Int32)), (.int v84)])) _
    exact k
  by_cases hc22_87 : v84 = (18 : Int32)
  · have pre88 : ∀ t, Steps p.tables e below (s₁.setTop (mkF m 25 #[.val (.int p0), .val (.int p1), .val (.int v84), .unset, .unset] [])) t → Steps p.tables e below (s₁.setTop (entryFrame m #[(.int p0), (.int p1)] maxLocals)) t := by
      intro t k
      refine pre86 t ?_
      show Steps p.tables e below (s₁.setTop (mkF m 22 #[.val (.int p0), .val (.int p1), .val (.int v84), .unset, .unset] [(.int (18 : Int32)), (.int v84)])) _
      refine XS.icmpNo X0.here hx rfl (hb hby at_22) rfl (teq hc22_87).2 ?_
      show Steps p.tables e below (s₁.setTop (mkF m 25 #[.val (.int p0), .val (.int p1), .val (.int v84), .unset, .unset] [])) _
      exact k
    obtain ⟨T89, X89, e89, st89⟩ := getS2 X0 hx hZ hown (host := "") (Or.inl (hw _ (List.mem_of_getElem? (i := 34) rfl))) Via.refl e0 S_COLLECTIONS (g := (mkF m 25 #[.val (.int p0), .val (.int p1), .val (.int v84), .unset, .unset] [])) rfl (hb hby at_25)
    have pre90 : ∀ t, Steps p.tables e below (T89.setTop (mkF m 28 #[.val (.int p0), .val (.int p1), .val (.int v84), .unset, .unset] [(.ref s_COLLECTIONS)])) t → Steps p.tables e below (s₁.setTop (entryFrame m #[(.int p0), (.int p1)] maxLocals)) t := fun t k => pre88 t (st89 t k)
    have pre91 : ∀ t, Steps p.tables e below (T89.setTop (mkF m 34 #[.val (.int p0), .val (.int p1), .val (.int v84), .val (.ref s_COLLECTIONS), .unset] [(.int v84)])) t → Steps p.tables e below (s₁.setTop (entryFrame m #[(.int p0), (.int p1)] maxLocals)) t := by
      intro t k
      refine pre90 t ?_
      show Steps p.tables e below (T89.setTop (mkF m 28 #[.val (.int p0), .val (.int p1), .val (.int v84), .unset, .unset] [(.ref s_COLLECTIONS)])) _
      refine XS.goto X89.here hx rfl (pc0 := 28) (pc' := 32) rfl (hb hby at_28) (by decide) (by decide) ?_
      show Steps p.tables e below (T89.setTop (mkF m 32 #[.val (.int p0), .val (.int p1), .val (.int v84), .unset, .unset] [(.ref s_COLLECTIONS)])) _
      refine XS.astoreN X89.here hx rfl (hb hby at_32) rfl rfl (l' := #[.val (.int p0), .val (.int p1), .val (.int v84), .val (.ref s_COLLECTIONS), .unset]) rfl ?_
      show Steps p.tables e below (T89.setTop (mkF m 33 #[.val (.int p0), .val (.int p1), .val (.int v84), .val (.ref s_COLLECTIONS), .unset] [])) _
      refine XS.iloadN X89.here hx rfl (hb hby at_33) rfl ?_
      show Steps p.tables e below (T89.setTop (mkF m 34 #[.val (.int p0), .val (.int p1), .val (.int v84), .val (.ref s_COLLECTIONS), .unset] [(.int v84)])) _
      exact k
    obtain ⟨_, _, ⟨T92, L92, k92, n92⟩, -, X92, ⟨Lc92, hQ92, l92, y92, z92⟩, st92⟩ := Jvm.LawKit.callS X89 hx (y := (⟨"com/example/keyed_collections/keyedcollections/protocol/Feature", "of", "(I)Ljava/util/Optional;"⟩ : MethodName)) hown (mvT hZ (hw _ (List.mem_of_getElem? (i := 0) rfl))) (mvT hZ (hw _ (List.mem_of_getElem? (i := 1) rfl))) (mvT hZ (hw _ (List.mem_of_getElem? (i := 2) rfl))) (mvT hZ (hw _ (List.mem_of_getElem? (i := 3) rfl))) (by decide) (backOf (W := 0) (rm1_y l Z ar0 hw [] v84 s__VALUES k__VALUES s_COLLECTIONS s_EMPTY h0 n0 Z0 S__VALUES V_s__VALUES E_s__VALUES F_code_s_COLLECTIONS S_EMPTY hc22_87.symm) hZ (hw _ (List.mem_of_getElem? (i := 3) rfl)) (hw _ (List.mem_of_getElem? (i := 2) rfl)) (by decide) (by decide)) (g := (mkF m 34 #[.val (.int p0), .val (.int p1), .val (.int v84), .val (.ref s_COLLECTIONS), .unset] [(.int v84)])) rfl (by rw [hml]; rfl) (argsL := [(.int v84)]) (rest := []) (lenOf pd_5 rfl) rfl (by show 2 * 0 + _ ≤ _; exact Nat.le_of_eq rfl) (hb hby at_34) (fun _ _ => ⟨rfl, e89, (by decide : 0 + 2 ≤ _), (by decide : 0 + 2 ≤ _)⟩)
    dsimp only [Pt.U, Pt.locs, Pt.cells, Pt.slots] at X92 l92 y92 z92 st92 hQ92
    subst l92 y92 z92
    obtain ⟨h92, e92⟩ : ∃ h, T92.heap = h := ⟨_, rfl⟩
    rw [e92] at hQ92
    obtain ⟨b92, rfl, N92q, K92q, y_b92, Ob92_0, Ob92_1⟩ := hQ92
    have N92 := Fr.app N0 N92q
    have ne_s__VALUES_b92 : s__VALUES ≠ b92 := Nat.ne_of_lt (Nat.lt_of_lt_of_le (V_s__VALUES).lt y_b92)
    have ne_s_COLLECTIONS_b92 : s_COLLECTIONS ≠ b92 := Nat.ne_of_lt (Nat.lt_of_lt_of_le (E_s_COLLECTIONS).lt y_b92)
    have ne_s_EMPTY_b92 : s_EMPTY ≠ b92 := Nat.ne_of_lt (Nat.lt_of_lt_of_le (E_s_EMPTY).lt y_b92)
    have g_b92 : n0 ≤ b92 := Nat.le_trans Z0 y_b92
    have sz_b92 : h0.size ≤ b92 := Nat.le_trans (Keep.refl h0 []).1 y_b92
    have Z92 : n0 ≤ h92.size := Nat.le_trans Z0 K92q.1
    have K92 : Keep h0 h92 [] := (Keep.refl h0 []).trans K92q (fun x hx => absurd hx List.not_mem_nil)
    have Sf93 : Sta Z h92 "com/example/keyed_collections/keyedcollections/protocol/Feature" "$VALUES" "[Lcom/example/keyed_collections/keyedcollections/protocol/Feature;" (.ref s__VALUES) := own_sta_keep0 S__VALUES K92q
    have Vf94 : Arv Z h92 s__VALUES k__VALUES (.object "com/example/keyed_collections/keyedcollections/protocol/Feature") (1 : Int32) [(.ref s_COLLECTIONS)] .null := (V_s__VALUES).keep K92q List.not_mem_nil
    have Ef95 : Exa Z h92 s__VALUES "[Lcom/example/keyed_collections/keyedcollections/protocol/Feature;" := (E_s__VALUES).keep K92q
    have Ef96 : Exa Z h92 s_COLLECTIONS "com/example/keyed_collections/keyedcollections/protocol/Feature" := (E_s_COLLECTIONS).keep K92q
    have Sf97 : Sta Z h92 "java/util/Optional" "EMPTY" "Ljava/util/Optional;" (.ref s_EMPTY) := own_sta_keep0 S_EMPTY K92q
    have Ef98 : Exa Z h92 s_EMPTY "java/util/Optional" := (E_s_EMPTY).keep K92q
    have Ff99 : Fld Z h92 s_EMPTY "java/util/Optional" "value" "Ljava/lang/Object;" .null := (F_value_s_EMPTY).keep K92q List.not_mem_nil
    have Sf100 : Sta Z h92 "com/example/keyed_collections/keyedcollections/protocol/Feature" "COLLECTIONS" "Lcom/example/keyed_collections/keyedcollections/protocol/Feature;" (.ref s_COLLECTIONS) := own_sta_keep0 S_COLLECTIONS K92q
    have Ff101 : Fld Z h92 s_COLLECTIONS "com/example/keyed_collections/keyedcollections/protocol/Feature" "code" "I" (.int (18 : Int32)) := (F_code_s_COLLECTIONS).keep K92q List.not_mem_nil
    have pre102 : ∀ t, Steps p.tables e below (T92.setTop (mkF m 37 #[.val (.int p0), .val (.int p1), .val (.int v84), .val (.ref s_COLLECTIONS), .unset] [(.ref b92)])) t → Steps p.tables e below (s₁.setTop (entryFrame m #[(.int p0), (.int p1)] maxLocals)) t := fun t k => pre91 t (st92 t k)
    have pre103 : ∀ t, Steps p.tables e below (T92.setTop (mkF m 38 #[.val (.int p0), .val (.int p1), .val (.int v84), .val (.ref s_COLLECTIONS), .unset] [.null, (.ref b92)])) t → Steps p.tables e below (s₁.setTop (entryFrame m #[(.int p0), (.int p1)] maxLocals)) t := by
      intro t k
      refine pre102 t ?_
      show Steps p.tables e below (T92.setTop (mkF m 37 #[.val (.int p0), .val (.int p1), .val (.int v84), .val (.ref s_COLLECTIONS), .unset] [(.ref b92)])) _
      refine XS.aconstNull X92.here hx rfl (hb hby at_37) ?_
      show Steps p.tables e below (T92.setTop (mkF m 38 #[.val (.int p0), .val (.int p1), .val (.int v84), .val (.ref s_COLLECTIONS), .unset] [.null, (.ref b92)])) _
      exact k
    obtain ⟨cq104, kq104, q104a, q104b, q104c⟩ := isOf hZ e92 Ob92_0
    obtain ⟨_, _, ⟨T104, L104, k104, n104⟩, -, X104, ⟨Lc104, hQ104, l104, y104, z104⟩, st104⟩ := X92.virtualBack hx (y := (⟨"java/util/Optional", "orElse", "(Ljava/lang/Object;)Ljava/lang/Object;"⟩ : MethodName)) (z := (⟨"java/util/Optional", "orElse", "(Ljava/lang/Object;)Ljava/lang/Object;"⟩ : MethodName)) hown (mvT hZ (hw _ (List.mem_of_getElem? (i := 27) rfl))) (mvT hZ (hw _ (List.mem_of_getElem? (i := 28) rfl))) (notFace_of_selects (args := #[]) (mvT hZ (hw _ (List.mem_of_getElem? (i := 30) rfl)))) (mvT hZ (hw _ (List.mem_of_getElem? (i := 30) rfl))) (mvT hZ (hw _ (List.mem_of_getElem? (i := 29) rfl))) (by decide) (backOf (W := 0) (rm4_y l Z ar0 hw [] b92 s_COLLECTIONS h92 n0 Z92 Ob92_1) hZ (hw _ (List.mem_of_getElem? (i := 31) rfl)) (hw _ (List.mem_of_getElem? (i := 6) rfl)) (by decide) (by decide)) q104a q104c (g := (mkF m 38 #[.val (.int p0), .val (.int p1), .val (.int v84), .val (.ref s_COLLECTIONS), .unset] [.null, (.ref b92)])) rfl (by rw [hml]; rfl) (Steps.refl _) (argsL := [.null]) (rest := []) (lenOf pd_0 rfl) rfl (by show 2 * 0 + _ ≤ _; exact Nat.le_of_eq rfl) (hb hby at_38) (fun _ _ => ⟨rfl, e92, (by decide : 2 + 0 ≤ _), (by decide : 2 + 0 ≤ _)⟩)
    dsimp only [Pt.U, Pt.locs, Pt.cells, Pt.slots] at X104 l104 y104 z104 st104 hQ104
    subst l104 y104 z104
    obtain ⟨rfl, N104q, e104⟩ := hQ104
    have N104 := Fr.app N92 N104q
    have pre105 : ∀ t, Steps p.tables e below (T104.setTop (mkF m 41 #[.val (.int p0), .val (.int p1), .val (.int v84), .val (.ref s_COLLECTIONS), .unset] [(.ref s_COLLECTIONS)])) t → Steps p.tables e below (s₁.setTop (entryFrame m #[(.int p0), (.int p1)] maxLocals)) t := fun t k => pre103 t (st104.trans k)
    obtain ⟨T106, X106, e106, st106⟩ := castY X104 hx hZ hown (hw _ (List.mem_of_getElem? (i := 51) rfl)) e104 (Ins.self Ef96) (g := (mkF m 41 #[.val (.int p0), .val (.int p1), .val (.int v84), .val (.ref s_COLLECTIONS), .unset] [(.ref s_COLLECTIONS)])) rfl rfl (hb hby at_41)
    have pre107 : ∀ t, Steps p.tables e below (T106.setTop (mkF m 44 #[.val (.int p0), .val (.int p1), .val (.int v84), .val (.ref s_COLLECTIONS), .unset] [(.ref s_COLLECTIONS)])) t → Steps p.tables e below (s₁.setTop (entryFrame m #[(.int p0), (.int p1)] maxLocals)) t := fun t k => pre105 t (st106 t k)
    obtain ⟨fs, hr, hrun, hended, hW, hsame⟩ := X106.leave (v := some (.int (1 : Int32))) (fun h => by rw [Bd.returns] at h; cases h)
    refine ⟨_, _, pre107 _ ?_, hrun, hended, _, _, rfl, ?_, ⟨_, rfl⟩, hW, hsame.mono (by decide) (by decide)⟩
    · show Steps p.tables e below (T106.setTop (mkF m 44 #[.val (.int p0), .val (.int p1), .val (.int v84), .val (.ref s_COLLECTIONS), .unset] [(.ref s_COLLECTIONS)])) _
      refine XS.astore X106.here hx rfl (hb hby at_44) rfl rfl (l' := #[.val (.int p0), .val (.int p1), .val (.int v84), .val (.ref s_COLLECTIONS), .val (.ref s_COLLECTIONS)]) rfl ?_
      show Steps p.tables e below (T106.setTop (mkF m 46 #[.val (.int p0), .val (.int p1), .val (.int v84), .val (.ref s_COLLECTIONS), .val (.ref s_COLLECTIONS)] [])) _
      refine XS.aload X106.here hx rfl (hb hby at_46) rfl rfl ?_
      show Steps p.tables e below (T106.setTop (mkF m 48 #[.val (.int p0), .val (.int p1), .val (.int v84), .val (.ref s_COLLECTIONS), .val (.ref s_COLLECTIONS)] [(.ref s_COLLECTIONS)])) _
      refine XS.aloadN X106.here hx rfl (hb hby at_48) rfl rfl ?_
      show Steps p.tables e below (T106.setTop (mkF m 49 #[.val (.int p0), .val (.int p1), .val (.int v84), .val (.ref s_COLLECTIONS), .val (.ref s_COLLECTIONS)] [(.ref s_COLLECTIONS), (.ref s_COLLECTIONS)])) _
      show Steps p.tables e below (T106.setTop (mkF m 49 #[.val (.int p0), .val (.int p1), .val (.int v84), .val (.ref s_COLLECTIONS), .val (.ref s_COLLECTIONS)] [(.ref s_COLLECTIONS), (.ref s_COLLECTIONS)])) _
      refine Jvm.RoadKit.acmp (g := (mkF m 49 #[.val (.int p0), .val (.int p1), .val (.int v84), .val (.ref s_COLLECTIONS), .val (.ref s_COLLECTIONS)] [(.ref s_COLLECTIONS), (.ref s_COLLECTIONS)])) X106 hx rfl rfl rfl (pc0 := 49) (pc' := 52) (same := true) rfl (hb hby at_49) rfl (decide_eq_true rfl) (by decide) (by decide) ?_
      show Steps p.tables e below (T106.setTop (mkF m 52 #[.val (.int p0), .val (.int p1), .val (.int v84), .val (.ref s_COLLECTIONS), .val (.ref s_COLLECTIONS)] [])) _
      refine XS.iconst X106.here hx rfl (hb hby at_52) ?_
      show Steps p.tables e below (T106.setTop (mkF m 53 #[.val (.int p0), .val (.int p1), .val (.int v84), .val (.ref s_COLLECTIONS), .val (.ref s_COLLECTIONS)] [(.int (1 : Int32))])) _
      refine XS.goto X106.here hx rfl (pc0 := 53) (pc' := 57) rfl (hb hby at_53) (by decide) (by decide) ?_
      show Steps p.tables e below (T106.setTop (mkF m 57 #[.val (.int p0), .val (.int p1), .val (.int v84), .val (.ref s_COLLECTIONS), .val (.ref s_COLLECTIONS)] [(.int (1 : Int32))])) _
      exact retN X106 hx (t := .boolean) Bd.returns (by simp) (hb hby at_57) hr
    · show Q0 Z p0 p1 s__VALUES k__VALUES s_COLLECTIONS s_EMPTY h0 n0 _ T106.heap _
      rw [e106]
      exact ⟨rfl, N104⟩
  · have pre108 : ∀ t, Steps p.tables e below (s₁.setTop (mkF m 34 #[.val (.int p0), .val (.int p1), .val (.int v84), .val .null, .unset] [(.int v84)])) t → Steps p.tables e below (s₁.setTop (entryFrame m #[(.int p0), (.int p1)] maxLocals)) t := by
      intro t k
      refine pre86 t ?_
      show Steps p.tables e below (s₁.setTop (mkF m 22 #[.val (.int p0), .val (.int p1), .val (.int v84), .unset, .unset] [(.int (18 : Int32)), (.int v84)])) _
      refine XS.icmpYes X0.here hx rfl (pc0 := 22) (pc' := 31) rfl (hb hby at_22) rfl (feq hc22_87).2 (by decide) (by decide) ?_
      show Steps p.tables e below (s₁.setTop (mkF m 31 #[.val (.int p0), .val (.int p1), .val (.int v84), .unset, .unset] [])) _
      refine XS.aconstNull X0.here hx rfl (hb hby at_31) ?_
      show Steps p.tables e below (s₁.setTop (mkF m 32 #[.val (.int p0), .val (.int p1), .val (.int v84), .unset, .unset] [.null])) _
      refine XS.astoreN X0.here hx rfl (hb hby at_32) rfl rfl (l' := #[.val (.int p0), .val (.int p1), .val (.int v84), .val .null, .unset]) rfl ?_
      show Steps p.tables e below (s₁.setTop (mkF m 33 #[.val (.int p0), .val (.int p1), .val (.int v84), .val .null, .unset] [])) _
      refine XS.iloadN X0.here hx rfl (hb hby at_33) rfl ?_
      show Steps p.tables e below (s₁.setTop (mkF m 34 #[.val (.int p0), .val (.int p1), .val (.int v84), .val .null, .unset] [(.int v84)])) _
      exact k
    obtain ⟨_, _, ⟨T109, L109, k109, n109⟩, -, X109, ⟨Lc109, hQ109, l109, y109, z109⟩, st109⟩ := Jvm.LawKit.callS X0 hx (y := (⟨"com/example/keyed_collections/keyedcollections/protocol/Feature", "of", "(I)Ljava/util/Optional;"⟩ : MethodName)) hown (mvT hZ (hw _ (List.mem_of_getElem? (i := 0) rfl))) (mvT hZ (hw _ (List.mem_of_getElem? (i := 1) rfl))) (mvT hZ (hw _ (List.mem_of_getElem? (i := 2) rfl))) (mvT hZ (hw _ (List.mem_of_getElem? (i := 3) rfl))) (by decide) (backOf (W := 0) (rm1_n l Z ar0 hw [] v84 s__VALUES k__VALUES s_COLLECTIONS s_EMPTY h0 n0 Z0 S__VALUES V_s__VALUES E_s__VALUES F_code_s_COLLECTIONS S_EMPTY (fun q => hc22_87 q.symm)) hZ (hw _ (List.mem_of_getElem? (i := 3) rfl)) (hw _ (List.mem_of_getElem? (i := 2) rfl)) (by decide) (by decide)) (g := (mkF m 34 #[.val (.int p0), .val (.int p1), .val (.int v84), .val .null, .unset] [(.int v84)])) rfl (by rw [hml]; rfl) (argsL := [(.int v84)]) (rest := []) (lenOf pd_5 rfl) rfl (by show 2 * 0 + _ ≤ _; exact Nat.le_of_eq rfl) (hb hby at_34) (fun _ _ => ⟨rfl, e0, (by decide : 0 + 1 ≤ _), (by decide : 0 + 1 ≤ _)⟩)
    dsimp only [Pt.U, Pt.locs, Pt.cells, Pt.slots] at X109 l109 y109 z109 st109 hQ109
    subst l109 y109 z109
    obtain ⟨h109, e109⟩ : ∃ h, T109.heap = h := ⟨_, rfl⟩
    rw [e109] at hQ109
    obtain ⟨rfl, N109q, K109q⟩ := hQ109
    have N109 := Fr.app N0 N109q
    have Z109 : n0 ≤ h109.size := Nat.le_trans Z0 K109q.1
    have K109 : Keep h0 h109 [] := (Keep.refl h0 []).trans K109q (fun x hx => absurd hx List.not_mem_nil)
    have Sf110 : Sta Z h109 "com/example/keyed_collections/keyedcollections/protocol/Feature" "$VALUES" "[Lcom/example/keyed_collections/keyedcollections/protocol/Feature;" (.ref s__VALUES) := own_sta_keep0 S__VALUES K109q
    have Vf111 : Arv Z h109 s__VALUES k__VALUES (.object "com/example/keyed_collections/keyedcollections/protocol/Feature") (1 : Int32) [(.ref s_COLLECTIONS)] .null := (V_s__VALUES).keep K109q List.not_mem_nil
    have Ef112 : Exa Z h109 s__VALUES "[Lcom/example/keyed_collections/keyedcollections/protocol/Feature;" := (E_s__VALUES).keep K109q
    have Ef113 : Exa Z h109 s_COLLECTIONS "com/example/keyed_collections/keyedcollections/protocol/Feature" := (E_s_COLLECTIONS).keep K109q
    have Sf114 : Sta Z h109 "java/util/Optional" "EMPTY" "Ljava/util/Optional;" (.ref s_EMPTY) := own_sta_keep0 S_EMPTY K109q
    have Ef115 : Exa Z h109 s_EMPTY "java/util/Optional" := (E_s_EMPTY).keep K109q
    have Ff116 : Fld Z h109 s_EMPTY "java/util/Optional" "value" "Ljava/lang/Object;" .null := (F_value_s_EMPTY).keep K109q List.not_mem_nil
    have Ff117 : Fld Z h109 s_COLLECTIONS "com/example/keyed_collections/keyedcollections/protocol/Feature" "code" "I" (.int (18 : Int32)) := (F_code_s_COLLECTIONS).keep K109q List.not_mem_nil
    have pre118 : ∀ t, Steps p.tables e below (T109.setTop (mkF m 37 #[.val (.int p0), .val (.int p1), .val (.int v84), .val .null, .unset] [(.ref s_EMPTY)])) t → Steps p.tables e below (s₁.setTop (entryFrame m #[(.int p0), (.int p1)] maxLocals)) t := fun t k => pre108 t (st109 t k)
    have pre119 : ∀ t, Steps p.tables e below (T109.setTop (mkF m 38 #[.val (.int p0), .val (.int p1), .val (.int v84), .val .null, .unset] [.null, (.ref s_EMPTY)])) t → Steps p.tables e below (s₁.setTop (entryFrame m #[(.int p0), (.int p1)] maxLocals)) t := by
      intro t k
      refine pre118 t ?_
      show Steps p.tables e below (T109.setTop (mkF m 37 #[.val (.int p0), .val (.int p1), .val (.int v84), .val .null, .unset] [(.ref s_EMPTY)])) _
      refine XS.aconstNull X109.here hx rfl (hb hby at_37) ?_
      show Steps p.tables e below (T109.setTop (mkF m 38 #[.val (.int p0), .val (.int p1), .val (.int v84), .val .null, .unset] [.null, (.ref s_EMPTY)])) _
      exact k
    obtain ⟨cq120, kq120, q120a, q120b, q120c⟩ := isOf hZ e109 Ef115
    obtain ⟨_, _, ⟨T120, L120, k120, n120⟩, -, X120, ⟨Lc120, hQ120, l120, y120, z120⟩, st120⟩ := X109.virtualBack hx (y := (⟨"java/util/Optional", "orElse", "(Ljava/lang/Object;)Ljava/lang/Object;"⟩ : MethodName)) (z := (⟨"java/util/Optional", "orElse", "(Ljava/lang/Object;)Ljava/lang/Object;"⟩ : MethodName)) hown (mvT hZ (hw _ (List.mem_of_getElem? (i := 27) rfl))) (mvT hZ (hw _ (List.mem_of_getElem? (i := 28) rfl))) (notFace_of_selects (args := #[]) (mvT hZ (hw _ (List.mem_of_getElem? (i := 30) rfl)))) (mvT hZ (hw _ (List.mem_of_getElem? (i := 30) rfl))) (mvT hZ (hw _ (List.mem_of_getElem? (i := 29) rfl))) (by decide) (backOf (W := 0) (rm4_n l Z ar0 hw [] s_EMPTY h109 n0 Z109 Ff116) hZ (hw _ (List.mem_of_getElem? (i := 31) rfl)) (hw _ (List.mem_of_getElem? (i := 6) rfl)) (by decide) (by decide)) q120a q120c (g := (mkF m 38 #[.val (.int p0), .val (.int p1), .val (.int v84), .val .null, .unset] [.null, (.ref s_EMPTY)])) rfl (by rw [hml]; rfl) (Steps.refl _) (argsL := [.null]) (rest := []) (lenOf pd_0 rfl) rfl (by show 2 * 0 + _ ≤ _; exact Nat.le_of_eq rfl) (hb hby at_38) (fun _ _ => ⟨rfl, e109, (by decide : 1 + 0 ≤ _), (by decide : 1 + 0 ≤ _)⟩)
    dsimp only [Pt.U, Pt.locs, Pt.cells, Pt.slots] at X120 l120 y120 z120 st120 hQ120
    subst l120 y120 z120
    obtain ⟨rfl, N120q, e120⟩ := hQ120
    have N120 := Fr.app N109 N120q
    have pre121 : ∀ t, Steps p.tables e below (T120.setTop (mkF m 41 #[.val (.int p0), .val (.int p1), .val (.int v84), .val .null, .unset] [.null])) t → Steps p.tables e below (s₁.setTop (entryFrame m #[(.int p0), (.int p1)] maxLocals)) t := fun t k => pre119 t (st120.trans k)
    obtain ⟨fs, hr, hrun, hended, hW, hsame⟩ := X120.leave (v := some (.int (1 : Int32))) (fun h => by rw [Bd.returns] at h; cases h)
    refine ⟨_, _, pre121 _ ?_, hrun, hended, _, _, rfl, ?_, ⟨_, rfl⟩, hW, hsame.mono (by decide) (by decide)⟩
    · show Steps p.tables e below (T120.setTop (mkF m 41 #[.val (.int p0), .val (.int p1), .val (.int v84), .val .null, .unset] [.null])) _
      refine X120.checkcastNull hx (g := (mkF m 41 #[.val (.int p0), .val (.int p1), .val (.int v84), .val .null, .unset] [.null])) rfl rfl (hb hby at_41) _ ?_
      show Steps p.tables e below (T120.setTop (mkF m 44 #[.val (.int p0), .val (.int p1), .val (.int v84), .val .null, .unset] [.null])) _
      refine XS.astore X120.here hx rfl (hb hby at_44) rfl rfl (l' := #[.val (.int p0), .val (.int p1), .val (.int v84), .val .null, .val .null]) rfl ?_
      show Steps p.tables e below (T120.setTop (mkF m 46 #[.val (.int p0), .val (.int p1), .val (.int v84), .val .null, .val .null] [])) _
      refine XS.aload X120.here hx rfl (hb hby at_46) rfl rfl ?_
      show Steps p.tables e below (T120.setTop (mkF m 48 #[.val (.int p0), .val (.int p1), .val (.int v84), .val .null, .val .null] [.null])) _
      refine XS.aloadN X120.here hx rfl (hb hby at_48) rfl rfl ?_
      show Steps p.tables e below (T120.setTop (mkF m 49 #[.val (.int p0), .val (.int p1), .val (.int v84), .val .null, .val .null] [.null, .null])) _
      show Steps p.tables e below (T120.setTop (mkF m 49 #[.val (.int p0), .val (.int p1), .val (.int v84), .val .null, .val .null] [.null, .null])) _
      refine Jvm.RoadKit.acmp (g := (mkF m 49 #[.val (.int p0), .val (.int p1), .val (.int v84), .val .null, .val .null] [.null, .null])) X120 hx rfl rfl rfl (pc0 := 49) (pc' := 52) (same := true) rfl (hb hby at_49) rfl (decide_eq_true rfl) (by decide) (by decide) ?_
      show Steps p.tables e below (T120.setTop (mkF m 52 #[.val (.int p0), .val (.int p1), .val (.int v84), .val .null, .val .null] [])) _
      refine XS.iconst X120.here hx rfl (hb hby at_52) ?_
      show Steps p.tables e below (T120.setTop (mkF m 53 #[.val (.int p0), .val (.int p1), .val (.int v84), .val .null, .val .null] [(.int (1 : Int32))])) _
      refine XS.goto X120.here hx rfl (pc0 := 53) (pc' := 57) rfl (hb hby at_53) (by decide) (by decide) ?_
      show Steps p.tables e below (T120.setTop (mkF m 57 #[.val (.int p0), .val (.int p1), .val (.int v84), .val .null, .val .null] [(.int (1 : Int32))])) _
      exact retN X120 hx (t := .boolean) Bd.returns (by simp) (hb hby at_57) hr
    · show Q0 Z p0 p1 s__VALUES k__VALUES s_COLLECTIONS s_EMPTY h0 n0 _ T120.heap _
      rw [e120]
      exact ⟨rfl, N120⟩
set_option maxRecDepth 65536 in
set_option maxHeartbeats 40000000 in
theorem comes_1 {Post : Tables → Env → Array Value → State → Outcome → State → Prop} (hpost : ∀ tb e args s v u, (limb_1_1.after args s (.returned v) u = true ∧ limb_1_2.after args s (.returned v) u = true ∧ True) → FrameEnd s (.returned v) u (Jvm.fieldLocs frame_1_writes args s ++ Jvm.arrayLocs frame_1_arrays args s ++ Jvm.staticLocs frame_1_statics s) 16 128 → Post tb e args s (.returned v) u) :
    ArmFor flags0 classFile x code maxLocals ret World_1 tables_1 room_1 Calls_1 rest_1 Pre_1 Post := by
  intro l hfl _ _ p e ha hc hk s m args below hf hA hF happ hP
  obtain ⟨hcalls, hrest, hpre⟩ := hP
  obtain ⟨-, -, -, hnamed, -, -, -, hat⟩ := (Spec.applies_iff hf).mp happ
  obtain ⟨hg, hn⟩ := and_e (Cond.before_iff.mp (show (Jvm.Cond.and given_1 narrow_1).before args s = true from hpre))
  obtain ⟨hcount, hg0⟩ := and_e hg
  obtain ⟨ha0, hg1⟩ := and_e hg0
  have ha1 := hg1
  obtain ⟨w0, w1, rfl⟩ : ∃ w0 w1 : Value, args = #[w0, w1] := by
    have hs : args.size = 2 := by simpa [Cond.value, given_1] using hcount
    obtain ⟨L⟩ := args
    match L, hs with
    | [w0, w1], _ => exact ⟨w0, w1, rfl⟩
  have hw := fun d (hd : d ∈ tables_1) => atoms_spec (ws := Jvm.Cond.code x code maxLocals ret :: tables_1) hat d (List.mem_cons_of_mem _ hd)
  have hfit : Fit s := fun {y c} hc i hi => by
    obtain ⟨ha, rfl⟩ := Array.getElem?_eq_some_iff.mp hc
    have q := List.all_eq_true.mp ((Array.all_eq_true_iff_forall_mem.mp hF) _ (Array.getElem_mem ha)) i (List.mem_range.mpr hi)
    simpa [Array.getElem?_eq_getElem hi] using q
  obtain ⟨hsets, hown0⟩ := atoms_of _ (rest_1_c_eq ▸ (show rest_1_c.before _ s = true from hrest))
  have hr0 := Cond.before_iff.mp hown0
  obtain ⟨i0, ei0⟩ := is_v ha0
  obtain rfl : w0 = (.int i0) := Option.some.inj ei0
  obtain ⟨i1, ei1⟩ := is_v ha1
  obtain rfl : w1 = (.int i1) := Option.some.inj ei1
  obtain ⟨hn1a, hn1b⟩ := and_e hn
  obtain ⟨s__VALUES, hs__VALUES⟩ := arr_v hn1a
  have S__VALUES := Sta.start hs__VALUES (Or.inl (hw _ (List.mem_of_getElem? (i := 22) rfl)))
  obtain ⟨cl_s__VALUES, A_s__VALUES⟩ := Arr.start hs__VALUES hn1a
  obtain ⟨hn2a, hn2b⟩ := and_e hn1b
  have E_s__VALUES := Exa.start hs__VALUES hn2a
  obtain ⟨hn3a, hn3b⟩ := and_e hn2b
  obtain ⟨hn4a, hn4b⟩ := and_e hn3b
  obtain ⟨s_COLLECTIONS, hs_COLLECTIONS⟩ := exa_v hn4a
  have S_COLLECTIONS := Sta.start hs_COLLECTIONS (Or.inr ⟨(hw _ (List.mem_of_getElem? (i := 2) rfl)), (hw _ (List.mem_of_getElem? (i := 21) rfl))⟩)
  have E_s_COLLECTIONS := Exa.start hs_COLLECTIONS hn4a
  obtain ⟨hn5a, hn5b⟩ := and_e hn4b
  have el0_s__VALUES := own_elR A_s__VALUES hs__VALUES hs_COLLECTIONS hn5a
  have F_code_s_COLLECTIONS := Fld.start ((fld_at hs_COLLECTIONS).symm.trans (own_eqI hn5b))
  have hj2 := Cond.before_iff.mp (hsets _ (List.mem_of_getElem? (i := 2) rfl))
  obtain ⟨s_EMPTY, hs_EMPTY⟩ := exa_v hj2
  have S_EMPTY := Sta.start hs_EMPTY (Or.inl (hsets _ (List.mem_of_getElem? (i := 1) rfl)))
  have E_s_EMPTY := Exa.start hs_EMPTY hj2
  have hj3 := Cond.before_iff.mp (hsets _ (List.mem_of_getElem? (i := 3) rfl))
  have F_value_s_EMPTY := Fld.start ((fld_at hs_EMPTY).symm.trans (null_v hj3))
  obtain ⟨hlt_s__VALUES, hsz_s__VALUES⟩ := own_len hs__VALUES (A_s__VALUES.fin (Vm.Alike.refl _)) (own_eqI hn3a)
  have V_s__VALUES : Arv s s.heap s__VALUES cl_s__VALUES.cls _ (1 : Int32) [(.ref s_COLLECTIONS)] .null := Arv.start hfit A_s__VALUES hlt_s__VALUES hsz_s__VALUES (by decide) rfl ⟨el0_s__VALUES, trivial⟩
  obtain ⟨n, o, h1, h2, h3, _, L, rfl, ⟨rfl, N⟩, hq⟩ := rm0 l s _ hw tables_1 i0 i1 s__VALUES cl_s__VALUES.cls s_COLLECTIONS s_EMPTY s.heap s.heap.size (Nat.le_refl _) S__VALUES V_s__VALUES E_s__VALUES E_s_COLLECTIONS S_EMPTY E_s_EMPTY F_value_s_EMPTY S_COLLECTIONS F_code_s_COLLECTIONS p e ha hc hk s m _ below hf ((Spec.applies_iff_loose hf).mp happ).1 ⟨rfl, State.Warmed39.refl s, rfl⟩ trivial
  refine ⟨n, _, h1, h2, h3, hpost _ _ _ _ _ _ ⟨Cond.after_iff.mpr rfl, Cond.after_iff.mpr (eq_i res_at (Term.int_eval (1)) rfl), trivial⟩ ⟨hq.1, hq.2.1, (hq.2.2.sift fun y hy => Or.inr (N y hy)).mono (by decide) (by decide)⟩⟩
theorem main_1_1 : Claimed_1_1 := comes_1 fun _ _ _ _ _ _ h hF => ⟨h.1, hF⟩
theorem main_1_2 : Claimed_1_2 := comes_1 fun _ _ _ _ _ _ h hF => ⟨h.2.1, hF⟩
end Jvm.Pilot.@@N@@
namespace Jvm.Pilot.@@N@@
open Jvm Jvm.ClassFile Sem Op Lib Jvm.Free Jvm.Stand Jvm.Pilot.@@N@@.Jvm.D
/-! MADE BY PROGRAM (witnessworld.py) out of the Statement's table words and the real class files: 15 classes; the members and pool entries that the words name. The judged class is class 1, her method 1. -/
namespace start1
open Jvm.ClassFile
def u (s : String) : CpInfo := .utf8 (stringToUtf16 s)
/-- a pool by its gaps: so many unusable entries, then the entry; so many at the end -/
def gap : Nat → List CpInfo → List CpInfo
  | 0, r => r
  | n + 1, r => .unusable :: gap n r
def poolList (es : List (Nat × CpInfo)) (last : Nat) : List CpInfo := es.foldr (fun e r => gap e.1 (e.2 :: r)) (gap last [])
def pool (es : List (Nat × CpInfo)) (last : Nat) : Array CpInfo := ⟨poolList es last⟩
def fileOf (pool : Array CpInfo) (this : Nat) (attrs : Array Attribute := #[]) (ms : Array MethodInfo := #[]) (fl : Nat := 33) (sup : Nat := 0) (ifs : Array Nat := #[]) (fds : Array FieldInfo := #[]) : ClassFile where
  minorVersion := 0
  majorVersion := 65
  constantPool := pool
  accessFlags := fl
  thisClass := this
  superClass := sup
  interfaces := ifs
  fields := fds
  methods := ms
  attributes := attrs
def plain (name : String) (sup : Option ClassId) : Class where
  name := name
  kind := .ordinary
  loader := none
  accessFlags := 33
  super := sup
  interfaces := #[]
  cf := none
  fields := #[]
  methods := #[]
  instanceTypes := #[]
  staticTypes := #[]
  resolved := #[]
  callSites := []
  init := .initialized
  statics := none
  mirror := none

def pool0 : Array CpInfo := pool [(5, u "<init>"), (0, u "()V"), (1, .class_ 10), (1, u "java/lang/Object"), (85, u "clone"), (0, u "()Ljava/lang/Object;")] 26

def k0c0 : Code := { maxStack := 0, maxLocals := 1, code := object_method_1_code, exceptionTable := #[], attributes := #[] }
def k0m0 : Method := { name := "<init>", desc := "()V", sig := { parameters := [], returnType := none }, accessFlags := 1, code := some k0c0 }
def k0m1 : Method := { name := "clone", desc := "()Ljava/lang/Object;", sig := { parameters := [], returnType := some (.object "java/lang/Object") }, accessFlags := 260, code := none }
/-- java/lang/Object -/
def k0 : Class := { plain "java/lang/Object" none with
  accessFlags := 33
  interfaces := #[]
  cf := some (fileOf pool0 8 #[] #[{ accessFlags := 1, nameIndex := 5, descriptorIndex := 6, attributes := #[] }, { accessFlags := 260, nameIndex := 96, descriptorIndex := 97, attributes := #[] }] 33 0 #[] #[])
  fields := #[]
  methods := #[k0m0, k0m1]
  instanceTypes := #[]
  staticTypes := #[]
  resolved := Array.replicate 124 none
  statics := none }

def pool1 : Array CpInfo := pool [(2, .class_ 4), (1, u "java/lang/Object"), (0, u "<init>"), (0, u "()V"), (0, .fieldref 8 9), (0, .class_ 10), (0, .nameAndType 11 12), (0, u "com/example/keyed_collections/keyedcollections/protocol/Feature"), (0, u "COLLECTIONS"), (0, u "Lcom/example/keyed_collections/keyedcollections/protocol/Feature;"), (0, .methodref 8 14), (0, .nameAndType 15 16), (0, u "of"), (0, u "(I)Ljava/util/Optional;"), (0, .methodref 18 19), (0, .class_ 20), (0, .nameAndType 21 22), (0, u "java/util/Optional"), (0, u "orElse"), (0, u "(Ljava/lang/Object;)Ljava/lang/Object;"), (0, .class_ 24), (0, u "com/example/keyed_collections/keyedcollections/protocol/FeatureOfPinLaw"), (2, u "law"), (0, u "(II)Z")] 3

def k1m0 : Method := { name := "<init>", desc := "()V", sig := { parameters := [], returnType := none }, accessFlags := 1, code := none }
def k1c1 : Code := { maxStack := 3, maxLocals := 5, code := code, exceptionTable := #[], attributes := #[] }
def k1m1 : Method := { name := "law", desc := "(II)Z", sig := { parameters := [.int, .int], returnType := some .boolean }, accessFlags := 9, code := some k1c1 }
/-- com/example/keyed_collections/keyedcollections/protocol/FeatureOfPinLaw -/
def k1 : Class := { plain "com/example/keyed_collections/keyedcollections/protocol/FeatureOfPinLaw" (some 0) with
  accessFlags := 49
  interfaces := #[]
  cf := some (fileOf pool1 23 #[] #[{ accessFlags := 1, nameIndex := 5, descriptorIndex := 6, attributes := #[] }, { accessFlags := 9, nameIndex := 27, descriptorIndex := 28, attributes := #[] }] 49 2 #[] #[])
  fields := #[]
  methods := #[k1m0, k1m1]
  instanceTypes := #[]
  staticTypes := #[]
  resolved := Array.replicate 32 none
  statics := none }

def pool2 : Array CpInfo := pool [(1, .class_ 2), (0, u "java/lang/constant/Constable"), (0, .class_ 4), (0, u "java/lang/Object")] 6

/-- java/lang/constant/Constable -/
def k2 : Class := { plain "java/lang/constant/Constable" (some 0) with
  accessFlags := 1537
  interfaces := #[]
  cf := some (fileOf pool2 1 #[] #[] 1537 3 #[] #[])
  fields := #[]
  methods := #[]
  instanceTypes := #[]
  staticTypes := #[]
  resolved := Array.replicate 11 none
  statics := none }

def pool3 : Array CpInfo := pool [(1, .class_ 2), (0, u "java/lang/Comparable"), (0, .class_ 4), (0, u "java/lang/Object")] 7

/-- java/lang/Comparable -/
def k3 : Class := { plain "java/lang/Comparable" (some 0) with
  accessFlags := 1537
  interfaces := #[]
  cf := some (fileOf pool3 1 #[] #[] 1537 3 #[] #[])
  fields := #[]
  methods := #[]
  instanceTypes := #[]
  staticTypes := #[]
  resolved := Array.replicate 12 none
  statics := none }

def pool4 : Array CpInfo := pool [(1, .class_ 2), (0, u "java/io/Serializable"), (0, .class_ 4), (0, u "java/lang/Object")] 2

/-- java/io/Serializable -/
def k4 : Class := { plain "java/io/Serializable" (some 0) with
  accessFlags := 1537
  interfaces := #[]
  cf := some (fileOf pool4 1 #[] #[] 1537 3 #[] #[])
  fields := #[]
  methods := #[]
  instanceTypes := #[]
  staticTypes := #[]
  resolved := Array.replicate 7 none
  statics := none }

def pool5 : Array CpInfo := pool [(2, .class_ 4), (1, u "java/lang/Enum"), (0, u "name"), (0, u "Ljava/lang/String;"), (2, u "ordinal"), (0, u "I"), (1, .class_ 14), (1, u "java/lang/Object"), (4, u "hash"), (86, .class_ 108), (1, u "java/lang/Enum$EnumDesc"), (2, .class_ 112), (0, u "java/lang/constant/Constable"), (0, .class_ 114), (0, u "java/lang/Comparable"), (0, .class_ 116), (0, u "java/io/Serializable")] 87

/-- java/lang/Enum -/
def k5 : Class := { plain "java/lang/Enum" (some 0) with
  accessFlags := 1057
  interfaces := #[2, 3, 4]
  cf := some (fileOf pool5 2 #[.nestMembers #[106]] #[] 1057 12 #[111, 113, 115] #[{ accessFlags := 18, nameIndex := 5, descriptorIndex := 6, attributes := #[] }, { accessFlags := 18, nameIndex := 9, descriptorIndex := 10, attributes := #[] }, { accessFlags := 2, nameIndex := 19, descriptorIndex := 10, attributes := #[] }])
  fields := #[{ name := "name", type := (.object "java/lang/String"), accessFlags := 18, slot := 0, constantValue := 0 }, { name := "ordinal", type := .int, accessFlags := 18, slot := 1, constantValue := 0 }, { name := "hash", type := .int, accessFlags := 2, slot := 2, constantValue := 0 }]
  methods := #[]
  instanceTypes := #[(.object "java/lang/String"), .int, .int]
  staticTypes := #[]
  resolved := Array.replicate 204 none
  statics := none }

def pool6 : Array CpInfo := pool [(1, .class_ 2), (0, u "com/example/keyed_collections/keyedcollections/protocol/Feature"), (2, u "COLLECTIONS"), (0, u "Lcom/example/keyed_collections/keyedcollections/protocol/Feature;"), (0, .fieldref 1 8), (0, .nameAndType 9 10), (0, u "$VALUES"), (0, u "[Lcom/example/keyed_collections/keyedcollections/protocol/Feature;"), (0, .methodref 12 13), (0, .class_ 10), (0, .nameAndType 14 15), (0, u "clone"), (0, u "()Ljava/lang/Object;"), (1, .class_ 19), (1, u "java/lang/Enum"), (6, .fieldref 1 27), (0, .nameAndType 28 29), (0, u "code"), (0, u "I"), (0, .methodref 31 32), (0, .class_ 33), (0, .nameAndType 34 35), (0, u "java/util/Optional"), (0, u "empty"), (0, u "()Ljava/util/Optional;"), (0, .methodref 1 37), (0, .nameAndType 38 39), (0, u "values"), (0, u "()[Lcom/example/keyed_collections/keyedcollections/protocol/Feature;"), (0, .methodref 31 41), (0, .nameAndType 42 43), (0, u "of"), (0, u "(Ljava/lang/Object;)Ljava/util/Optional;"), (14, u "(I)Ljava/util/Optional;")] 7

def k6c0 : Code := { maxStack := 1, maxLocals := 0, code := prog_9_method_1_code, exceptionTable := #[], attributes := #[] }
def k6m0 : Method := { name := "values", desc := "()[Lcom/example/keyed_collections/keyedcollections/protocol/Feature;", sig := { parameters := [], returnType := some (.array (.object "com/example/keyed_collections/keyedcollections/protocol/Feature")) }, accessFlags := 9, code := some k6c0 }
def k6c1 : Code := { maxStack := 2, maxLocals := 6, code := prog_9_method_5_code, exceptionTable := #[], attributes := #[] }
def k6m1 : Method := { name := "of", desc := "(I)Ljava/util/Optional;", sig := { parameters := [.int], returnType := some (.object "java/util/Optional") }, accessFlags := 9, code := some k6c1 }
/-- com/example/keyed_collections/keyedcollections/protocol/Feature -/
def k6 : Class := { plain "com/example/keyed_collections/keyedcollections/protocol/Feature" (some 5) with
  accessFlags := 16433
  interfaces := #[]
  cf := some (fileOf pool6 1 #[] #[{ accessFlags := 9, nameIndex := 38, descriptorIndex := 39, attributes := #[] }, { accessFlags := 9, nameIndex := 42, descriptorIndex := 58, attributes := #[] }] 16433 17 #[] #[{ accessFlags := 16409, nameIndex := 5, descriptorIndex := 6, attributes := #[] }, { accessFlags := 18, nameIndex := 28, descriptorIndex := 29, attributes := #[] }, { accessFlags := 4122, nameIndex := 9, descriptorIndex := 10, attributes := #[] }])
  fields := #[{ name := "COLLECTIONS", type := (.object "com/example/keyed_collections/keyedcollections/protocol/Feature"), accessFlags := 16409, slot := 0, constantValue := 0 }, { name := "code", type := .int, accessFlags := 18, slot := 3, constantValue := 0 }, { name := "$VALUES", type := (.array (.object "com/example/keyed_collections/keyedcollections/protocol/Feature")), accessFlags := 4122, slot := 1, constantValue := 0 }]
  methods := #[k6m0, k6m1]
  instanceTypes := #[(.object "java/lang/String"), .int, .int, .int]
  staticTypes := #[(.object "com/example/keyed_collections/keyedcollections/protocol/Feature"), (.array (.object "com/example/keyed_collections/keyedcollections/protocol/Feature"))]
  resolved := Array.replicate 66 none
  statics := some 0 }

def pool7 : Array CpInfo := pool [(1, .fieldref 2 3), (0, .class_ 4), (0, .nameAndType 5 6), (0, u "java/util/Optional"), (0, u "EMPTY"), (0, u "Ljava/util/Optional;"), (0, .methodref 8 9), (0, .class_ 10), (0, .nameAndType 11 12), (0, u "java/lang/Object"), (0, u "<init>"), (0, u "()V"), (0, .fieldref 2 14), (0, .nameAndType 15 16), (0, u "value"), (0, u "Ljava/lang/Object;"), (0, .methodref 18 19), (0, .class_ 20), (0, .nameAndType 21 22), (0, u "java/util/Objects"), (0, u "requireNonNull"), (0, u "(Ljava/lang/Object;)Ljava/lang/Object;"), (0, .methodref 2 24), (0, .nameAndType 11 25), (0, u "(Ljava/lang/Object;)V"), (29, u "empty"), (0, u "()Ljava/util/Optional;"), (8, u "(Ljava/lang/Object;)Ljava/util/Optional;"), (16, u "of"), (82, u "orElse")] 21

def k7c0 : Code := { maxStack := 1, maxLocals := 1, code := jdk_32_method_1_code, exceptionTable := #[], attributes := #[] }
def k7m0 : Method := { name := "empty", desc := "()Ljava/util/Optional;", sig := { parameters := [], returnType := some (.object "java/util/Optional") }, accessFlags := 9, code := some k7c0 }
def k7c1 : Code := { maxStack := 2, maxLocals := 2, code := jdk_32_method_2_code, exceptionTable := #[], attributes := #[] }
def k7m1 : Method := { name := "<init>", desc := "(Ljava/lang/Object;)V", sig := { parameters := [(.object "java/lang/Object")], returnType := none }, accessFlags := 2, code := some k7c1 }
def k7c2 : Code := { maxStack := 3, maxLocals := 1, code := jdk_32_method_3_code, exceptionTable := #[], attributes := #[] }
def k7m2 : Method := { name := "of", desc := "(Ljava/lang/Object;)Ljava/util/Optional;", sig := { parameters := [(.object "java/lang/Object")], returnType := some (.object "java/util/Optional") }, accessFlags := 9, code := some k7c2 }
def k7c3 : Code := { maxStack := 1, maxLocals := 2, code := jdk_32_method_15_code, exceptionTable := #[], attributes := #[] }
def k7m3 : Method := { name := "orElse", desc := "(Ljava/lang/Object;)Ljava/lang/Object;", sig := { parameters := [(.object "java/lang/Object")], returnType := some (.object "java/lang/Object") }, accessFlags := 1, code := some k7c3 }
/-- java/util/Optional -/
def k7 : Class := { plain "java/util/Optional" (some 0) with
  accessFlags := 49
  interfaces := #[]
  cf := some (fileOf pool7 2 #[] #[{ accessFlags := 9, nameIndex := 55, descriptorIndex := 56, attributes := #[] }, { accessFlags := 2, nameIndex := 11, descriptorIndex := 25, attributes := #[] }, { accessFlags := 9, nameIndex := 82, descriptorIndex := 65, attributes := #[] }, { accessFlags := 1, nameIndex := 165, descriptorIndex := 22, attributes := #[] }] 49 8 #[] #[{ accessFlags := 26, nameIndex := 5, descriptorIndex := 6, attributes := #[] }, { accessFlags := 18, nameIndex := 15, descriptorIndex := 16, attributes := #[] }])
  fields := #[{ name := "EMPTY", type := (.object "java/util/Optional"), accessFlags := 26, slot := 0, constantValue := 0 }, { name := "value", type := (.object "java/lang/Object"), accessFlags := 18, slot := 0, constantValue := 0 }]
  methods := #[k7m0, k7m1, k7m2, k7m3]
  instanceTypes := #[(.object "java/lang/Object")]
  staticTypes := #[(.object "java/util/Optional")]
  resolved := Array.replicate 187 none
  statics := some 1 }

def pool8 : Array CpInfo := pool [(1, .class_ 2), (0, u "java/lang/Cloneable"), (0, .class_ 4), (0, u "java/lang/Object")] 2

/-- java/lang/Cloneable -/
def k8 : Class := { plain "java/lang/Cloneable" (some 0) with
  accessFlags := 1537
  interfaces := #[]
  cf := some (fileOf pool8 1 #[] #[] 1537 3 #[] #[])
  fields := #[]
  methods := #[]
  instanceTypes := #[]
  staticTypes := #[]
  resolved := Array.replicate 7 none
  statics := none }

def pool9 : Array CpInfo := pool [(2, .class_ 4), (1, u "java/lang/Object"), (0, u "<init>"), (0, u "()V"), (35, .class_ 44), (1, u "java/util/Objects"), (0, u "requireNonNull"), (0, u "(Ljava/lang/Object;)Ljava/lang/Object;")] 137

def k9m0 : Method := { name := "<init>", desc := "()V", sig := { parameters := [], returnType := none }, accessFlags := 2, code := none }
def k9c1 : Code := { maxStack := 2, maxLocals := 1, code := jdk_31_method_10_code, exceptionTable := #[], attributes := #[] }
def k9m1 : Method := { name := "requireNonNull", desc := "(Ljava/lang/Object;)Ljava/lang/Object;", sig := { parameters := [(.object "java/lang/Object")], returnType := some (.object "java/lang/Object") }, accessFlags := 9, code := some k9c1 }
/-- java/util/Objects -/
def k9 : Class := { plain "java/util/Objects" (some 0) with
  accessFlags := 49
  interfaces := #[]
  cf := some (fileOf pool9 42 #[] #[{ accessFlags := 2, nameIndex := 5, descriptorIndex := 6, attributes := #[] }, { accessFlags := 9, nameIndex := 45, descriptorIndex := 46, attributes := #[] }] 49 2 #[] #[])
  fields := #[]
  methods := #[k9m0, k9m1]
  instanceTypes := #[]
  staticTypes := #[]
  resolved := Array.replicate 184 none
  statics := none }

/-- the primitive byte -/
def k10 : Class := { plain "byte" none with kind := .primitive 'B', accessFlags := 0x411 }
/-- [B -/
def k11 : Class := { plain "[B" (some 0) with kind := .array 10 .byte, interfaces := #[8, 4], accessFlags := 1041 }

/-- the primitive int -/
def k12 : Class := { plain "int" none with kind := .primitive 'I', accessFlags := 0x411 }
/-- [I -/
def k13 : Class := { plain "[I" (some 0) with kind := .array 12 .int, interfaces := #[8, 4], accessFlags := 1041 }

/-- [Lcom/example/keyed_collections/keyedcollections/protocol/Feature; -/
def k14 : Class := { plain "[Lcom/example/keyed_collections/keyedcollections/protocol/Feature;" (some 0) with kind := .array 6 (.object "com/example/keyed_collections/keyedcollections/protocol/Feature"), interfaces := #[8, 4], accessFlags := 1041 }

def heap : Heap := #[{ cls := 6, slots := #[.ref 3, .ref 2], vm := .statics 6 },
  { cls := 7, slots := #[.ref 4], vm := .statics 7 },
  { cls := 14, slots := #[.ref 3], vm := .none },
  { cls := 6, slots := #[.null, .int 0, .int 0, .int 18], vm := .none },
  { cls := 7, slots := #[.null], vm := .none }]
def classes : Array Class := #[k0, k1, k2, k3, k4, k5, k6, k7, k8, k9, k10, k11, k12, k13, k14]
def interned : List (Array UInt16 × Addr) := []
def slotsUsed : Nat := 9
def theMethod : MethodId := ⟨1, 1⟩
def args0 : Array Value := #[.int 18, .int 2]
def aboutOver (below : List Frame) : State where
  vm := { classes := classes, interned := interned.toArray }
  heap := heap
  slotsUsed := slotsUsed
  threads := #[{ frames := .invoking theMethod args0 :: below }]
def below0 : List Frame := [.native { method := ⟨0, 0⟩, args := #[] }]
def about1 : State := aboutOver below0
def p0 : Program := .bare "" "" ""
def e0 : Env := launch0.env 0 0 0
theorem w_frames : about1.frames = Frame.invoking theMethod args0 :: below0 := rfl
set_option maxRecDepth 65536 in
theorem w_args : argsFit about1.vm theMethod args0 = true := by decide +kernel
set_option maxRecDepth 65536 in
theorem w_heap : heapFits about1 = true := by decide +kernel
set_option maxRecDepth 65536 in
theorem w_runnable : about1.curStatus? = some .runnable := by decide +kernel
set_option maxRecDepth 65536 in
theorem w_alone : about1.alone = true := by decide +kernel
set_option maxRecDepth 65536 in
theorem w_named : about1.methodNamed? x = some theMethod := by decide +kernel
set_option maxRecDepth 65536 in
theorem w_hears : about1.hears theMethod below0 = true := by decide +kernel
set_option maxRecDepth 65536 in
theorem w_ripe : about1.ripe theMethod args0 below0 = true := by decide +kernel
theorem w_running : about1.status = .running := rfl
set_option maxRecDepth 65536 in
theorem w_room : about1.hasRoom e0.platform room_1 = true :=
  launch0.hasRoom_least _ room_1 (by decide +kernel) (by decide +kernel) (by decide +kernel) (by decide +kernel) (by decide +kernel) (by decide +kernel)
theorem allAtoms_all (ts : List Jvm.Cond) (a : Array Jvm.Value) (st : Jvm.State) : (allAtoms ts).before a st = ts.all (fun c => c.before a st) := by
  induction ts with
  | nil => rfl
  | cons c t ih =>
    show (Jvm.Cond.and c (allAtoms t)).before a st = _
    rw [Jvm.Cond.before_and, ih, List.all_cons]
def words1 : List Jvm.Cond := Jvm.Cond.code x code maxLocals ret :: tables_1
/-- a 'code' word, met by the world's own term for the bytes: nothing is compared byte by byte -/
theorem code_word {y : MethodName} {bytes : ByteArray} {mx : Nat} {rt : Option FieldType} {a : Array Value} {s : State} {m : MethodId} {meth : Method} {c : Code} (h1 : s.methodNamed? y = some m) (h2 : s.vm.method? m = some meth) (h3 : meth.code = some c) (h4 : c.code = bytes)
    (h5 : (c.maxLocals == mx && c.exceptionTable.isEmpty && decide (c.maxStack ≤ mostOperands) && decide (meth.sig.returnType = rt) && !meth.locks && decide (parseMethodDescriptor y.desc = some meth.sig)) = true) : (Jvm.Cond.code y bytes mx rt).before a s = true := by
  simp only [Bool.and_eq_true, beq_iff_eq, Bool.not_eq_true', decide_eq_true_eq] at h5
  obtain ⟨⟨⟨⟨⟨g1, g2⟩, g3⟩, g4⟩, g5⟩, g6⟩ := h5
  simp [Cond.before, Cond.holds, Cond.value, h1, h2, h3, h4, g1, g2, g3, g4, g5, g6]
def isCode : Jvm.Cond → Bool
  | .code _ _ _ _ => true
  | _ => false
theorem all_split {L : List Jvm.Cond} {P : Jvm.Cond → Bool} (h1 : L.all (fun c => isCode c || P c) = true) (h2 : ∀ c ∈ L.filter isCode, P c = true) : L.all P = true := by
  refine List.all_eq_true.mpr fun c hc => ?_
  have h := List.all_eq_true.mp h1 c hc
  rcases Bool.eq_false_or_eq_true (isCode c) with hi | hi
  · exact h2 c (List.mem_filter.mpr ⟨hc, hi⟩)
  · simpa [hi] using h
set_option maxRecDepth 65536 in
theorem w_c0 : (Jvm.Cond.code x code maxLocals ret).before args0 about1 = true := code_word (m := ⟨1, 1⟩) (meth := k1m1) (c := k1c1) (by decide +kernel) rfl rfl rfl (by decide +kernel)
set_option maxRecDepth 65536 in
theorem w_c1 : (Jvm.Cond.code ({ cls := "com/example/keyed_collections/keyedcollections/protocol/Feature", name := "of", desc := "(I)Ljava/util/Optional;" } : Jvm.MethodName) prog_9_method_5_code (6 : Nat) (Option.some (Jvm.ClassFile.FieldType.object "java/util/Optional"))).before args0 about1 = true := code_word (m := ⟨6, 1⟩) (meth := k6m1) (c := k6c1) (by decide +kernel) rfl rfl rfl (by decide +kernel)
set_option maxRecDepth 65536 in
theorem w_c2 : (Jvm.Cond.code ({ cls := "java/util/Optional", name := "empty", desc := "()Ljava/util/Optional;" } : Jvm.MethodName) jdk_32_method_1_code (1 : Nat) (Option.some (Jvm.ClassFile.FieldType.object "java/util/Optional"))).before args0 about1 = true := code_word (m := ⟨7, 0⟩) (meth := k7m0) (c := k7c0) (by decide +kernel) rfl rfl rfl (by decide +kernel)
set_option maxRecDepth 65536 in
theorem w_c3 : (Jvm.Cond.code ({ cls := "com/example/keyed_collections/keyedcollections/protocol/Feature", name := "values", desc := "()[Lcom/example/keyed_collections/keyedcollections/protocol/Feature;" } : Jvm.MethodName) prog_9_method_1_code (0 : Nat) (Option.some (Jvm.ClassFile.FieldType.array (Jvm.ClassFile.FieldType.object "com/example/keyed_collections/keyedcollections/protocol/Feature")))).before args0 about1 = true := code_word (m := ⟨6, 0⟩) (meth := k6m0) (c := k6c0) (by decide +kernel) rfl rfl rfl (by decide +kernel)
set_option maxRecDepth 65536 in
theorem w_c4 : (Jvm.Cond.code ({ cls := "java/util/Optional", name := "orElse", desc := "(Ljava/lang/Object;)Ljava/lang/Object;" } : Jvm.MethodName) jdk_32_method_15_code (2 : Nat) (Option.some (Jvm.ClassFile.FieldType.object "java/lang/Object"))).before args0 about1 = true := code_word (m := ⟨7, 3⟩) (meth := k7m3) (c := k7c3) (by decide +kernel) rfl rfl rfl (by decide +kernel)
set_option maxRecDepth 65536 in
theorem w_c5 : (Jvm.Cond.code ({ cls := "java/util/Optional", name := "of", desc := "(Ljava/lang/Object;)Ljava/util/Optional;" } : Jvm.MethodName) jdk_32_method_3_code (1 : Nat) (Option.some (Jvm.ClassFile.FieldType.object "java/util/Optional"))).before args0 about1 = true := code_word (m := ⟨7, 2⟩) (meth := k7m2) (c := k7c2) (by decide +kernel) rfl rfl rfl (by decide +kernel)
set_option maxRecDepth 65536 in
theorem w_c6 : (Jvm.Cond.code ({ cls := "java/util/Objects", name := "requireNonNull", desc := "(Ljava/lang/Object;)Ljava/lang/Object;" } : Jvm.MethodName) jdk_31_method_10_code (1 : Nat) (Option.some (Jvm.ClassFile.FieldType.object "java/lang/Object"))).before args0 about1 = true := code_word (m := ⟨9, 1⟩) (meth := k9m1) (c := k9c1) (by decide +kernel) rfl rfl rfl (by decide +kernel)
set_option maxRecDepth 65536 in
theorem w_c7 : (Jvm.Cond.code ({ cls := "java/util/Optional", name := "<init>", desc := "(Ljava/lang/Object;)V" } : Jvm.MethodName) jdk_32_method_2_code (2 : Nat) (Option.none : Option Jvm.ClassFile.FieldType)).before args0 about1 = true := code_word (m := ⟨7, 1⟩) (meth := k7m1) (c := k7c1) (by decide +kernel) rfl rfl rfl (by decide +kernel)
set_option maxRecDepth 65536 in
theorem w_c8 : (Jvm.Cond.code ({ cls := "java/lang/Object", name := "<init>", desc := "()V" } : Jvm.MethodName) object_method_1_code (1 : Nat) (Option.none : Option Jvm.ClassFile.FieldType)).before args0 about1 = true := code_word (m := ⟨0, 0⟩) (meth := k0m0) (c := k0c0) (by decide +kernel) rfl rfl rfl (by decide +kernel)
def codes1 : List Jvm.Cond := [Jvm.Cond.code x code maxLocals ret, Jvm.Cond.code ({ cls := "com/example/keyed_collections/keyedcollections/protocol/Feature", name := "of", desc := "(I)Ljava/util/Optional;" } : Jvm.MethodName) prog_9_method_5_code (6 : Nat) (Option.some (Jvm.ClassFile.FieldType.object "java/util/Optional")), Jvm.Cond.code ({ cls := "java/util/Optional", name := "empty", desc := "()Ljava/util/Optional;" } : Jvm.MethodName) jdk_32_method_1_code (1 : Nat) (Option.some (Jvm.ClassFile.FieldType.object "java/util/Optional")), Jvm.Cond.code ({ cls := "com/example/keyed_collections/keyedcollections/protocol/Feature", name := "values", desc := "()[Lcom/example/keyed_collections/keyedcollections/protocol/Feature;" } : Jvm.MethodName) prog_9_method_1_code (0 : Nat) (Option.some (Jvm.ClassFile.FieldType.array (Jvm.ClassFile.FieldType.object "com/example/keyed_collections/keyedcollections/protocol/Feature"))), Jvm.Cond.code ({ cls := "java/util/Optional", name := "orElse", desc := "(Ljava/lang/Object;)Ljava/lang/Object;" } : Jvm.MethodName) jdk_32_method_15_code (2 : Nat) (Option.some (Jvm.ClassFile.FieldType.object "java/lang/Object")), Jvm.Cond.code ({ cls := "java/util/Optional", name := "of", desc := "(Ljava/lang/Object;)Ljava/util/Optional;" } : Jvm.MethodName) jdk_32_method_3_code (1 : Nat) (Option.some (Jvm.ClassFile.FieldType.object "java/util/Optional")), Jvm.Cond.code ({ cls := "java/util/Objects", name := "requireNonNull", desc := "(Ljava/lang/Object;)Ljava/lang/Object;" } : Jvm.MethodName) jdk_31_method_10_code (1 : Nat) (Option.some (Jvm.ClassFile.FieldType.object "java/lang/Object")), Jvm.Cond.code ({ cls := "java/util/Optional", name := "<init>", desc := "(Ljava/lang/Object;)V" } : Jvm.MethodName) jdk_32_method_2_code (2 : Nat) (Option.none : Option Jvm.ClassFile.FieldType), Jvm.Cond.code ({ cls := "java/lang/Object", name := "<init>", desc := "()V" } : Jvm.MethodName) object_method_1_code (1 : Nat) (Option.none : Option Jvm.ClassFile.FieldType)]
set_option maxRecDepth 65536 in
theorem codes_eq : words1.filter isCode = codes1 := rfl
theorem w_codes : ∀ c ∈ words1.filter isCode, c.before args0 about1 = true := by
  rw [codes_eq]
  intro c hc
  simp only [codes1, List.mem_cons, List.not_mem_nil, or_false] at hc
  rcases hc with rfl | rfl | rfl | rfl | rfl | rfl | rfl | rfl | rfl
  · exact w_c0
  · exact w_c1
  · exact w_c2
  · exact w_c3
  · exact w_c4
  · exact w_c5
  · exact w_c6
  · exact w_c7
  · exact w_c8
set_option maxRecDepth 65536 in
theorem w_t1 : (words1.take 24).all (fun c => isCode c || c.before args0 about1) = true := by decide +kernel
set_option maxRecDepth 65536 in
theorem w_t2 : ((words1.drop 24).take 24).all (fun c => isCode c || c.before args0 about1) = true := by decide +kernel
set_option maxRecDepth 65536 in
theorem w_t3 : ((words1.drop 24).drop 24).all (fun c => isCode c || c.before args0 about1) = true := by decide +kernel
theorem w_tables : (allAtoms (Jvm.Cond.code x code maxLocals ret :: tables_1)).before args0 about1 = true := by
  rw [allAtoms_all]
  show words1.all (fun c => c.before args0 about1) = true
  refine all_split ?_ w_codes
  rw [← List.take_append_drop 24 words1, List.all_append, w_t1, ← List.take_append_drop 24 (words1.drop 24), List.all_append, w_t2, w_t3]
  rfl
set_option maxRecDepth 65536 in
theorem w_rest : rest_1_c.before args0 about1 = true := by decide +kernel
set_option maxRecDepth 65536 in
theorem w_case : (Jvm.Cond.and given_1 narrow_1).before args0 about1 = true := by decide +kernel
theorem w_applies : (headSpec (Jvm.Cond.code x code maxLocals ret :: tables_1) room_1).applies x e0.platform about1 = true :=
  (Spec.applies_iff w_frames).mpr ⟨w_running, w_runnable, w_alone, w_named, w_hears, w_ripe, w_room, w_tables⟩
theorem atStart : AtStart classFile x code maxLocals ret World_1 tables_1 room_1 Calls_1 rest_1 Pre_1 launch0 p0 e0 about1 theMethod args0 below0 :=
  ⟨lists_1, trivial, launch0.admits_env _ _ _, launch0.least_env, fairChoices_fair.cas, fairChoices_fair.clock, w_frames, w_args, w_heap, w_applies, trivial, w_rest, w_case⟩
end start1
theorem witness_1 : WitnessClaimed_1 := ⟨start1.p0, start1.e0, start1.about1, start1.theMethod, start1.args0, start1.below0, start1.atStart⟩
end Jvm.Pilot.@@N@@
