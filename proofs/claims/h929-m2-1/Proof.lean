import JvmDerived
import JvmDerived.Pilot.@@N@@Statement
import JvmDerived.Pilot.@@N@@Code
set_option linter.unusedVariables false
set_option linter.unusedSimpArgs false
@@BLOCK:NumsL.lean.txt@@
namespace Jvm.Pilot.@@N@@
open Jvm Jvm.ClassFile Sem Op Lib Jvm.Free Jvm.Stand Jvm.LawKit Jvm.RoadKit Bundle Jvm.Pilot.@@N@@.Jvm.D
theorem own_eqL {x y : Int64} (h : x = y) : lcmpW x y = 0 := by rw [lcW]; exact (lc_eq x y).2 h
theorem own_neL {x y : Int64} (h : ¬ x = y) : ¬ lcmpW x y = 0 := by rw [lcW]; exact fun q => h ((lc_eq x y).1 q)
theorem own_ltL {x y : Int64} (h : x < y) : lcmpW x y < 0 := by rw [lcW]; exact (lc_lt x y).2 h
theorem own_nltL {x y : Int64} (h : ¬ x < y) : ¬ lcmpW x y < 0 := by rw [lcW]; exact fun q => h ((lc_lt x y).1 q)
theorem own_gtL {x y : Int64} (h : y < x) : 0 < lcmpW x y := by rw [lcW]; exact (lc_gt x y).2 h
theorem own_sta_keep0 {Z : State} {h h' : Heap} {C n d : String} {v : Value} (F : Sta Z h C n d v) (K : Keep h h' []) : Sta Z h' C n d v := by
  obtain ⟨cf, i, k, f, st, cell, h1, h2, h3, h4, h5, r⟩ := F
  exact ⟨cf, i, k, f, st, cell, h1, h2, h3, h4, K.2.1 _ _ h5 List.not_mem_nil, r⟩
theorem own_ngtL {x y : Int64} (h : ¬ y < x) : ¬ 0 < lcmpW x y := by rw [lcW]; exact fun q => h ((lc_gt x y).1 q)
theorem pn_0 : plainName "com/example/tetrawell/tetrawell/nes/SplitMix64" = true := by first | (simp [plainName, overriddenIn]; done) | decide +kernel
theorem d1_0 : decode prog_25_method_1_code 0 = .ok (.aload_n 0, 1) := by decide +kernel
theorem d1_1 : decode prog_25_method_1_code 1 = .ok (.invokespecial 1, 3) := by decide +kernel
theorem d1_4 : decode prog_25_method_1_code 4 = .ok (.aload_n 0, 1) := by decide +kernel
theorem d1_5 : decode prog_25_method_1_code 5 = .ok (.lload_n 1, 1) := by decide +kernel
theorem d1_6 : decode prog_25_method_1_code 6 = .ok (.putfield 7, 3) := by decide +kernel
theorem d1_9 : decode prog_25_method_1_code 9 = .ok (.return_, 1) := by decide +kernel
theorem ef_1 (m : MethodId) (x0 : Addr) (x1 : Int64) : entryFrame m #[(.ref x0), (.long x1)] 3 = mkF m 0 #[.val (.ref x0), .val (.long x1), .second] [] := by first | (simp [entryFrame, mkF, argsToLocals, Value.category]; done) | rfl
def Q1 (Z : State) (a0 : Addr) (q1 : Int64) (w_state_a0 : Int64) (h0 : Heap) (n0 : Nat) (v : Option Value) (h : Heap) (L : List Loc) : Prop := v = none ∧ Fr n0 L ∧ Keep h0 h [a0] ∧ Exa Z h a0 "com/example/tetrawell/tetrawell/nes/SplitMix64" ∧ Fld Z h a0 "com/example/tetrawell/tetrawell/nes/SplitMix64" "state" "J" (.long q1)
set_option maxRecDepth 65536 in
set_option maxHeartbeats 40000000 in
theorem rm1 (l : Launch) (Z : State) (a0 : Array Value) (hw : ∀ d ∈ tables_1, d.before a0 Z = true) (ws : List Jvm.Cond) (a0 : Addr) (q1 : Int64) (w_state_a0 : Int64) (h0 : Heap) (n0 : Nat) (Z0 : n0 ≤ h0.size) (E_a0 : Exa Z h0 a0 "com/example/tetrawell/tetrawell/nes/SplitMix64") (F_state_a0 : Fld Z h0 a0 "com/example/tetrawell/tetrawell/nes/SplitMix64" "state" "J" (.long w_state_a0)) (g_a0 : n0 ≤ a0) :
    MetFree l (⟨"com/example/tetrawell/tetrawell/nes/SplitMix64", "<init>", "(J)V"⟩ : MethodName) (head1 (Jvm.Cond.code (⟨"com/example/tetrawell/tetrawell/nes/SplitMix64", "<init>", "(J)V"⟩ : MethodName) prog_25_method_1_code 3 none :: ws) ({ frames := 1, cells := 0, slots := 0, locals := 12 } : Room)) (fun a U => a = #[(.ref a0), (.long q1)] ∧ Z.Warmed39 U.vm ∧ U.heap = h0) (fun _ _ _ _ _ => True) (fun _ U o U' => ∃ v L, o = .returned v ∧ Q1 Z a0 q1 w_state_a0 h0 n0 v U'.heap L ∧ FrameEnd U o U' L ({ frames := 1, cells := 0, slots := 0, locals := 12 } : Room).cells ({ frames := 1, cells := 0, slots := 0, locals := 12 } : Room).slots) := by
  refine MetFree.of_bodySF (plainFor_of_name pn_0) hisR ?_
  intro p e s m args below meth c s₁ Bd hml0 hP hK
  obtain ⟨rfl, hZ, hh⟩ := hP
  have hx := Bd.exec
  have hby := Bd.bytes
  have hml : c.maxLocals = 3 := hml0
  have hown : s.vm.findClass "com/example/tetrawell/tetrawell/nes/SplitMix64" = some m.cls := findClass_of_methodNamed Bd.named
  have hnm := (name_of_methodNamed Bd.named Bd.method).1
  have X0 : Stand p l e ({ frames := 1, cells := 0, slots := 0, locals := 12 } : Room) s m #[(.ref a0), (.long q1)] below meth c s₁ [] 0 0 := Stand.of_body Bd
  have e0 : s₁.heap = h0 := by rw [← hh, Bd.state]; rfl
  have N0 := Fr.nil n0
  have pre0 : ∀ t, Steps p.tables e below (s₁.setTop (mkF m 0 #[.val (.ref a0), .val (.long q1), .second] [])) t → Steps p.tables e below (s₁.setTop (entryFrame m #[(.ref a0), (.long q1)] 3)) t := fun t k => castTop (ef_1 m a0 q1) k
  have pre1 : ∀ t, Steps p.tables e below (s₁.setTop (mkF m 1 #[.val (.ref a0), .val (.long q1), .second] [(.ref a0)])) t → Steps p.tables e below (s₁.setTop (entryFrame m #[(.ref a0), (.long q1)] 3)) t := by
    intro t k
    refine pre0 t ?_
    show Steps p.tables e below (s₁.setTop (mkF m 0 #[.val (.ref a0), .val (.long q1), .second] [])) _
    refine XS.aloadN X0.here hx rfl (hb hby d1_0) rfl rfl ?_
    show Steps p.tables e below (s₁.setTop (mkF m 1 #[.val (.ref a0), .val (.long q1), .second] [(.ref a0)])) _
    exact k
  obtain ⟨T2, X2, e2, st2⟩ := initO X0 hx hZ hown (hw _ (List.mem_of_getElem? (i := 7) rfl)) (hw _ (List.mem_of_getElem? (i := 8) rfl)) (hw _ (List.mem_of_getElem? (i := 9) rfl)) e0 (g := (mkF m 1 #[.val (.ref a0), .val (.long q1), .second] [(.ref a0)])) rfl (by rw [hml]; rfl) rfl (hb hby d1_1) (by decide) (W := 0) (by show 2 * 0 + _ ≤ _; exact Nat.le_of_eq rfl) (by decide)
  have pre3 : ∀ t, Steps p.tables e below (T2.setTop (mkF m 4 #[.val (.ref a0), .val (.long q1), .second] [])) t → Steps p.tables e below (s₁.setTop (entryFrame m #[(.ref a0), (.long q1)] 3)) t := fun t k => pre1 t (st2 t k)
  have pre4 : ∀ t, Steps p.tables e below (T2.setTop (mkF m 6 #[.val (.ref a0), .val (.long q1), .second] [(.long q1), (.ref a0)])) t → Steps p.tables e below (s₁.setTop (entryFrame m #[(.ref a0), (.long q1)] 3)) t := by
    intro t k
    refine pre3 t ?_
    show Steps p.tables e below (T2.setTop (mkF m 4 #[.val (.ref a0), .val (.long q1), .second] [])) _
    refine XS.aloadN X2.here hx rfl (hb hby d1_4) rfl rfl ?_
    show Steps p.tables e below (T2.setTop (mkF m 5 #[.val (.ref a0), .val (.long q1), .second] [(.ref a0)])) _
    refine XS.lloadN X2.here hx rfl (hb hby d1_5) rfl ?_
    show Steps p.tables e below (T2.setTop (mkF m 6 #[.val (.ref a0), .val (.long q1), .second] [(.long q1), (.ref a0)])) _
    exact k
  obtain ⟨T5, h5, X5, e5, W5, st5⟩ := putF X2 hx hZ hown (host := "") (Or.inl (hw _ (List.mem_of_getElem? (i := 10) rfl))) Via.refl e2 F_state_a0 E_a0 (Or.inl (hw _ (List.mem_of_getElem? (i := 11) rfl))) (hw _ (List.mem_of_getElem? (i := 2) rfl)) (ty := .long) (by decide) rfl rfl (g := (mkF m 6 #[.val (.ref a0), .val (.long q1), .second] [(.long q1), (.ref a0)])) rfl rfl (hb hby d1_6)
  have Z5 : n0 ≤ h5.size := Nat.le_trans Z0 (Keep.of_wr W5).1
  have K5 : Keep h0 h5 [a0] := (Keep.refl h0 [a0]).wr W5 (Or.inl (List.mem_of_getElem? (i := 0) rfl))
  have N5 := Fr.snoc X5 N0 g_a0
  have Ef6 : Exa Z h5 a0 "com/example/tetrawell/tetrawell/nes/SplitMix64" := (E_a0).wr W5
  have Fw5 : Fld Z h5 a0 "com/example/tetrawell/tetrawell/nes/SplitMix64" "state" "J" (.long q1) := (F_state_a0).same W5
  have pre7 : ∀ t, Steps p.tables e below (T5.setTop (mkF m 9 #[.val (.ref a0), .val (.long q1), .second] [])) t → Steps p.tables e below (s₁.setTop (entryFrame m #[(.ref a0), (.long q1)] 3)) t := fun t k => pre4 t (st5 t k)
  obtain ⟨fs, hr, hrun, hended, hW, hsame⟩ := X5.leave (v := none) (fun _ => rfl)
  refine ⟨_, _, pre7 _ ?_, hrun, hended, _, _, rfl, ?_, ⟨_, rfl⟩, hW, hsame.mono (by decide) (by decide)⟩
  · show Steps p.tables e below (T5.setTop (mkF m 9 #[.val (.ref a0), .val (.long q1), .second] [])) _
    exact X5.returnOut hx Bd.returns (hb hby d1_9) hr
  · show Q1 Z a0 q1 w_state_a0 h0 n0 _ T5.heap _
    rw [e5]
    exact ⟨rfl, N5, K5, Ef6, Fw5⟩
theorem d3_0 : decode prog_25_method_2_code 0 = .ok (.aload_n 0, 1) := by decide +kernel
theorem d3_1 : decode prog_25_method_2_code 1 = .ok (.dup, 1) := by decide +kernel
theorem d3_2 : decode prog_25_method_2_code 2 = .ok (.getfield 7, 3) := by decide +kernel
theorem d3_5 : decode prog_25_method_2_code 5 = .ok (.ldc2_w 13, 3) := by decide +kernel
theorem d3_8 : decode prog_25_method_2_code 8 = .ok (.ladd, 1) := by decide +kernel
theorem d3_9 : decode prog_25_method_2_code 9 = .ok (.putfield 7, 3) := by decide +kernel
theorem d3_12 : decode prog_25_method_2_code 12 = .ok (.aload_n 0, 1) := by decide +kernel
theorem d3_13 : decode prog_25_method_2_code 13 = .ok (.getfield 7, 3) := by decide +kernel
theorem d3_16 : decode prog_25_method_2_code 16 = .ok (.lstore_n 1, 1) := by decide +kernel
theorem d3_17 : decode prog_25_method_2_code 17 = .ok (.lload_n 1, 1) := by decide +kernel
theorem d3_18 : decode prog_25_method_2_code 18 = .ok (.lload_n 1, 1) := by decide +kernel
theorem d3_19 : decode prog_25_method_2_code 19 = .ok (.bipush 30, 2) := by decide +kernel
theorem d3_21 : decode prog_25_method_2_code 21 = .ok (.lushr, 1) := by decide +kernel
theorem d3_22 : decode prog_25_method_2_code 22 = .ok (.lxor, 1) := by decide +kernel
theorem d3_23 : decode prog_25_method_2_code 23 = .ok (.ldc2_w 15, 3) := by decide +kernel
theorem d3_26 : decode prog_25_method_2_code 26 = .ok (.lmul, 1) := by decide +kernel
theorem d3_27 : decode prog_25_method_2_code 27 = .ok (.lstore_n 1, 1) := by decide +kernel
theorem d3_28 : decode prog_25_method_2_code 28 = .ok (.lload_n 1, 1) := by decide +kernel
theorem d3_29 : decode prog_25_method_2_code 29 = .ok (.lload_n 1, 1) := by decide +kernel
theorem d3_30 : decode prog_25_method_2_code 30 = .ok (.bipush 27, 2) := by decide +kernel
theorem d3_32 : decode prog_25_method_2_code 32 = .ok (.lushr, 1) := by decide +kernel
theorem d3_33 : decode prog_25_method_2_code 33 = .ok (.lxor, 1) := by decide +kernel
theorem d3_34 : decode prog_25_method_2_code 34 = .ok (.ldc2_w 17, 3) := by decide +kernel
theorem d3_37 : decode prog_25_method_2_code 37 = .ok (.lmul, 1) := by decide +kernel
theorem d3_38 : decode prog_25_method_2_code 38 = .ok (.lstore_n 1, 1) := by decide +kernel
theorem d3_39 : decode prog_25_method_2_code 39 = .ok (.lload_n 1, 1) := by decide +kernel
theorem d3_40 : decode prog_25_method_2_code 40 = .ok (.lload_n 1, 1) := by decide +kernel
theorem d3_41 : decode prog_25_method_2_code 41 = .ok (.bipush 31, 2) := by decide +kernel
theorem d3_43 : decode prog_25_method_2_code 43 = .ok (.lushr, 1) := by decide +kernel
theorem d3_44 : decode prog_25_method_2_code 44 = .ok (.lxor, 1) := by decide +kernel
theorem d3_45 : decode prog_25_method_2_code 45 = .ok (.lreturn, 1) := by decide +kernel
theorem ef_3 (m : MethodId) (x0 : Addr) : entryFrame m #[(.ref x0)] 3 = mkF m 0 #[.val (.ref x0), .unset, .unset] [] := by first | (simp [entryFrame, mkF, argsToLocals, Value.category]; done) | rfl
def f3 (w_state_a0 : Int64) : Int64 := ((((((w_state_a0 + (-7046029254386353131 : Int64)) ^^^ (((w_state_a0 + (-7046029254386353131 : Int64)).toUInt64 >>> ((30 : Int32) &&& 0x3f).toInt64.toUInt64).toInt64)) * (-4658895280553007687 : Int64)) ^^^ (((((w_state_a0 + (-7046029254386353131 : Int64)) ^^^ (((w_state_a0 + (-7046029254386353131 : Int64)).toUInt64 >>> ((30 : Int32) &&& 0x3f).toInt64.toUInt64).toInt64)) * (-4658895280553007687 : Int64)).toUInt64 >>> ((27 : Int32) &&& 0x3f).toInt64.toUInt64).toInt64)) * (-7723592293110705685 : Int64)) ^^^ (((((((w_state_a0 + (-7046029254386353131 : Int64)) ^^^ (((w_state_a0 + (-7046029254386353131 : Int64)).toUInt64 >>> ((30 : Int32) &&& 0x3f).toInt64.toUInt64).toInt64)) * (-4658895280553007687 : Int64)) ^^^ (((((w_state_a0 + (-7046029254386353131 : Int64)) ^^^ (((w_state_a0 + (-7046029254386353131 : Int64)).toUInt64 >>> ((30 : Int32) &&& 0x3f).toInt64.toUInt64).toInt64)) * (-4658895280553007687 : Int64)).toUInt64 >>> ((27 : Int32) &&& 0x3f).toInt64.toUInt64).toInt64)) * (-7723592293110705685 : Int64)).toUInt64 >>> ((31 : Int32) &&& 0x3f).toInt64.toUInt64).toInt64))
def Q3 (Z : State) (a0 : Addr) (w_state_a0 : Int64) (h0 : Heap) (n0 : Nat) (v : Option Value) (h : Heap) (L : List Loc) : Prop := v = some (.long (f3 w_state_a0)) ∧ Fr n0 L ∧ Keep h0 h [a0] ∧ Exa Z h a0 "com/example/tetrawell/tetrawell/nes/SplitMix64" ∧ Fld Z h a0 "com/example/tetrawell/tetrawell/nes/SplitMix64" "state" "J" (.long (w_state_a0 + (-7046029254386353131 : Int64)))
set_option maxRecDepth 65536 in
set_option maxHeartbeats 40000000 in
theorem rm3 (l : Launch) (Z : State) (a0 : Array Value) (hw : ∀ d ∈ tables_1, d.before a0 Z = true) (ws : List Jvm.Cond) (a0 : Addr) (w_state_a0 : Int64) (h0 : Heap) (n0 : Nat) (Z0 : n0 ≤ h0.size) (F_state_a0 : Fld Z h0 a0 "com/example/tetrawell/tetrawell/nes/SplitMix64" "state" "J" (.long w_state_a0)) (E_a0 : Exa Z h0 a0 "com/example/tetrawell/tetrawell/nes/SplitMix64") (g_a0 : n0 ≤ a0) :
    MetFree l (⟨"com/example/tetrawell/tetrawell/nes/SplitMix64", "nextLong", "()J"⟩ : MethodName) (head1 (Jvm.Cond.code (⟨"com/example/tetrawell/tetrawell/nes/SplitMix64", "nextLong", "()J"⟩ : MethodName) prog_25_method_2_code 3 (some .long) :: ws) ({ frames := 0, cells := 0, slots := 0, locals := 0 } : Room)) (fun a U => a = #[(.ref a0)] ∧ Z.Warmed39 U.vm ∧ U.heap = h0) (fun _ _ _ _ _ => True) (fun _ U o U' => ∃ v L, o = .returned v ∧ Q3 Z a0 w_state_a0 h0 n0 v U'.heap L ∧ FrameEnd U o U' L ({ frames := 0, cells := 0, slots := 0, locals := 0 } : Room).cells ({ frames := 0, cells := 0, slots := 0, locals := 0 } : Room).slots) := by
  refine MetFree.of_bodySF (plainFor_of_name pn_0) hisR ?_
  intro p e s m args below meth c s₁ Bd hml0 hP hK
  obtain ⟨rfl, hZ, hh⟩ := hP
  have hx := Bd.exec
  have hby := Bd.bytes
  have hml : c.maxLocals = 3 := hml0
  have hown : s.vm.findClass "com/example/tetrawell/tetrawell/nes/SplitMix64" = some m.cls := findClass_of_methodNamed Bd.named
  have hnm := (name_of_methodNamed Bd.named Bd.method).1
  have X0 : Stand p l e ({ frames := 0, cells := 0, slots := 0, locals := 0 } : Room) s m #[(.ref a0)] below meth c s₁ [] 0 0 := Stand.of_body Bd
  have e0 : s₁.heap = h0 := by rw [← hh, Bd.state]; rfl
  have N0 := Fr.nil n0
  have pre0 : ∀ t, Steps p.tables e below (s₁.setTop (mkF m 0 #[.val (.ref a0), .unset, .unset] [])) t → Steps p.tables e below (s₁.setTop (entryFrame m #[(.ref a0)] 3)) t := fun t k => castTop (ef_3 m a0) k
  have pre8 : ∀ t, Steps p.tables e below (s₁.setTop (mkF m 2 #[.val (.ref a0), .unset, .unset] [(.ref a0), (.ref a0)])) t → Steps p.tables e below (s₁.setTop (entryFrame m #[(.ref a0)] 3)) t := by
    intro t k
    refine pre0 t ?_
    show Steps p.tables e below (s₁.setTop (mkF m 0 #[.val (.ref a0), .unset, .unset] [])) _
    refine XS.aloadN X0.here hx rfl (hb hby d3_0) rfl rfl ?_
    show Steps p.tables e below (s₁.setTop (mkF m 1 #[.val (.ref a0), .unset, .unset] [(.ref a0)])) _
    refine XS.dup X0.here hx rfl (hb hby d3_1) rfl rfl ?_
    show Steps p.tables e below (s₁.setTop (mkF m 2 #[.val (.ref a0), .unset, .unset] [(.ref a0), (.ref a0)])) _
    exact k
  obtain ⟨T9, X9, e9, st9⟩ := getF X0 hx hZ hown (host := "") (Or.inl (hw _ (List.mem_of_getElem? (i := 10) rfl))) Via.refl e0 F_state_a0 (g := (mkF m 2 #[.val (.ref a0), .unset, .unset] [(.ref a0), (.ref a0)])) rfl rfl (hb hby d3_2)
  have pre10 : ∀ t, Steps p.tables e below (T9.setTop (mkF m 5 #[.val (.ref a0), .unset, .unset] [(.long w_state_a0), (.ref a0)])) t → Steps p.tables e below (s₁.setTop (entryFrame m #[(.ref a0)] 3)) t := fun t k => pre8 t (st9 t k)
  have pre11 : ∀ t, Steps p.tables e below (T9.setTop (mkF m 9 #[.val (.ref a0), .unset, .unset] [(.long (w_state_a0 + (-7046029254386353131 : Int64))), (.ref a0)])) t → Steps p.tables e below (s₁.setTop (entryFrame m #[(.ref a0)] 3)) t := by
    intro t k
    refine pre10 t ?_
    show Steps p.tables e below (T9.setTop (mkF m 5 #[.val (.ref a0), .unset, .unset] [(.long w_state_a0), (.ref a0)])) _
    refine X9.ldc2Long hx hown (mvT hZ (hw _ (List.mem_of_getElem? (i := 17) rfl))) (g := (mkF m 5 #[.val (.ref a0), .unset, .unset] [(.long w_state_a0), (.ref a0)])) rfl (hb hby d3_5) _ ?_
    show Steps p.tables e below (T9.setTop (mkF m 8 #[.val (.ref a0), .unset, .unset] [(.long (-7046029254386353131 : Int64)), (.long w_state_a0), (.ref a0)])) _
    refine XS.ladd X9.here hx rfl (hb hby d3_8) rfl ?_
    show Steps p.tables e below (T9.setTop (mkF m 9 #[.val (.ref a0), .unset, .unset] [(.long (w_state_a0 + (-7046029254386353131 : Int64))), (.ref a0)])) _
    exact k
  obtain ⟨T12, h12, X12, e12, W12, st12⟩ := putF X9 hx hZ hown (host := "") (Or.inl (hw _ (List.mem_of_getElem? (i := 10) rfl))) Via.refl e9 F_state_a0 E_a0 (Or.inl (hw _ (List.mem_of_getElem? (i := 11) rfl))) (hw _ (List.mem_of_getElem? (i := 2) rfl)) (ty := .long) (by decide) rfl rfl (g := (mkF m 9 #[.val (.ref a0), .unset, .unset] [(.long (w_state_a0 + (-7046029254386353131 : Int64))), (.ref a0)])) rfl rfl (hb hby d3_9)
  have Z12 : n0 ≤ h12.size := Nat.le_trans Z0 (Keep.of_wr W12).1
  have K12 : Keep h0 h12 [a0] := (Keep.refl h0 [a0]).wr W12 (Or.inl (List.mem_of_getElem? (i := 0) rfl))
  have N12 := Fr.snoc X12 N0 g_a0
  have Ef13 : Exa Z h12 a0 "com/example/tetrawell/tetrawell/nes/SplitMix64" := (E_a0).wr W12
  have Fw12 : Fld Z h12 a0 "com/example/tetrawell/tetrawell/nes/SplitMix64" "state" "J" (.long (w_state_a0 + (-7046029254386353131 : Int64))) := (F_state_a0).same W12
  have pre14 : ∀ t, Steps p.tables e below (T12.setTop (mkF m 12 #[.val (.ref a0), .unset, .unset] [])) t → Steps p.tables e below (s₁.setTop (entryFrame m #[(.ref a0)] 3)) t := fun t k => pre11 t (st12 t k)
  have pre15 : ∀ t, Steps p.tables e below (T12.setTop (mkF m 13 #[.val (.ref a0), .unset, .unset] [(.ref a0)])) t → Steps p.tables e below (s₁.setTop (entryFrame m #[(.ref a0)] 3)) t := by
    intro t k
    refine pre14 t ?_
    show Steps p.tables e below (T12.setTop (mkF m 12 #[.val (.ref a0), .unset, .unset] [])) _
    refine XS.aloadN X12.here hx rfl (hb hby d3_12) rfl rfl ?_
    show Steps p.tables e below (T12.setTop (mkF m 13 #[.val (.ref a0), .unset, .unset] [(.ref a0)])) _
    exact k
  obtain ⟨T16, X16, e16, st16⟩ := getF X12 hx hZ hown (host := "") (Or.inl (hw _ (List.mem_of_getElem? (i := 10) rfl))) Via.refl e12 Fw12 (g := (mkF m 13 #[.val (.ref a0), .unset, .unset] [(.ref a0)])) rfl rfl (hb hby d3_13)
  have pre17 : ∀ t, Steps p.tables e below (T16.setTop (mkF m 16 #[.val (.ref a0), .unset, .unset] [(.long (w_state_a0 + (-7046029254386353131 : Int64)))])) t → Steps p.tables e below (s₁.setTop (entryFrame m #[(.ref a0)] 3)) t := fun t k => pre15 t (st16 t k)
  obtain ⟨fs, hr, hrun, hended, hW, hsame⟩ := X16.leave (v := some (.long ((((((w_state_a0 + (-7046029254386353131 : Int64)) ^^^ (((w_state_a0 + (-7046029254386353131 : Int64)).toUInt64 >>> ((30 : Int32) &&& 0x3f).toInt64.toUInt64).toInt64)) * (-4658895280553007687 : Int64)) ^^^ (((((w_state_a0 + (-7046029254386353131 : Int64)) ^^^ (((w_state_a0 + (-7046029254386353131 : Int64)).toUInt64 >>> ((30 : Int32) &&& 0x3f).toInt64.toUInt64).toInt64)) * (-4658895280553007687 : Int64)).toUInt64 >>> ((27 : Int32) &&& 0x3f).toInt64.toUInt64).toInt64)) * (-7723592293110705685 : Int64)) ^^^ (((((((w_state_a0 + (-7046029254386353131 : Int64)) ^^^ (((w_state_a0 + (-7046029254386353131 : Int64)).toUInt64 >>> ((30 : Int32) &&& 0x3f).toInt64.toUInt64).toInt64)) * (-4658895280553007687 : Int64)) ^^^ (((((w_state_a0 + (-7046029254386353131 : Int64)) ^^^ (((w_state_a0 + (-7046029254386353131 : Int64)).toUInt64 >>> ((30 : Int32) &&& 0x3f).toInt64.toUInt64).toInt64)) * (-4658895280553007687 : Int64)).toUInt64 >>> ((27 : Int32) &&& 0x3f).toInt64.toUInt64).toInt64)) * (-7723592293110705685 : Int64)).toUInt64 >>> ((31 : Int32) &&& 0x3f).toInt64.toUInt64).toInt64)))) (fun h => by rw [Bd.returns] at h; cases h)
  refine ⟨_, _, pre17 _ ?_, hrun, hended, _, _, rfl, ?_, ⟨_, rfl⟩, hW, hsame.mono (by decide) (by decide)⟩
  · show Steps p.tables e below (T16.setTop (mkF m 16 #[.val (.ref a0), .unset, .unset] [(.long (w_state_a0 + (-7046029254386353131 : Int64)))])) _
    refine XS.lstoreN X16.here hx rfl (hb hby d3_16) rfl (l' := #[.val (.ref a0), .val (.long (w_state_a0 + (-7046029254386353131 : Int64))), .second]) rfl ?_
    show Steps p.tables e below (T16.setTop (mkF m 17 #[.val (.ref a0), .val (.long (w_state_a0 + (-7046029254386353131 : Int64))), .second] [])) _
    refine XS.lloadN X16.here hx rfl (hb hby d3_17) rfl ?_
    show Steps p.tables e below (T16.setTop (mkF m 18 #[.val (.ref a0), .val (.long (w_state_a0 + (-7046029254386353131 : Int64))), .second] [(.long (w_state_a0 + (-7046029254386353131 : Int64)))])) _
    refine XS.lloadN X16.here hx rfl (hb hby d3_18) rfl ?_
    show Steps p.tables e below (T16.setTop (mkF m 19 #[.val (.ref a0), .val (.long (w_state_a0 + (-7046029254386353131 : Int64))), .second] [(.long (w_state_a0 + (-7046029254386353131 : Int64))), (.long (w_state_a0 + (-7046029254386353131 : Int64)))])) _
    refine XS.bipush X16.here hx rfl (hb hby d3_19) ?_
    show Steps p.tables e below (T16.setTop (mkF m 21 #[.val (.ref a0), .val (.long (w_state_a0 + (-7046029254386353131 : Int64))), .second] [(.int (30 : Int32)), (.long (w_state_a0 + (-7046029254386353131 : Int64))), (.long (w_state_a0 + (-7046029254386353131 : Int64)))])) _
    refine XS.lushr X16.here hx rfl (hb hby d3_21) rfl ?_
    show Steps p.tables e below (T16.setTop (mkF m 22 #[.val (.ref a0), .val (.long (w_state_a0 + (-7046029254386353131 : Int64))), .second] [(.long (((w_state_a0 + (-7046029254386353131 : Int64)).toUInt64 >>> ((30 : Int32) &&& 0x3f).toInt64.toUInt64).toInt64)), (.long (w_state_a0 + (-7046029254386353131 : Int64)))])) _
    refine XS.lxor X16.here hx rfl (hb hby d3_22) rfl ?_
    show Steps p.tables e below (T16.setTop (mkF m 23 #[.val (.ref a0), .val (.long (w_state_a0 + (-7046029254386353131 : Int64))), .second] [(.long ((w_state_a0 + (-7046029254386353131 : Int64)) ^^^ (((w_state_a0 + (-7046029254386353131 : Int64)).toUInt64 >>> ((30 : Int32) &&& 0x3f).toInt64.toUInt64).toInt64)))])) _
    refine X16.ldc2Long hx hown (mvT hZ (hw _ (List.mem_of_getElem? (i := 18) rfl))) (g := (mkF m 23 #[.val (.ref a0), .val (.long (w_state_a0 + (-7046029254386353131 : Int64))), .second] [(.long ((w_state_a0 + (-7046029254386353131 : Int64)) ^^^ (((w_state_a0 + (-7046029254386353131 : Int64)).toUInt64 >>> ((30 : Int32) &&& 0x3f).toInt64.toUInt64).toInt64)))])) rfl (hb hby d3_23) _ ?_
    show Steps p.tables e below (T16.setTop (mkF m 26 #[.val (.ref a0), .val (.long (w_state_a0 + (-7046029254386353131 : Int64))), .second] [(.long (-4658895280553007687 : Int64)), (.long ((w_state_a0 + (-7046029254386353131 : Int64)) ^^^ (((w_state_a0 + (-7046029254386353131 : Int64)).toUInt64 >>> ((30 : Int32) &&& 0x3f).toInt64.toUInt64).toInt64)))])) _
    refine XS.lmul X16.here hx rfl (hb hby d3_26) rfl ?_
    show Steps p.tables e below (T16.setTop (mkF m 27 #[.val (.ref a0), .val (.long (w_state_a0 + (-7046029254386353131 : Int64))), .second] [(.long (((w_state_a0 + (-7046029254386353131 : Int64)) ^^^ (((w_state_a0 + (-7046029254386353131 : Int64)).toUInt64 >>> ((30 : Int32) &&& 0x3f).toInt64.toUInt64).toInt64)) * (-4658895280553007687 : Int64)))])) _
    refine XS.lstoreN X16.here hx rfl (hb hby d3_27) rfl (l' := #[.val (.ref a0), .val (.long (((w_state_a0 + (-7046029254386353131 : Int64)) ^^^ (((w_state_a0 + (-7046029254386353131 : Int64)).toUInt64 >>> ((30 : Int32) &&& 0x3f).toInt64.toUInt64).toInt64)) * (-4658895280553007687 : Int64))), .second]) rfl ?_
    show Steps p.tables e below (T16.setTop (mkF m 28 #[.val (.ref a0), .val (.long (((w_state_a0 + (-7046029254386353131 : Int64)) ^^^ (((w_state_a0 + (-7046029254386353131 : Int64)).toUInt64 >>> ((30 : Int32) &&& 0x3f).toInt64.toUInt64).toInt64)) * (-4658895280553007687 : Int64))), .second] [])) _
    refine XS.lloadN X16.here hx rfl (hb hby d3_28) rfl ?_
    show Steps p.tables e below (T16.setTop (mkF m 29 #[.val (.ref a0), .val (.long (((w_state_a0 + (-7046029254386353131 : Int64)) ^^^ (((w_state_a0 + (-7046029254386353131 : Int64)).toUInt64 >>> ((30 : Int32) &&& 0x3f).toInt64.toUInt64).toInt64)) * (-4658895280553007687 : Int64))), .second] [(.long (((w_state_a0 + (-7046029254386353131 : Int64)) ^^^ (((w_state_a0 + (-7046029254386353131 : Int64)).toUInt64 >>> ((30 : Int32) &&& 0x3f).toInt64.toUInt64).toInt64)) * (-4658895280553007687 : Int64)))])) _
    refine XS.lloadN X16.here hx rfl (hb hby d3_29) rfl ?_
    show Steps p.tables e below (T16.setTop (mkF m 30 #[.val (.ref a0), .val (.long (((w_state_a0 + (-7046029254386353131 : Int64)) ^^^ (((w_state_a0 + (-7046029254386353131 : Int64)).toUInt64 >>> ((30 : Int32) &&& 0x3f).toInt64.toUInt64).toInt64)) * (-4658895280553007687 : Int64))), .second] [(.long (((w_state_a0 + (-7046029254386353131 : Int64)) ^^^ (((w_state_a0 + (-7046029254386353131 : Int64)).toUInt64 >>> ((30 : Int32) &&& 0x3f).toInt64.toUInt64).toInt64)) * (-4658895280553007687 : Int64))), (.long (((w_state_a0 + (-7046029254386353131 : Int64)) ^^^ (((w_state_a0 + (-7046029254386353131 : Int64)).toUInt64 >>> ((30 : Int32) &&& 0x3f).toInt64.toUInt64).toInt64)) * (-4658895280553007687 : Int64)))])) _
    refine XS.bipush X16.here hx rfl (hb hby d3_30) ?_
    show Steps p.tables e below (T16.setTop (mkF m 32 #[.val (.ref a0), .val (.long (((w_state_a0 + (-7046029254386353131 : Int64)) ^^^ (((w_state_a0 + (-7046029254386353131 : Int64)).toUInt64 >>> ((30 : Int32) &&& 0x3f).toInt64.toUInt64).toInt64)) * (-4658895280553007687 : Int64))), .second] [(.int (27 : Int32)), (.long (((w_state_a0 + (-7046029254386353131 : Int64)) ^^^ (((w_state_a0 + (-7046029254386353131 : Int64)).toUInt64 >>> ((30 : Int32) &&& 0x3f).toInt64.toUInt64).toInt64)) * (-4658895280553007687 : Int64))), (.long (((w_state_a0 + (-7046029254386353131 : Int64)) ^^^ (((w_state_a0 + (-7046029254386353131 : Int64)).toUInt64 >>> ((30 : Int32) &&& 0x3f).toInt64.toUInt64).toInt64)) * (-4658895280553007687 : Int64)))])) _
    refine XS.lushr X16.here hx rfl (hb hby d3_32) rfl ?_
    show Steps p.tables e below (T16.setTop (mkF m 33 #[.val (.ref a0), .val (.long (((w_state_a0 + (-7046029254386353131 : Int64)) ^^^ (((w_state_a0 + (-7046029254386353131 : Int64)).toUInt64 >>> ((30 : Int32) &&& 0x3f).toInt64.toUInt64).toInt64)) * (-4658895280553007687 : Int64))), .second] [(.long (((((w_state_a0 + (-7046029254386353131 : Int64)) ^^^ (((w_state_a0 + (-7046029254386353131 : Int64)).toUInt64 >>> ((30 : Int32) &&& 0x3f).toInt64.toUInt64).toInt64)) * (-4658895280553007687 : Int64)).toUInt64 >>> ((27 : Int32) &&& 0x3f).toInt64.toUInt64).toInt64)), (.long (((w_state_a0 + (-7046029254386353131 : Int64)) ^^^ (((w_state_a0 + (-7046029254386353131 : Int64)).toUInt64 >>> ((30 : Int32) &&& 0x3f).toInt64.toUInt64).toInt64)) * (-4658895280553007687 : Int64)))])) _
    refine XS.lxor X16.here hx rfl (hb hby d3_33) rfl ?_
    show Steps p.tables e below (T16.setTop (mkF m 34 #[.val (.ref a0), .val (.long (((w_state_a0 + (-7046029254386353131 : Int64)) ^^^ (((w_state_a0 + (-7046029254386353131 : Int64)).toUInt64 >>> ((30 : Int32) &&& 0x3f).toInt64.toUInt64).toInt64)) * (-4658895280553007687 : Int64))), .second] [(.long ((((w_state_a0 + (-7046029254386353131 : Int64)) ^^^ (((w_state_a0 + (-7046029254386353131 : Int64)).toUInt64 >>> ((30 : Int32) &&& 0x3f).toInt64.toUInt64).toInt64)) * (-4658895280553007687 : Int64)) ^^^ (((((w_state_a0 + (-7046029254386353131 : Int64)) ^^^ (((w_state_a0 + (-7046029254386353131 : Int64)).toUInt64 >>> ((30 : Int32) &&& 0x3f).toInt64.toUInt64).toInt64)) * (-4658895280553007687 : Int64)).toUInt64 >>> ((27 : Int32) &&& 0x3f).toInt64.toUInt64).toInt64)))])) _
    refine X16.ldc2Long hx hown (mvT hZ (hw _ (List.mem_of_getElem? (i := 19) rfl))) (g := (mkF m 34 #[.val (.ref a0), .val (.long (((w_state_a0 + (-7046029254386353131 : Int64)) ^^^ (((w_state_a0 + (-7046029254386353131 : Int64)).toUInt64 >>> ((30 : Int32) &&& 0x3f).toInt64.toUInt64).toInt64)) * (-4658895280553007687 : Int64))), .second] [(.long ((((w_state_a0 + (-7046029254386353131 : Int64)) ^^^ (((w_state_a0 + (-7046029254386353131 : Int64)).toUInt64 >>> ((30 : Int32) &&& 0x3f).toInt64.toUInt64).toInt64)) * (-4658895280553007687 : Int64)) ^^^ (((((w_state_a0 + (-7046029254386353131 : Int64)) ^^^ (((w_state_a0 + (-7046029254386353131 : Int64)).toUInt64 >>> ((30 : Int32) &&& 0x3f).toInt64.toUInt64).toInt64)) * (-4658895280553007687 : Int64)).toUInt64 >>> ((27 : Int32) &&& 0x3f).toInt64.toUInt64).toInt64)))])) rfl (hb hby d3_34) _ ?_
    show Steps p.tables e below (T16.setTop (mkF m 37 #[.val (.ref a0), .val (.long (((w_state_a0 + (-7046029254386353131 : Int64)) ^^^ (((w_state_a0 + (-7046029254386353131 : Int64)).toUInt64 >>> ((30 : Int32) &&& 0x3f).toInt64.toUInt64).toInt64)) * (-4658895280553007687 : Int64))), .second] [(.long (-7723592293110705685 : Int64)), (.long ((((w_state_a0 + (-7046029254386353131 : Int64)) ^^^ (((w_state_a0 + (-7046029254386353131 : Int64)).toUInt64 >>> ((30 : Int32) &&& 0x3f).toInt64.toUInt64).toInt64)) * (-4658895280553007687 : Int64)) ^^^ (((((w_state_a0 + (-7046029254386353131 : Int64)) ^^^ (((w_state_a0 + (-7046029254386353131 : Int64)).toUInt64 >>> ((30 : Int32) &&& 0x3f).toInt64.toUInt64).toInt64)) * (-4658895280553007687 : Int64)).toUInt64 >>> ((27 : Int32) &&& 0x3f).toInt64.toUInt64).toInt64)))])) _
    refine XS.lmul X16.here hx rfl (hb hby d3_37) rfl ?_
    show Steps p.tables e below (T16.setTop (mkF m 38 #[.val (.ref a0), .val (.long (((w_state_a0 + (-7046029254386353131 : Int64)) ^^^ (((w_state_a0 + (-7046029254386353131 : Int64)).toUInt64 >>> ((30 : Int32) &&& 0x3f).toInt64.toUInt64).toInt64)) * (-4658895280553007687 : Int64))), .second] [(.long (((((w_state_a0 + (-7046029254386353131 : Int64)) ^^^ (((w_state_a0 + (-7046029254386353131 : Int64)).toUInt64 >>> ((30 : Int32) &&& 0x3f).toInt64.toUInt64).toInt64)) * (-4658895280553007687 : Int64)) ^^^ (((((w_state_a0 + (-7046029254386353131 : Int64)) ^^^ (((w_state_a0 + (-7046029254386353131 : Int64)).toUInt64 >>> ((30 : Int32) &&& 0x3f).toInt64.toUInt64).toInt64)) * (-4658895280553007687 : Int64)).toUInt64 >>> ((27 : Int32) &&& 0x3f).toInt64.toUInt64).toInt64)) * (-7723592293110705685 : Int64)))])) _
    refine XS.lstoreN X16.here hx rfl (hb hby d3_38) rfl (l' := #[.val (.ref a0), .val (.long (((((w_state_a0 + (-7046029254386353131 : Int64)) ^^^ (((w_state_a0 + (-7046029254386353131 : Int64)).toUInt64 >>> ((30 : Int32) &&& 0x3f).toInt64.toUInt64).toInt64)) * (-4658895280553007687 : Int64)) ^^^ (((((w_state_a0 + (-7046029254386353131 : Int64)) ^^^ (((w_state_a0 + (-7046029254386353131 : Int64)).toUInt64 >>> ((30 : Int32) &&& 0x3f).toInt64.toUInt64).toInt64)) * (-4658895280553007687 : Int64)).toUInt64 >>> ((27 : Int32) &&& 0x3f).toInt64.toUInt64).toInt64)) * (-7723592293110705685 : Int64))), .second]) rfl ?_
    show Steps p.tables e below (T16.setTop (mkF m 39 #[.val (.ref a0), .val (.long (((((w_state_a0 + (-7046029254386353131 : Int64)) ^^^ (((w_state_a0 + (-7046029254386353131 : Int64)).toUInt64 >>> ((30 : Int32) &&& 0x3f).toInt64.toUInt64).toInt64)) * (-4658895280553007687 : Int64)) ^^^ (((((w_state_a0 + (-7046029254386353131 : Int64)) ^^^ (((w_state_a0 + (-7046029254386353131 : Int64)).toUInt64 >>> ((30 : Int32) &&& 0x3f).toInt64.toUInt64).toInt64)) * (-4658895280553007687 : Int64)).toUInt64 >>> ((27 : Int32) &&& 0x3f).toInt64.toUInt64).toInt64)) * (-7723592293110705685 : Int64))), .second] [])) _
    refine XS.lloadN X16.here hx rfl (hb hby d3_39) rfl ?_
    show Steps p.tables e below (T16.setTop (mkF m 40 #[.val (.ref a0), .val (.long (((((w_state_a0 + (-7046029254386353131 : Int64)) ^^^ (((w_state_a0 + (-7046029254386353131 : Int64)).toUInt64 >>> ((30 : Int32) &&& 0x3f).toInt64.toUInt64).toInt64)) * (-4658895280553007687 : Int64)) ^^^ (((((w_state_a0 + (-7046029254386353131 : Int64)) ^^^ (((w_state_a0 + (-7046029254386353131 : Int64)).toUInt64 >>> ((30 : Int32) &&& 0x3f).toInt64.toUInt64).toInt64)) * (-4658895280553007687 : Int64)).toUInt64 >>> ((27 : Int32) &&& 0x3f).toInt64.toUInt64).toInt64)) * (-7723592293110705685 : Int64))), .second] [(.long (((((w_state_a0 + (-7046029254386353131 : Int64)) ^^^ (((w_state_a0 + (-7046029254386353131 : Int64)).toUInt64 >>> ((30 : Int32) &&& 0x3f).toInt64.toUInt64).toInt64)) * (-4658895280553007687 : Int64)) ^^^ (((((w_state_a0 + (-7046029254386353131 : Int64)) ^^^ (((w_state_a0 + (-7046029254386353131 : Int64)).toUInt64 >>> ((30 : Int32) &&& 0x3f).toInt64.toUInt64).toInt64)) * (-4658895280553007687 : Int64)).toUInt64 >>> ((27 : Int32) &&& 0x3f).toInt64.toUInt64).toInt64)) * (-7723592293110705685 : Int64)))])) _
    refine XS.lloadN X16.here hx rfl (hb hby d3_40) rfl ?_
    show Steps p.tables e below (T16.setTop (mkF m 41 #[.val (.ref a0), .val (.long (((((w_state_a0 + (-7046029254386353131 : Int64)) ^^^ (((w_state_a0 + (-7046029254386353131 : Int64)).toUInt64 >>> ((30 : Int32) &&& 0x3f).toInt64.toUInt64).toInt64)) * (-4658895280553007687 : Int64)) ^^^ (((((w_state_a0 + (-7046029254386353131 : Int64)) ^^^ (((w_state_a0 + (-7046029254386353131 : Int64)).toUInt64 >>> ((30 : Int32) &&& 0x3f).toInt64.toUInt64).toInt64)) * (-4658895280553007687 : Int64)).toUInt64 >>> ((27 : Int32) &&& 0x3f).toInt64.toUInt64).toInt64)) * (-7723592293110705685 : Int64))), .second] [(.long (((((w_state_a0 + (-7046029254386353131 : Int64)) ^^^ (((w_state_a0 + (-7046029254386353131 : Int64)).toUInt64 >>> ((30 : Int32) &&& 0x3f).toInt64.toUInt64).toInt64)) * (-4658895280553007687 : Int64)) ^^^ (((((w_state_a0 + (-7046029254386353131 : Int64)) ^^^ (((w_state_a0 + (-7046029254386353131 : Int64)).toUInt64 >>> ((30 : Int32) &&& 0x3f).toInt64.toUInt64).toInt64)) * (-4658895280553007687 : Int64)).toUInt64 >>> ((27 : Int32) &&& 0x3f).toInt64.toUInt64).toInt64)) * (-7723592293110705685 : Int64))), (.long (((((w_state_a0 + (-7046029254386353131 : Int64)) ^^^ (((w_state_a0 + (-7046029254386353131 : Int64)).toUInt64 >>> ((30 : Int32) &&& 0x3f).toInt64.toUInt64).toInt64)) * (-4658895280553007687 : Int64)) ^^^ (((((w_state_a0 + (-7046029254386353131 : Int64)) ^^^ (((w_state_a0 + (-7046029254386353131 : Int64)).toUInt64 >>> ((30 : Int32) &&& 0x3f).toInt64.toUInt64).toInt64)) * (-4658895280553007687 : Int64)).toUInt64 >>> ((27 : Int32) &&& 0x3f).toInt64.toUInt64).toInt64)) * (-7723592293110705685 : Int64)))])) _
    refine XS.bipush X16.here hx rfl (hb hby d3_41) ?_
    show Steps p.tables e below (T16.setTop (mkF m 43 #[.val (.ref a0), .val (.long (((((w_state_a0 + (-7046029254386353131 : Int64)) ^^^ (((w_state_a0 + (-7046029254386353131 : Int64)).toUInt64 >>> ((30 : Int32) &&& 0x3f).toInt64.toUInt64).toInt64)) * (-4658895280553007687 : Int64)) ^^^ (((((w_state_a0 + (-7046029254386353131 : Int64)) ^^^ (((w_state_a0 + (-7046029254386353131 : Int64)).toUInt64 >>> ((30 : Int32) &&& 0x3f).toInt64.toUInt64).toInt64)) * (-4658895280553007687 : Int64)).toUInt64 >>> ((27 : Int32) &&& 0x3f).toInt64.toUInt64).toInt64)) * (-7723592293110705685 : Int64))), .second] [(.int (31 : Int32)), (.long (((((w_state_a0 + (-7046029254386353131 : Int64)) ^^^ (((w_state_a0 + (-7046029254386353131 : Int64)).toUInt64 >>> ((30 : Int32) &&& 0x3f).toInt64.toUInt64).toInt64)) * (-4658895280553007687 : Int64)) ^^^ (((((w_state_a0 + (-7046029254386353131 : Int64)) ^^^ (((w_state_a0 + (-7046029254386353131 : Int64)).toUInt64 >>> ((30 : Int32) &&& 0x3f).toInt64.toUInt64).toInt64)) * (-4658895280553007687 : Int64)).toUInt64 >>> ((27 : Int32) &&& 0x3f).toInt64.toUInt64).toInt64)) * (-7723592293110705685 : Int64))), (.long (((((w_state_a0 + (-7046029254386353131 : Int64)) ^^^ (((w_state_a0 + (-7046029254386353131 : Int64)).toUInt64 >>> ((30 : Int32) &&& 0x3f).toInt64.toUInt64).toInt64)) * (-4658895280553007687 : Int64)) ^^^ (((((w_state_a0 + (-7046029254386353131 : Int64)) ^^^ (((w_state_a0 + (-7046029254386353131 : Int64)).toUInt64 >>> ((30 : Int32) &&& 0x3f).toInt64.toUInt64).toInt64)) * (-4658895280553007687 : Int64)).toUInt64 >>> ((27 : Int32) &&& 0x3f).toInt64.toUInt64).toInt64)) * (-7723592293110705685 : Int64)))])) _
    refine XS.lushr X16.here hx rfl (hb hby d3_43) rfl ?_
    show Steps p.tables e below (T16.setTop (mkF m 44 #[.val (.ref a0), .val (.long (((((w_state_a0 + (-7046029254386353131 : Int64)) ^^^ (((w_state_a0 + (-7046029254386353131 : Int64)).toUInt64 >>> ((30 : Int32) &&& 0x3f).toInt64.toUInt64).toInt64)) * (-4658895280553007687 : Int64)) ^^^ (((((w_state_a0 + (-7046029254386353131 : Int64)) ^^^ (((w_state_a0 + (-7046029254386353131 : Int64)).toUInt64 >>> ((30 : Int32) &&& 0x3f).toInt64.toUInt64).toInt64)) * (-4658895280553007687 : Int64)).toUInt64 >>> ((27 : Int32) &&& 0x3f).toInt64.toUInt64).toInt64)) * (-7723592293110705685 : Int64))), .second] [(.long (((((((w_state_a0 + (-7046029254386353131 : Int64)) ^^^ (((w_state_a0 + (-7046029254386353131 : Int64)).toUInt64 >>> ((30 : Int32) &&& 0x3f).toInt64.toUInt64).toInt64)) * (-4658895280553007687 : Int64)) ^^^ (((((w_state_a0 + (-7046029254386353131 : Int64)) ^^^ (((w_state_a0 + (-7046029254386353131 : Int64)).toUInt64 >>> ((30 : Int32) &&& 0x3f).toInt64.toUInt64).toInt64)) * (-4658895280553007687 : Int64)).toUInt64 >>> ((27 : Int32) &&& 0x3f).toInt64.toUInt64).toInt64)) * (-7723592293110705685 : Int64)).toUInt64 >>> ((31 : Int32) &&& 0x3f).toInt64.toUInt64).toInt64)), (.long (((((w_state_a0 + (-7046029254386353131 : Int64)) ^^^ (((w_state_a0 + (-7046029254386353131 : Int64)).toUInt64 >>> ((30 : Int32) &&& 0x3f).toInt64.toUInt64).toInt64)) * (-4658895280553007687 : Int64)) ^^^ (((((w_state_a0 + (-7046029254386353131 : Int64)) ^^^ (((w_state_a0 + (-7046029254386353131 : Int64)).toUInt64 >>> ((30 : Int32) &&& 0x3f).toInt64.toUInt64).toInt64)) * (-4658895280553007687 : Int64)).toUInt64 >>> ((27 : Int32) &&& 0x3f).toInt64.toUInt64).toInt64)) * (-7723592293110705685 : Int64)))])) _
    refine XS.lxor X16.here hx rfl (hb hby d3_44) rfl ?_
    show Steps p.tables e below (T16.setTop (mkF m 45 #[.val (.ref a0), .val (.long (((((w_state_a0 + (-7046029254386353131 : Int64)) ^^^ (((w_state_a0 + (-7046029254386353131 : Int64)).toUInt64 >>> ((30 : Int32) &&& 0x3f).toInt64.toUInt64).toInt64)) * (-4658895280553007687 : Int64)) ^^^ (((((w_state_a0 + (-7046029254386353131 : Int64)) ^^^ (((w_state_a0 + (-7046029254386353131 : Int64)).toUInt64 >>> ((30 : Int32) &&& 0x3f).toInt64.toUInt64).toInt64)) * (-4658895280553007687 : Int64)).toUInt64 >>> ((27 : Int32) &&& 0x3f).toInt64.toUInt64).toInt64)) * (-7723592293110705685 : Int64))), .second] [(.long ((((((w_state_a0 + (-7046029254386353131 : Int64)) ^^^ (((w_state_a0 + (-7046029254386353131 : Int64)).toUInt64 >>> ((30 : Int32) &&& 0x3f).toInt64.toUInt64).toInt64)) * (-4658895280553007687 : Int64)) ^^^ (((((w_state_a0 + (-7046029254386353131 : Int64)) ^^^ (((w_state_a0 + (-7046029254386353131 : Int64)).toUInt64 >>> ((30 : Int32) &&& 0x3f).toInt64.toUInt64).toInt64)) * (-4658895280553007687 : Int64)).toUInt64 >>> ((27 : Int32) &&& 0x3f).toInt64.toUInt64).toInt64)) * (-7723592293110705685 : Int64)) ^^^ (((((((w_state_a0 + (-7046029254386353131 : Int64)) ^^^ (((w_state_a0 + (-7046029254386353131 : Int64)).toUInt64 >>> ((30 : Int32) &&& 0x3f).toInt64.toUInt64).toInt64)) * (-4658895280553007687 : Int64)) ^^^ (((((w_state_a0 + (-7046029254386353131 : Int64)) ^^^ (((w_state_a0 + (-7046029254386353131 : Int64)).toUInt64 >>> ((30 : Int32) &&& 0x3f).toInt64.toUInt64).toInt64)) * (-4658895280553007687 : Int64)).toUInt64 >>> ((27 : Int32) &&& 0x3f).toInt64.toUInt64).toInt64)) * (-7723592293110705685 : Int64)).toUInt64 >>> ((31 : Int32) &&& 0x3f).toInt64.toUInt64).toInt64)))])) _
    exact retOut X16 hx Bd.returns rfl (Or.inr (Or.inl ⟨rfl, rfl, _, rfl⟩)) (hb hby d3_45) hr
  · show Q3 Z a0 w_state_a0 h0 n0 _ T16.heap _
    rw [e16]
    exact ⟨rfl, N12, K12, Ef13, Fw12⟩
theorem own_unxs (x : BitVec 64) (k : Nat) (hk : 64 ≤ k + k + k) :
    (x ^^^ (x >>> k)) ^^^ ((x ^^^ (x >>> k)) >>> k) ^^^ ((x ^^^ (x >>> k)) >>> (k + k)) = x := by
  apply BitVec.eq_of_getLsbD_eq
  intro i hi
  simp only [BitVec.getLsbD_xor, BitVec.getLsbD_ushiftRight]
  rw [show k + (k + i) = k + k + i by omega, show k + (k + k + i) = k + k + k + i by omega,
      BitVec.getLsbD_of_ge x (k + k + k + i) (by omega)]
  cases x.getLsbD i <;> cases x.getLsbD (k + i) <;> cases x.getLsbD (k + k + i) <;> rfl
theorem own_sh (x : Int64) (n : Int32) (k : Nat) (h : ((n &&& 0x3f).toInt64.toUInt64).toBitVec % 64 = BitVec.ofNat 64 k) (hk : k < 64) :
    ((x.toUInt64 >>> (n &&& 0x3f).toInt64.toUInt64).toInt64).toBitVec = x.toBitVec >>> k := by
  show (x.toUInt64 >>> (n &&& 0x3f).toInt64.toUInt64).toBitVec = _
  rw [UInt64.toBitVec_shiftRight, h]
  show x.toBitVec >>> (BitVec.ofNat 64 k) = x.toBitVec >>> k
  rw [BitVec.ushiftRight_eq' , BitVec.toNat_ofNat, Nat.mod_eq_of_lt (by omega)]
theorem own_shl (x : Int64) (n : Int32) (k : Nat) (h : ((n &&& 0x3f).toInt64.toUInt64).toBitVec % 64 = BitVec.ofNat 64 k) (hk : k < 64) :
    ((x.toUInt64 >>> (n &&& 0x3f).toInt64.toUInt64).toInt64) = Int64.ofBitVec (x.toBitVec >>> k) :=
  Int64.toBitVec_inj.mp (own_sh x n k h hk)
theorem own_unxs64 (x : Int64) (k : Nat) (hk : 64 ≤ k + k + k) :
    (x ^^^ Int64.ofBitVec (x.toBitVec >>> k)) ^^^ Int64.ofBitVec ((x ^^^ Int64.ofBitVec (x.toBitVec >>> k)).toBitVec >>> k) ^^^ Int64.ofBitVec ((x ^^^ Int64.ofBitVec (x.toBitVec >>> k)).toBitVec >>> (k + k)) = x := by
  apply Int64.toBitVec_inj.mp
  have := own_unxs x.toBitVec k hk
  simpa only [Int64.toBitVec_xor, Int64.toBitVec_ofBitVec] using this
theorem own_mulinv (x a b : Int64) (h : a * b = 1) : x * a * b = x := by rw [Int64.mul_assoc, h, Int64.mul_one]
theorem own_xsinj {a b : Int64} (k : Nat) (hk : 64 ≤ k + k + k) (h : a ^^^ Int64.ofBitVec (a.toBitVec >>> k) = b ^^^ Int64.ofBitVec (b.toBitVec >>> k)) : a = b := by
  rw [← own_unxs64 a k hk, ← own_unxs64 b k hk, h]
theorem own_mulinj {a b c : Int64} (d : Int64) (hd : c * d = 1) (h : a * c = b * c) : a = b := by
  rw [← own_mulinv a c d hd, ← own_mulinv b c d hd, h]
theorem own_inj (a b : Int64) : f3 a = f3 b ↔ a = b := by
  constructor
  · intro h
    have s30 : ∀ x : Int64, ((x.toUInt64 >>> ((30 : Int32) &&& 0x3f).toInt64.toUInt64).toInt64) = Int64.ofBitVec (x.toBitVec >>> 30) := fun x => own_shl x 30 30 (by decide) (by decide)
    have s27 : ∀ x : Int64, ((x.toUInt64 >>> ((27 : Int32) &&& 0x3f).toInt64.toUInt64).toInt64) = Int64.ofBitVec (x.toBitVec >>> 27) := fun x => own_shl x 27 27 (by decide) (by decide)
    have s31 : ∀ x : Int64, ((x.toUInt64 >>> ((31 : Int32) &&& 0x3f).toInt64.toUInt64).toInt64) = Int64.ofBitVec (x.toBitVec >>> 31) := fun x => own_shl x 31 31 (by decide) (by decide)
    unfold f3 at h
    simp only [s30, s27, s31] at h
    have h1 := own_xsinj 31 (by decide) h
    have h2 := own_mulinj 3573116690164977347 (by decide) h1
    have h3 := own_xsinj 27 (by decide) h2
    have h4 := own_mulinj (-7575587736534282103) (by decide) h3
    have h5 := own_xsinj 30 (by decide) h4
    have h6 : a + (-7046029254386353131) - (-7046029254386353131) = b + (-7046029254386353131) - (-7046029254386353131) := by rw [h5]
    simpa only [Int64.add_sub_cancel] using h6
  · intro h; rw [h]
theorem own_known : f3 (1234567 : Int64) = (6457827717110365317 : Int64) := by decide +kernel
theorem own_bit {c : Prop} [Decidable c] {v : Int32} (hc : c) (hv : v = (if c then (1 : Int32) else (0 : Int32))) (h : v = 0) : False := by
  rw [if_pos hc] at hv; rw [hv] at h; exact absurd h (by decide)
theorem own_iff {c d : Prop} [Decidable c] [Decidable d] {v w : Int32} (h : c ↔ d) (hv : v = (if c then (1 : Int32) else (0 : Int32))) (hw : w = (if d then (1 : Int32) else (0 : Int32))) : v = w := by
  rw [hv, hw]
  by_cases q : c
  · rw [if_pos q, if_pos (h.1 q)]
  · rw [if_neg q, if_neg (fun z => q (h.2 z))]

theorem pd_0 : parseMethodDescriptor "(J)V" = some ⟨[.long], none⟩ := by decide +kernel
theorem pd_1 : parseMethodDescriptor "()J" = some ⟨[], some .long⟩ := by decide +kernel
theorem pn_1 : plainName "com/example/tetrawell/tetrawell/nes/SplitMix64NextLongPinLaw" = true := by first | (simp [plainName, overriddenIn]; done) | decide +kernel
theorem ef_0 (m : MethodId) (x0 : Int64) (x1 : Int64) : entryFrame m #[(.long x0), (.long x1)] maxLocals = mkF m 0 #[.val (.long x0), .second, .val (.long x1), .second, .unset, .unset, .unset, .unset, .unset, .unset, .unset, .unset, .unset, .unset, .unset, .unset, .unset, .unset, .unset, .unset] [] := by first | (simp [entryFrame, mkF, argsToLocals, Value.category, maxLocals]; done) | rfl
def Q0 (Z : State) (q0 : Int64) (q1 : Int64) (h0 : Heap) (n0 : Nat) (v : Option Value) (h : Heap) (L : List Loc) : Prop := v = some (.int 1) ∧ Fr n0 L
theorem own_leaf1 {q0 : Int64} {q1 : Int64} {u33 : Int64} {u51 : Int64} {u103 : Int64} {v109 : Int32} {v115 : Int32} {v121 : Int32} {v126 : Int32} {v132 : Int32} (hu33 : u33 = (f3 (q0 + (-7046029254386353131 : Int64)))) (hu51 : u51 = (f3 (q0 + (-7046029254386353131 : Int64)))) (hu103 : u103 = (f3 (1234567 : Int64))) (hv109 : v109 = (if u33 = u51 then (1 : Int32) else (0 : Int32))) (hv115 : v115 = (if (f3 q1) = (f3 q0) then (1 : Int32) else (0 : Int32))) (hv121 : v121 = (if q1 = q0 then (1 : Int32) else (0 : Int32))) (hv126 : v126 = (if v115 = v121 then (1 : Int32) else (0 : Int32))) (hv132 : v132 = (if u103 = (6457827717110365317 : Int64) then (1 : Int32) else (0 : Int32))) (hc140_135 : v109 = (0 : Int32)) : False := by
  exact own_bit (by rw [hu33, hu51]) hv109 hc140_135
theorem own_leaf2 {q0 : Int64} {q1 : Int64} {u33 : Int64} {u51 : Int64} {u103 : Int64} {v109 : Int32} {v115 : Int32} {v121 : Int32} {v126 : Int32} {v132 : Int32} (hu33 : u33 = (f3 (q0 + (-7046029254386353131 : Int64)))) (hu51 : u51 = (f3 (q0 + (-7046029254386353131 : Int64)))) (hu103 : u103 = (f3 (1234567 : Int64))) (hv109 : v109 = (if u33 = u51 then (1 : Int32) else (0 : Int32))) (hv115 : v115 = (if (f3 q1) = (f3 q0) then (1 : Int32) else (0 : Int32))) (hv121 : v121 = (if q1 = q0 then (1 : Int32) else (0 : Int32))) (hv126 : v126 = (if v115 = v121 then (1 : Int32) else (0 : Int32))) (hv132 : v132 = (if u103 = (6457827717110365317 : Int64) then (1 : Int32) else (0 : Int32))) (hc140_135 : ¬ (v109 = (0 : Int32))) (hc145_138 : v126 = (0 : Int32)) : False := by
  exact own_bit (own_iff (own_inj _ _) hv115 hv121) hv126 hc145_138
theorem own_leaf3 {q0 : Int64} {q1 : Int64} {u33 : Int64} {u51 : Int64} {u103 : Int64} {v109 : Int32} {v115 : Int32} {v121 : Int32} {v126 : Int32} {v132 : Int32} (hu33 : u33 = (f3 (q0 + (-7046029254386353131 : Int64)))) (hu51 : u51 = (f3 (q0 + (-7046029254386353131 : Int64)))) (hu103 : u103 = (f3 (1234567 : Int64))) (hv109 : v109 = (if u33 = u51 then (1 : Int32) else (0 : Int32))) (hv115 : v115 = (if (f3 q1) = (f3 q0) then (1 : Int32) else (0 : Int32))) (hv121 : v121 = (if q1 = q0 then (1 : Int32) else (0 : Int32))) (hv126 : v126 = (if v115 = v121 then (1 : Int32) else (0 : Int32))) (hv132 : v132 = (if u103 = (6457827717110365317 : Int64) then (1 : Int32) else (0 : Int32))) (hc140_135 : ¬ (v109 = (0 : Int32))) (hc145_138 : ¬ (v126 = (0 : Int32))) (hc150_141 : v132 = (0 : Int32)) : False := by
  exact own_bit (by rw [hu103]; exact own_known) hv132 hc150_141
set_option maxRecDepth 65536 in
set_option maxHeartbeats 40000000 in
theorem rm0 (l : Launch) (Z : State) (a0 : Array Value) (hw : ∀ d ∈ tables_1, d.before a0 Z = true) (ws : List Jvm.Cond) (q0 : Int64) (q1 : Int64) (h0 : Heap) (n0 : Nat) (Z0 : n0 ≤ h0.size) :
    MetFree l x (head1 (Jvm.Cond.code x code maxLocals ret :: ws) room_1) (fun a U => a = #[(.long q0), (.long q1)] ∧ Z.Warmed39 U.vm ∧ U.heap = h0) (fun _ _ _ _ _ => True) (fun _ U o U' => ∃ v L, o = .returned v ∧ Q0 Z q0 q1 h0 n0 v U'.heap L ∧ FrameEnd U o U' L room_1.cells room_1.slots) := by
  refine MetFree.of_bodySF (plainFor_of_name pn_1) hisR ?_
  intro p e s m args below meth c s₁ Bd hml0 hP hK
  obtain ⟨rfl, hZ, hh⟩ := hP
  have hx := Bd.exec
  have hby := Bd.bytes
  have hml : c.maxLocals = 20 := hml0
  have hown : s.vm.findClass "com/example/tetrawell/tetrawell/nes/SplitMix64NextLongPinLaw" = some m.cls := findClass_of_methodNamed Bd.named
  have hnm := (name_of_methodNamed Bd.named Bd.method).1
  have X0 : Stand p l e room_1 s m #[(.long q0), (.long q1)] below meth c s₁ [] 0 0 := Stand.of_body Bd
  have e0 : s₁.heap = h0 := by rw [← hh, Bd.state]; rfl
  have N0 := Fr.nil n0
  have pre0 : ∀ t, Steps p.tables e below (s₁.setTop (mkF m 0 #[.val (.long q0), .second, .val (.long q1), .second, .unset, .unset, .unset, .unset, .unset, .unset, .unset, .unset, .unset, .unset, .unset, .unset, .unset, .unset, .unset, .unset] [])) t → Steps p.tables e below (s₁.setTop (entryFrame m #[(.long q0), (.long q1)] maxLocals)) t := fun t k => castTop (ef_0 m q0 q1) k
  have pre18 : ∀ t, Steps p.tables e below (s₁.setTop (mkF m 5 #[.val (.long q0), .second, .val (.long q1), .second, .val (.long (-7046029254386353131 : Int64)), .second, .unset, .unset, .unset, .unset, .unset, .unset, .unset, .unset, .unset, .unset, .unset, .unset, .unset, .unset] [])) t → Steps p.tables e below (s₁.setTop (entryFrame m #[(.long q0), (.long q1)] maxLocals)) t := by
    intro t k
    refine pre0 t ?_
    show Steps p.tables e below (s₁.setTop (mkF m 0 #[.val (.long q0), .second, .val (.long q1), .second, .unset, .unset, .unset, .unset, .unset, .unset, .unset, .unset, .unset, .unset, .unset, .unset, .unset, .unset, .unset, .unset] [])) _
    refine X0.ldc2Long hx hown (mvT hZ (hw _ (List.mem_of_getElem? (i := 0) rfl))) (g := (mkF m 0 #[.val (.long q0), .second, .val (.long q1), .second, .unset, .unset, .unset, .unset, .unset, .unset, .unset, .unset, .unset, .unset, .unset, .unset, .unset, .unset, .unset, .unset] [])) rfl (hb hby at_0) _ ?_
    show Steps p.tables e below (s₁.setTop (mkF m 3 #[.val (.long q0), .second, .val (.long q1), .second, .unset, .unset, .unset, .unset, .unset, .unset, .unset, .unset, .unset, .unset, .unset, .unset, .unset, .unset, .unset, .unset] [(.long (-7046029254386353131 : Int64))])) _
    refine XS.lstore X0.here hx rfl (hb hby at_3) rfl (l' := #[.val (.long q0), .second, .val (.long q1), .second, .val (.long (-7046029254386353131 : Int64)), .second, .unset, .unset, .unset, .unset, .unset, .unset, .unset, .unset, .unset, .unset, .unset, .unset, .unset, .unset]) rfl ?_
    show Steps p.tables e below (s₁.setTop (mkF m 5 #[.val (.long q0), .second, .val (.long q1), .second, .val (.long (-7046029254386353131 : Int64)), .second, .unset, .unset, .unset, .unset, .unset, .unset, .unset, .unset, .unset, .unset, .unset, .unset, .unset, .unset] [])) _
    exact k
  obtain ⟨T19, h19, X19, e19, E19, A19, D19, -, st19⟩ := newO X0 hx hZ hown (hw _ (List.mem_of_getElem? (i := 1) rfl)) (hw _ (List.mem_of_getElem? (i := 2) rfl)) (hw _ (List.mem_of_getElem? (i := 3) rfl)) e0 (g := (mkF m 5 #[.val (.long q0), .second, .val (.long q1), .second, .val (.long (-7046029254386353131 : Int64)), .second, .unset, .unset, .unset, .unset, .unset, .unset, .unset, .unset, .unset, .unset, .unset, .unset, .unset, .unset] [])) rfl (hb hby at_5) (by decide) (by decide)
  obtain ⟨b19, g19⟩ : ∃ z, z = h0.size := ⟨_, rfl⟩
  rw [← g19] at A19 D19 st19
  have g_b19 : n0 ≤ b19 := Nat.le_trans Z0 (Nat.le_of_eq g19.symm)
  have sz_b19 : h0.size ≤ b19 := Nat.le_trans (Keep.refl h0 []).1 (Nat.le_of_eq g19.symm)
  have Z19 : n0 ≤ h19.size := Nat.le_trans Z0 E19.1
  have K19 : Keep h0 h19 [] := (Keep.refl h0 []).ext E19
  have Fstate_b19 : Fld Z h19 b19 "com/example/tetrawell/tetrawell/nes/SplitMix64" "state" "J" (.long (0 : Int64)) := D19 (Or.inl (hw _ (List.mem_of_getElem? (i := 11) rfl))) (ty := .long) (by decide)
  have pre20 : ∀ t, Steps p.tables e below (T19.setTop (mkF m 8 #[.val (.long q0), .second, .val (.long q1), .second, .val (.long (-7046029254386353131 : Int64)), .second, .unset, .unset, .unset, .unset, .unset, .unset, .unset, .unset, .unset, .unset, .unset, .unset, .unset, .unset] [(.ref b19)])) t → Steps p.tables e below (s₁.setTop (entryFrame m #[(.long q0), (.long q1)] maxLocals)) t := fun t k => pre18 t (st19 t k)
  have pre21 : ∀ t, Steps p.tables e below (T19.setTop (mkF m 10 #[.val (.long q0), .second, .val (.long q1), .second, .val (.long (-7046029254386353131 : Int64)), .second, .unset, .unset, .unset, .unset, .unset, .unset, .unset, .unset, .unset, .unset, .unset, .unset, .unset, .unset] [(.long q0), (.ref b19), (.ref b19)])) t → Steps p.tables e below (s₁.setTop (entryFrame m #[(.long q0), (.long q1)] maxLocals)) t := by
    intro t k
    refine pre20 t ?_
    show Steps p.tables e below (T19.setTop (mkF m 8 #[.val (.long q0), .second, .val (.long q1), .second, .val (.long (-7046029254386353131 : Int64)), .second, .unset, .unset, .unset, .unset, .unset, .unset, .unset, .unset, .unset, .unset, .unset, .unset, .unset, .unset] [(.ref b19)])) _
    refine XS.dup X19.here hx rfl (hb hby at_8) rfl rfl ?_
    show Steps p.tables e below (T19.setTop (mkF m 9 #[.val (.long q0), .second, .val (.long q1), .second, .val (.long (-7046029254386353131 : Int64)), .second, .unset, .unset, .unset, .unset, .unset, .unset, .unset, .unset, .unset, .unset, .unset, .unset, .unset, .unset] [(.ref b19), (.ref b19)])) _
    refine XS.lloadN X19.here hx rfl (hb hby at_9) rfl ?_
    show Steps p.tables e below (T19.setTop (mkF m 10 #[.val (.long q0), .second, .val (.long q1), .second, .val (.long (-7046029254386353131 : Int64)), .second, .unset, .unset, .unset, .unset, .unset, .unset, .unset, .unset, .unset, .unset, .unset, .unset, .unset, .unset] [(.long q0), (.ref b19), (.ref b19)])) _
    exact k
  obtain ⟨_, _, ⟨T22, L22, k22, n22⟩, -, X22, ⟨Lc22, hQ22, l22, y22, z22⟩, st22⟩ := X19.specialBack hx (y := (⟨"com/example/tetrawell/tetrawell/nes/SplitMix64", "<init>", "(J)V"⟩ : MethodName)) rfl hown (mvT hZ (hw _ (List.mem_of_getElem? (i := 4) rfl))) (mvT hZ (hw _ (List.mem_of_getElem? (i := 5) rfl))) (mvT hZ (hw _ (List.mem_of_getElem? (i := 6) rfl))) (by decide) (backOf (W := 1) (rm1 l Z a0 hw [] b19 q0 (0 : Int64) h19 n0 Z19 A19 Fstate_b19 g_b19) hZ (hw _ (List.mem_of_getElem? (i := 6) rfl)) (hw _ (List.mem_of_getElem? (i := 3) rfl)) (by decide) (by decide)) (g := (mkF m 10 #[.val (.long q0), .second, .val (.long q1), .second, .val (.long (-7046029254386353131 : Int64)), .second, .unset, .unset, .unset, .unset, .unset, .unset, .unset, .unset, .unset, .unset, .unset, .unset, .unset, .unset] [(.long q0), (.ref b19), (.ref b19)])) rfl (by rw [hml]; rfl) (Steps.refl _) (a := b19) (argsL := [(.long q0)]) (rest := [(.ref b19)]) (lenOf pd_0 rfl) rfl (by show 2 * 0 + _ ≤ _; exact Nat.le_of_eq rfl) (hb hby at_10) (fun _ _ => ⟨rfl, e19, (by decide : 1 + 0 ≤ _), (by decide : 1 + 0 ≤ _)⟩)
  dsimp only [Pt.U, Pt.locs, Pt.cells, Pt.slots] at X22 l22 y22 z22 st22 hQ22
  subst l22 y22 z22
  obtain ⟨h22, e22⟩ : ∃ h, T22.heap = h := ⟨_, rfl⟩
  rw [e22] at hQ22
  obtain ⟨rfl, N22q, K22q, Q22_0, Q22_1⟩ := hQ22
  have N22 := Fr.app N0 N22q
  have Z22 : n0 ≤ h22.size := Nat.le_trans Z19 K22q.1
  have K22 : Keep h0 h22 [] := K19.trans K22q (fun x hx => by cases List.mem_singleton.mp hx; exact Or.inr sz_b19)
  have Ef23 : Exa Z h22 b19 "com/example/tetrawell/tetrawell/nes/SplitMix64" := (A19).keep K22q
  have pre24 : ∀ t, Steps p.tables e below (T22.setTop (mkF m 13 #[.val (.long q0), .second, .val (.long q1), .second, .val (.long (-7046029254386353131 : Int64)), .second, .unset, .unset, .unset, .unset, .unset, .unset, .unset, .unset, .unset, .unset, .unset, .unset, .unset, .unset] [(.ref b19)])) t → Steps p.tables e below (s₁.setTop (entryFrame m #[(.long q0), (.long q1)] maxLocals)) t := fun t k => pre21 t (st22.trans k)
  have pre25 : ∀ t, Steps p.tables e below (T22.setTop (mkF m 17 #[.val (.long q0), .second, .val (.long q1), .second, .val (.long (-7046029254386353131 : Int64)), .second, .val (.ref b19), .unset, .unset, .unset, .unset, .unset, .unset, .unset, .unset, .unset, .unset, .unset, .unset, .unset] [(.ref b19)])) t → Steps p.tables e below (s₁.setTop (entryFrame m #[(.long q0), (.long q1)] maxLocals)) t := by
    intro t k
    refine pre24 t ?_
    show Steps p.tables e below (T22.setTop (mkF m 13 #[.val (.long q0), .second, .val (.long q1), .second, .val (.long (-7046029254386353131 : Int64)), .second, .unset, .unset, .unset, .unset, .unset, .unset, .unset, .unset, .unset, .unset, .unset, .unset, .unset, .unset] [(.ref b19)])) _
    refine XS.astore X22.here hx rfl (hb hby at_13) rfl rfl (l' := #[.val (.long q0), .second, .val (.long q1), .second, .val (.long (-7046029254386353131 : Int64)), .second, .val (.ref b19), .unset, .unset, .unset, .unset, .unset, .unset, .unset, .unset, .unset, .unset, .unset, .unset, .unset]) rfl ?_
    show Steps p.tables e below (T22.setTop (mkF m 15 #[.val (.long q0), .second, .val (.long q1), .second, .val (.long (-7046029254386353131 : Int64)), .second, .val (.ref b19), .unset, .unset, .unset, .unset, .unset, .unset, .unset, .unset, .unset, .unset, .unset, .unset, .unset] [])) _
    refine XS.aload X22.here hx rfl (hb hby at_15) rfl rfl ?_
    show Steps p.tables e below (T22.setTop (mkF m 17 #[.val (.long q0), .second, .val (.long q1), .second, .val (.long (-7046029254386353131 : Int64)), .second, .val (.ref b19), .unset, .unset, .unset, .unset, .unset, .unset, .unset, .unset, .unset, .unset, .unset, .unset, .unset] [(.ref b19)])) _
    exact k
  obtain ⟨cq26, kq26, q26a, q26b, q26c⟩ := isOf hZ e22 Q22_0
  obtain ⟨_, _, ⟨T26, L26, k26, n26⟩, -, X26, ⟨Lc26, hQ26, l26, y26, z26⟩, st26⟩ := X22.virtualBack hx (y := (⟨"com/example/tetrawell/tetrawell/nes/SplitMix64", "nextLong", "()J"⟩ : MethodName)) (z := (⟨"com/example/tetrawell/tetrawell/nes/SplitMix64", "nextLong", "()J"⟩ : MethodName)) hown (mvT hZ (hw _ (List.mem_of_getElem? (i := 12) rfl))) (mvT hZ (hw _ (List.mem_of_getElem? (i := 13) rfl))) (notFace_of_selects (args := #[]) (mvT hZ (hw _ (List.mem_of_getElem? (i := 15) rfl)))) (mvT hZ (hw _ (List.mem_of_getElem? (i := 15) rfl))) (mvT hZ (hw _ (List.mem_of_getElem? (i := 14) rfl))) (by decide) (backOf (W := 0) (rm3 l Z a0 hw [] b19 q0 h22 n0 Z22 Q22_1 Q22_0 g_b19) hZ (hw _ (List.mem_of_getElem? (i := 16) rfl)) (hw _ (List.mem_of_getElem? (i := 3) rfl)) (by decide) (by decide)) q26a q26c (g := (mkF m 17 #[.val (.long q0), .second, .val (.long q1), .second, .val (.long (-7046029254386353131 : Int64)), .second, .val (.ref b19), .unset, .unset, .unset, .unset, .unset, .unset, .unset, .unset, .unset, .unset, .unset, .unset, .unset] [(.ref b19)])) rfl (by rw [hml]; rfl) (Steps.refl _) (argsL := []) (rest := []) (lenOf pd_1 rfl) rfl (by show 2 * 0 + _ ≤ _; exact Nat.le_of_eq rfl) (hb hby at_17) (fun _ _ => ⟨rfl, e22, (by decide : 1 + 0 ≤ _), (by decide : 1 + 0 ≤ _)⟩)
  dsimp only [Pt.U, Pt.locs, Pt.cells, Pt.slots] at X26 l26 y26 z26 st26 hQ26
  subst l26 y26 z26
  obtain ⟨h26, e26⟩ : ∃ h, T26.heap = h := ⟨_, rfl⟩
  rw [e26] at hQ26
  obtain ⟨rfl, N26q, K26q, Q26_0, Q26_1⟩ := hQ26
  have N26 := Fr.app N22 N26q
  have Z26 : n0 ≤ h26.size := Nat.le_trans Z22 K26q.1
  have K26 : Keep h0 h26 [] := K22.trans K26q (fun x hx => by cases List.mem_singleton.mp hx; exact Or.inr sz_b19)
  have Ef27 : Exa Z h26 b19 "com/example/tetrawell/tetrawell/nes/SplitMix64" := (Q22_0).keep K26q
  have pre28 : ∀ t, Steps p.tables e below (T26.setTop (mkF m 20 #[.val (.long q0), .second, .val (.long q1), .second, .val (.long (-7046029254386353131 : Int64)), .second, .val (.ref b19), .unset, .unset, .unset, .unset, .unset, .unset, .unset, .unset, .unset, .unset, .unset, .unset, .unset] [(.long (f3 q0))])) t → Steps p.tables e below (s₁.setTop (entryFrame m #[(.long q0), (.long q1)] maxLocals)) t := fun t k => pre25 t (st26.trans k)
  have pre29 : ∀ t, Steps p.tables e below (T26.setTop (mkF m 24 #[.val (.long q0), .second, .val (.long q1), .second, .val (.long (-7046029254386353131 : Int64)), .second, .val (.ref b19), .val (.long (f3 q0)), .second, .unset, .unset, .unset, .unset, .unset, .unset, .unset, .unset, .unset, .unset, .unset] [(.ref b19)])) t → Steps p.tables e below (s₁.setTop (entryFrame m #[(.long q0), (.long q1)] maxLocals)) t := by
    intro t k
    refine pre28 t ?_
    show Steps p.tables e below (T26.setTop (mkF m 20 #[.val (.long q0), .second, .val (.long q1), .second, .val (.long (-7046029254386353131 : Int64)), .second, .val (.ref b19), .unset, .unset, .unset, .unset, .unset, .unset, .unset, .unset, .unset, .unset, .unset, .unset, .unset] [(.long (f3 q0))])) _
    refine XS.lstore X26.here hx rfl (hb hby at_20) rfl (l' := #[.val (.long q0), .second, .val (.long q1), .second, .val (.long (-7046029254386353131 : Int64)), .second, .val (.ref b19), .val (.long (f3 q0)), .second, .unset, .unset, .unset, .unset, .unset, .unset, .unset, .unset, .unset, .unset, .unset]) rfl ?_
    show Steps p.tables e below (T26.setTop (mkF m 22 #[.val (.long q0), .second, .val (.long q1), .second, .val (.long (-7046029254386353131 : Int64)), .second, .val (.ref b19), .val (.long (f3 q0)), .second, .unset, .unset, .unset, .unset, .unset, .unset, .unset, .unset, .unset, .unset, .unset] [])) _
    refine XS.aload X26.here hx rfl (hb hby at_22) rfl rfl ?_
    show Steps p.tables e below (T26.setTop (mkF m 24 #[.val (.long q0), .second, .val (.long q1), .second, .val (.long (-7046029254386353131 : Int64)), .second, .val (.ref b19), .val (.long (f3 q0)), .second, .unset, .unset, .unset, .unset, .unset, .unset, .unset, .unset, .unset, .unset, .unset] [(.ref b19)])) _
    exact k
  obtain ⟨cq30, kq30, q30a, q30b, q30c⟩ := isOf hZ e26 Q26_0
  obtain ⟨_, _, ⟨T30, L30, k30, n30⟩, -, X30, ⟨Lc30, hQ30, l30, y30, z30⟩, st30⟩ := X26.virtualBack hx (y := (⟨"com/example/tetrawell/tetrawell/nes/SplitMix64", "nextLong", "()J"⟩ : MethodName)) (z := (⟨"com/example/tetrawell/tetrawell/nes/SplitMix64", "nextLong", "()J"⟩ : MethodName)) hown (mvT hZ (hw _ (List.mem_of_getElem? (i := 12) rfl))) (mvT hZ (hw _ (List.mem_of_getElem? (i := 13) rfl))) (notFace_of_selects (args := #[]) (mvT hZ (hw _ (List.mem_of_getElem? (i := 15) rfl)))) (mvT hZ (hw _ (List.mem_of_getElem? (i := 15) rfl))) (mvT hZ (hw _ (List.mem_of_getElem? (i := 14) rfl))) (by decide) (backOf (W := 0) (rm3 l Z a0 hw [] b19 (q0 + (-7046029254386353131 : Int64)) h26 n0 Z26 Q26_1 Q26_0 g_b19) hZ (hw _ (List.mem_of_getElem? (i := 16) rfl)) (hw _ (List.mem_of_getElem? (i := 3) rfl)) (by decide) (by decide)) q30a q30c (g := (mkF m 24 #[.val (.long q0), .second, .val (.long q1), .second, .val (.long (-7046029254386353131 : Int64)), .second, .val (.ref b19), .val (.long (f3 q0)), .second, .unset, .unset, .unset, .unset, .unset, .unset, .unset, .unset, .unset, .unset, .unset] [(.ref b19)])) rfl (by rw [hml]; rfl) (Steps.refl _) (argsL := []) (rest := []) (lenOf pd_1 rfl) rfl (by show 2 * 0 + _ ≤ _; exact Nat.le_of_eq rfl) (hb hby at_24) (fun _ _ => ⟨rfl, e26, (by decide : 1 + 0 ≤ _), (by decide : 1 + 0 ≤ _)⟩)
  dsimp only [Pt.U, Pt.locs, Pt.cells, Pt.slots] at X30 l30 y30 z30 st30 hQ30
  subst l30 y30 z30
  obtain ⟨h30, e30⟩ : ∃ h, T30.heap = h := ⟨_, rfl⟩
  rw [e30] at hQ30
  obtain ⟨rfl, N30q, K30q, Q30_0, Q30_1⟩ := hQ30
  have N30 := Fr.app N26 N30q
  have Z30 : n0 ≤ h30.size := Nat.le_trans Z26 K30q.1
  have K30 : Keep h0 h30 [] := K26.trans K30q (fun x hx => by cases List.mem_singleton.mp hx; exact Or.inr sz_b19)
  have Ef31 : Exa Z h30 b19 "com/example/tetrawell/tetrawell/nes/SplitMix64" := (Q26_0).keep K30q
  have pre32 : ∀ t, Steps p.tables e below (T30.setTop (mkF m 27 #[.val (.long q0), .second, .val (.long q1), .second, .val (.long (-7046029254386353131 : Int64)), .second, .val (.ref b19), .val (.long (f3 q0)), .second, .unset, .unset, .unset, .unset, .unset, .unset, .unset, .unset, .unset, .unset, .unset] [(.long (f3 (q0 + (-7046029254386353131 : Int64))))])) t → Steps p.tables e below (s₁.setTop (entryFrame m #[(.long q0), (.long q1)] maxLocals)) t := fun t k => pre29 t (st30.trans k)
  obtain ⟨u33, hu33⟩ : ∃ z : Int64, z = (f3 (q0 + (-7046029254386353131 : Int64))) := ⟨_, rfl⟩
  have pre34 : ∀ t, Steps p.tables e below (T30.setTop (mkF m 27 #[.val (.long q0), .second, .val (.long q1), .second, .val (.long (-7046029254386353131 : Int64)), .second, .val (.ref b19), .val (.long (f3 q0)), .second, .unset, .unset, .unset, .unset, .unset, .unset, .unset, .unset, .unset, .unset, .unset] [(.long u33)])) t → Steps p.tables e below (s₁.setTop (entryFrame m #[(.long q0), (.long q1)] maxLocals)) t := by rw [hu33]; exact pre32
  have pre35 : ∀ t, Steps p.tables e below (T30.setTop (mkF m 29 #[.val (.long q0), .second, .val (.long q1), .second, .val (.long (-7046029254386353131 : Int64)), .second, .val (.ref b19), .val (.long (f3 q0)), .second, .val (.long u33), .second, .unset, .unset, .unset, .unset, .unset, .unset, .unset, .unset, .unset] [])) t → Steps p.tables e below (s₁.setTop (entryFrame m #[(.long q0), (.long q1)] maxLocals)) t := by
    intro t k
    refine pre34 t ?_
    show Steps p.tables e below (T30.setTop (mkF m 27 #[.val (.long q0), .second, .val (.long q1), .second, .val (.long (-7046029254386353131 : Int64)), .second, .val (.ref b19), .val (.long (f3 q0)), .second, .unset, .unset, .unset, .unset, .unset, .unset, .unset, .unset, .unset, .unset, .unset] [(.long u33)])) _
    refine XS.lstore X30.here hx rfl (hb hby at_27) rfl (l' := #[.val (.long q0), .second, .val (.long q1), .second, .val (.long (-7046029254386353131 : Int64)), .second, .val (.ref b19), .val (.long (f3 q0)), .second, .val (.long u33), .second, .unset, .unset, .unset, .unset, .unset, .unset, .unset, .unset, .unset]) rfl ?_
    show Steps p.tables e below (T30.setTop (mkF m 29 #[.val (.long q0), .second, .val (.long q1), .second, .val (.long (-7046029254386353131 : Int64)), .second, .val (.ref b19), .val (.long (f3 q0)), .second, .val (.long u33), .second, .unset, .unset, .unset, .unset, .unset, .unset, .unset, .unset, .unset] [])) _
    exact k
  obtain ⟨T36, h36, X36, e36, E36, A36, D36, -, st36⟩ := newO X30 hx hZ hown (hw _ (List.mem_of_getElem? (i := 1) rfl)) (hw _ (List.mem_of_getElem? (i := 2) rfl)) (hw _ (List.mem_of_getElem? (i := 3) rfl)) e30 (g := (mkF m 29 #[.val (.long q0), .second, .val (.long q1), .second, .val (.long (-7046029254386353131 : Int64)), .second, .val (.ref b19), .val (.long (f3 q0)), .second, .val (.long u33), .second, .unset, .unset, .unset, .unset, .unset, .unset, .unset, .unset, .unset] [])) rfl (hb hby at_29) (by decide) (by decide)
  obtain ⟨b36, g36⟩ : ∃ z, z = h30.size := ⟨_, rfl⟩
  rw [← g36] at A36 D36 st36
  have ne_b19_b36 : b19 ≠ b36 := Nat.ne_of_lt (Nat.lt_of_lt_of_le (Q30_0).lt (Nat.le_of_eq g36.symm))
  have g_b36 : n0 ≤ b36 := Nat.le_trans Z30 (Nat.le_of_eq g36.symm)
  have sz_b36 : h0.size ≤ b36 := Nat.le_trans K30.1 (Nat.le_of_eq g36.symm)
  have Z36 : n0 ≤ h36.size := Nat.le_trans Z30 E36.1
  have K36 : Keep h0 h36 [] := K30.ext E36
  have Ef37 : Exa Z h36 b19 "com/example/tetrawell/tetrawell/nes/SplitMix64" := (Q30_0).ext E36
  have Ff38 : Fld Z h36 b19 "com/example/tetrawell/tetrawell/nes/SplitMix64" "state" "J" (.long ((q0 + (-7046029254386353131 : Int64)) + (-7046029254386353131 : Int64))) := (Q30_1).ext E36
  have Fstate_b36 : Fld Z h36 b36 "com/example/tetrawell/tetrawell/nes/SplitMix64" "state" "J" (.long (0 : Int64)) := D36 (Or.inl (hw _ (List.mem_of_getElem? (i := 11) rfl))) (ty := .long) (by decide)
  have pre39 : ∀ t, Steps p.tables e below (T36.setTop (mkF m 32 #[.val (.long q0), .second, .val (.long q1), .second, .val (.long (-7046029254386353131 : Int64)), .second, .val (.ref b19), .val (.long (f3 q0)), .second, .val (.long u33), .second, .unset, .unset, .unset, .unset, .unset, .unset, .unset, .unset, .unset] [(.ref b36)])) t → Steps p.tables e below (s₁.setTop (entryFrame m #[(.long q0), (.long q1)] maxLocals)) t := fun t k => pre35 t (st36 t k)
  have pre40 : ∀ t, Steps p.tables e below (T36.setTop (mkF m 37 #[.val (.long q0), .second, .val (.long q1), .second, .val (.long (-7046029254386353131 : Int64)), .second, .val (.ref b19), .val (.long (f3 q0)), .second, .val (.long u33), .second, .unset, .unset, .unset, .unset, .unset, .unset, .unset, .unset, .unset] [(.long (q0 + (-7046029254386353131 : Int64))), (.ref b36), (.ref b36)])) t → Steps p.tables e below (s₁.setTop (entryFrame m #[(.long q0), (.long q1)] maxLocals)) t := by
    intro t k
    refine pre39 t ?_
    show Steps p.tables e below (T36.setTop (mkF m 32 #[.val (.long q0), .second, .val (.long q1), .second, .val (.long (-7046029254386353131 : Int64)), .second, .val (.ref b19), .val (.long (f3 q0)), .second, .val (.long u33), .second, .unset, .unset, .unset, .unset, .unset, .unset, .unset, .unset, .unset] [(.ref b36)])) _
    refine XS.dup X36.here hx rfl (hb hby at_32) rfl rfl ?_
    show Steps p.tables e below (T36.setTop (mkF m 33 #[.val (.long q0), .second, .val (.long q1), .second, .val (.long (-7046029254386353131 : Int64)), .second, .val (.ref b19), .val (.long (f3 q0)), .second, .val (.long u33), .second, .unset, .unset, .unset, .unset, .unset, .unset, .unset, .unset, .unset] [(.ref b36), (.ref b36)])) _
    refine XS.lloadN X36.here hx rfl (hb hby at_33) rfl ?_
    show Steps p.tables e below (T36.setTop (mkF m 34 #[.val (.long q0), .second, .val (.long q1), .second, .val (.long (-7046029254386353131 : Int64)), .second, .val (.ref b19), .val (.long (f3 q0)), .second, .val (.long u33), .second, .unset, .unset, .unset, .unset, .unset, .unset, .unset, .unset, .unset] [(.long q0), (.ref b36), (.ref b36)])) _
    refine XS.lload X36.here hx rfl (hb hby at_34) rfl ?_
    show Steps p.tables e below (T36.setTop (mkF m 36 #[.val (.long q0), .second, .val (.long q1), .second, .val (.long (-7046029254386353131 : Int64)), .second, .val (.ref b19), .val (.long (f3 q0)), .second, .val (.long u33), .second, .unset, .unset, .unset, .unset, .unset, .unset, .unset, .unset, .unset] [(.long (-7046029254386353131 : Int64)), (.long q0), (.ref b36), (.ref b36)])) _
    refine XS.ladd X36.here hx rfl (hb hby at_36) rfl ?_
    show Steps p.tables e below (T36.setTop (mkF m 37 #[.val (.long q0), .second, .val (.long q1), .second, .val (.long (-7046029254386353131 : Int64)), .second, .val (.ref b19), .val (.long (f3 q0)), .second, .val (.long u33), .second, .unset, .unset, .unset, .unset, .unset, .unset, .unset, .unset, .unset] [(.long (q0 + (-7046029254386353131 : Int64))), (.ref b36), (.ref b36)])) _
    exact k
  obtain ⟨_, _, ⟨T41, L41, k41, n41⟩, -, X41, ⟨Lc41, hQ41, l41, y41, z41⟩, st41⟩ := X36.specialBack hx (y := (⟨"com/example/tetrawell/tetrawell/nes/SplitMix64", "<init>", "(J)V"⟩ : MethodName)) rfl hown (mvT hZ (hw _ (List.mem_of_getElem? (i := 4) rfl))) (mvT hZ (hw _ (List.mem_of_getElem? (i := 5) rfl))) (mvT hZ (hw _ (List.mem_of_getElem? (i := 6) rfl))) (by decide) (backOf (W := 1) (rm1 l Z a0 hw [] b36 (q0 + (-7046029254386353131 : Int64)) (0 : Int64) h36 n0 Z36 A36 Fstate_b36 g_b36) hZ (hw _ (List.mem_of_getElem? (i := 6) rfl)) (hw _ (List.mem_of_getElem? (i := 3) rfl)) (by decide) (by decide)) (g := (mkF m 37 #[.val (.long q0), .second, .val (.long q1), .second, .val (.long (-7046029254386353131 : Int64)), .second, .val (.ref b19), .val (.long (f3 q0)), .second, .val (.long u33), .second, .unset, .unset, .unset, .unset, .unset, .unset, .unset, .unset, .unset] [(.long (q0 + (-7046029254386353131 : Int64))), (.ref b36), (.ref b36)])) rfl (by rw [hml]; rfl) (Steps.refl _) (a := b36) (argsL := [(.long (q0 + (-7046029254386353131 : Int64)))]) (rest := [(.ref b36)]) (lenOf pd_0 rfl) rfl (by show 2 * 0 + _ ≤ _; exact Nat.le_of_eq rfl) (hb hby at_37) (fun _ _ => ⟨rfl, e36, (by decide : 2 + 0 ≤ _), (by decide : 2 + 0 ≤ _)⟩)
  dsimp only [Pt.U, Pt.locs, Pt.cells, Pt.slots] at X41 l41 y41 z41 st41 hQ41
  subst l41 y41 z41
  obtain ⟨h41, e41⟩ : ∃ h, T41.heap = h := ⟨_, rfl⟩
  rw [e41] at hQ41
  obtain ⟨rfl, N41q, K41q, Q41_0, Q41_1⟩ := hQ41
  have N41 := Fr.app N30 N41q
  have Z41 : n0 ≤ h41.size := Nat.le_trans Z36 K41q.1
  have K41 : Keep h0 h41 [] := K36.trans K41q (fun x hx => by cases List.mem_singleton.mp hx; exact Or.inr sz_b36)
  have Ef42 : Exa Z h41 b19 "com/example/tetrawell/tetrawell/nes/SplitMix64" := (Ef37).keep K41q
  have Ff43 : Fld Z h41 b19 "com/example/tetrawell/tetrawell/nes/SplitMix64" "state" "J" (.long ((q0 + (-7046029254386353131 : Int64)) + (-7046029254386353131 : Int64))) := (Ff38).keep K41q (fun q => absurd (List.mem_singleton.mp q) ne_b19_b36)
  have Ef44 : Exa Z h41 b36 "com/example/tetrawell/tetrawell/nes/SplitMix64" := (A36).keep K41q
  have pre45 : ∀ t, Steps p.tables e below (T41.setTop (mkF m 40 #[.val (.long q0), .second, .val (.long q1), .second, .val (.long (-7046029254386353131 : Int64)), .second, .val (.ref b19), .val (.long (f3 q0)), .second, .val (.long u33), .second, .unset, .unset, .unset, .unset, .unset, .unset, .unset, .unset, .unset] [(.ref b36)])) t → Steps p.tables e below (s₁.setTop (entryFrame m #[(.long q0), (.long q1)] maxLocals)) t := fun t k => pre40 t (st41.trans k)
  obtain ⟨cq46, kq46, q46a, q46b, q46c⟩ := isOf hZ e41 Q41_0
  obtain ⟨_, _, ⟨T46, L46, k46, n46⟩, -, X46, ⟨Lc46, hQ46, l46, y46, z46⟩, st46⟩ := X41.virtualBack hx (y := (⟨"com/example/tetrawell/tetrawell/nes/SplitMix64", "nextLong", "()J"⟩ : MethodName)) (z := (⟨"com/example/tetrawell/tetrawell/nes/SplitMix64", "nextLong", "()J"⟩ : MethodName)) hown (mvT hZ (hw _ (List.mem_of_getElem? (i := 12) rfl))) (mvT hZ (hw _ (List.mem_of_getElem? (i := 13) rfl))) (notFace_of_selects (args := #[]) (mvT hZ (hw _ (List.mem_of_getElem? (i := 15) rfl)))) (mvT hZ (hw _ (List.mem_of_getElem? (i := 15) rfl))) (mvT hZ (hw _ (List.mem_of_getElem? (i := 14) rfl))) (by decide) (backOf (W := 0) (rm3 l Z a0 hw [] b36 (q0 + (-7046029254386353131 : Int64)) h41 n0 Z41 Q41_1 Q41_0 g_b36) hZ (hw _ (List.mem_of_getElem? (i := 16) rfl)) (hw _ (List.mem_of_getElem? (i := 3) rfl)) (by decide) (by decide)) q46a q46c (g := (mkF m 40 #[.val (.long q0), .second, .val (.long q1), .second, .val (.long (-7046029254386353131 : Int64)), .second, .val (.ref b19), .val (.long (f3 q0)), .second, .val (.long u33), .second, .unset, .unset, .unset, .unset, .unset, .unset, .unset, .unset, .unset] [(.ref b36)])) rfl (by rw [hml]; rfl) (Steps.refl _) (argsL := []) (rest := []) (lenOf pd_1 rfl) rfl (by show 2 * 0 + _ ≤ _; exact Nat.le_of_eq rfl) (hb hby at_40) (fun _ _ => ⟨rfl, e41, (by decide : 2 + 0 ≤ _), (by decide : 2 + 0 ≤ _)⟩)
  dsimp only [Pt.U, Pt.locs, Pt.cells, Pt.slots] at X46 l46 y46 z46 st46 hQ46
  subst l46 y46 z46
  obtain ⟨h46, e46⟩ : ∃ h, T46.heap = h := ⟨_, rfl⟩
  rw [e46] at hQ46
  obtain ⟨rfl, N46q, K46q, Q46_0, Q46_1⟩ := hQ46
  have N46 := Fr.app N41 N46q
  have Z46 : n0 ≤ h46.size := Nat.le_trans Z41 K46q.1
  have K46 : Keep h0 h46 [] := K41.trans K46q (fun x hx => by cases List.mem_singleton.mp hx; exact Or.inr sz_b36)
  have Ef47 : Exa Z h46 b19 "com/example/tetrawell/tetrawell/nes/SplitMix64" := (Ef42).keep K46q
  have Ff48 : Fld Z h46 b19 "com/example/tetrawell/tetrawell/nes/SplitMix64" "state" "J" (.long ((q0 + (-7046029254386353131 : Int64)) + (-7046029254386353131 : Int64))) := (Ff43).keep K46q (fun q => absurd (List.mem_singleton.mp q) ne_b19_b36)
  have Ef49 : Exa Z h46 b36 "com/example/tetrawell/tetrawell/nes/SplitMix64" := (Q41_0).keep K46q
  have pre50 : ∀ t, Steps p.tables e below (T46.setTop (mkF m 43 #[.val (.long q0), .second, .val (.long q1), .second, .val (.long (-7046029254386353131 : Int64)), .second, .val (.ref b19), .val (.long (f3 q0)), .second, .val (.long u33), .second, .unset, .unset, .unset, .unset, .unset, .unset, .unset, .unset, .unset] [(.long (f3 (q0 + (-7046029254386353131 : Int64))))])) t → Steps p.tables e below (s₁.setTop (entryFrame m #[(.long q0), (.long q1)] maxLocals)) t := fun t k => pre45 t (st46.trans k)
  obtain ⟨u51, hu51⟩ : ∃ z : Int64, z = (f3 (q0 + (-7046029254386353131 : Int64))) := ⟨_, rfl⟩
  have pre52 : ∀ t, Steps p.tables e below (T46.setTop (mkF m 43 #[.val (.long q0), .second, .val (.long q1), .second, .val (.long (-7046029254386353131 : Int64)), .second, .val (.ref b19), .val (.long (f3 q0)), .second, .val (.long u33), .second, .unset, .unset, .unset, .unset, .unset, .unset, .unset, .unset, .unset] [(.long u51)])) t → Steps p.tables e below (s₁.setTop (entryFrame m #[(.long q0), (.long q1)] maxLocals)) t := by rw [hu51]; exact pre50
  have pre53 : ∀ t, Steps p.tables e below (T46.setTop (mkF m 45 #[.val (.long q0), .second, .val (.long q1), .second, .val (.long (-7046029254386353131 : Int64)), .second, .val (.ref b19), .val (.long (f3 q0)), .second, .val (.long u33), .second, .val (.long u51), .second, .unset, .unset, .unset, .unset, .unset, .unset, .unset] [])) t → Steps p.tables e below (s₁.setTop (entryFrame m #[(.long q0), (.long q1)] maxLocals)) t := by
    intro t k
    refine pre52 t ?_
    show Steps p.tables e below (T46.setTop (mkF m 43 #[.val (.long q0), .second, .val (.long q1), .second, .val (.long (-7046029254386353131 : Int64)), .second, .val (.ref b19), .val (.long (f3 q0)), .second, .val (.long u33), .second, .unset, .unset, .unset, .unset, .unset, .unset, .unset, .unset, .unset] [(.long u51)])) _
    refine XS.lstore X46.here hx rfl (hb hby at_43) rfl (l' := #[.val (.long q0), .second, .val (.long q1), .second, .val (.long (-7046029254386353131 : Int64)), .second, .val (.ref b19), .val (.long (f3 q0)), .second, .val (.long u33), .second, .val (.long u51), .second, .unset, .unset, .unset, .unset, .unset, .unset, .unset]) rfl ?_
    show Steps p.tables e below (T46.setTop (mkF m 45 #[.val (.long q0), .second, .val (.long q1), .second, .val (.long (-7046029254386353131 : Int64)), .second, .val (.ref b19), .val (.long (f3 q0)), .second, .val (.long u33), .second, .val (.long u51), .second, .unset, .unset, .unset, .unset, .unset, .unset, .unset] [])) _
    exact k
  obtain ⟨T54, h54, X54, e54, E54, A54, D54, -, st54⟩ := newO X46 hx hZ hown (hw _ (List.mem_of_getElem? (i := 1) rfl)) (hw _ (List.mem_of_getElem? (i := 2) rfl)) (hw _ (List.mem_of_getElem? (i := 3) rfl)) e46 (g := (mkF m 45 #[.val (.long q0), .second, .val (.long q1), .second, .val (.long (-7046029254386353131 : Int64)), .second, .val (.ref b19), .val (.long (f3 q0)), .second, .val (.long u33), .second, .val (.long u51), .second, .unset, .unset, .unset, .unset, .unset, .unset, .unset] [])) rfl (hb hby at_45) (by decide) (by decide)
  obtain ⟨b54, g54⟩ : ∃ z, z = h46.size := ⟨_, rfl⟩
  rw [← g54] at A54 D54 st54
  have ne_b19_b54 : b19 ≠ b54 := Nat.ne_of_lt (Nat.lt_of_lt_of_le (Ef47).lt (Nat.le_of_eq g54.symm))
  have ne_b36_b54 : b36 ≠ b54 := Nat.ne_of_lt (Nat.lt_of_lt_of_le (Q46_0).lt (Nat.le_of_eq g54.symm))
  have g_b54 : n0 ≤ b54 := Nat.le_trans Z46 (Nat.le_of_eq g54.symm)
  have sz_b54 : h0.size ≤ b54 := Nat.le_trans K46.1 (Nat.le_of_eq g54.symm)
  have Z54 : n0 ≤ h54.size := Nat.le_trans Z46 E54.1
  have K54 : Keep h0 h54 [] := K46.ext E54
  have Ef55 : Exa Z h54 b19 "com/example/tetrawell/tetrawell/nes/SplitMix64" := (Ef47).ext E54
  have Ff56 : Fld Z h54 b19 "com/example/tetrawell/tetrawell/nes/SplitMix64" "state" "J" (.long ((q0 + (-7046029254386353131 : Int64)) + (-7046029254386353131 : Int64))) := (Ff48).ext E54
  have Ef57 : Exa Z h54 b36 "com/example/tetrawell/tetrawell/nes/SplitMix64" := (Q46_0).ext E54
  have Ff58 : Fld Z h54 b36 "com/example/tetrawell/tetrawell/nes/SplitMix64" "state" "J" (.long ((q0 + (-7046029254386353131 : Int64)) + (-7046029254386353131 : Int64))) := (Q46_1).ext E54
  have Fstate_b54 : Fld Z h54 b54 "com/example/tetrawell/tetrawell/nes/SplitMix64" "state" "J" (.long (0 : Int64)) := D54 (Or.inl (hw _ (List.mem_of_getElem? (i := 11) rfl))) (ty := .long) (by decide)
  have pre59 : ∀ t, Steps p.tables e below (T54.setTop (mkF m 48 #[.val (.long q0), .second, .val (.long q1), .second, .val (.long (-7046029254386353131 : Int64)), .second, .val (.ref b19), .val (.long (f3 q0)), .second, .val (.long u33), .second, .val (.long u51), .second, .unset, .unset, .unset, .unset, .unset, .unset, .unset] [(.ref b54)])) t → Steps p.tables e below (s₁.setTop (entryFrame m #[(.long q0), (.long q1)] maxLocals)) t := fun t k => pre53 t (st54 t k)
  have pre60 : ∀ t, Steps p.tables e below (T54.setTop (mkF m 50 #[.val (.long q0), .second, .val (.long q1), .second, .val (.long (-7046029254386353131 : Int64)), .second, .val (.ref b19), .val (.long (f3 q0)), .second, .val (.long u33), .second, .val (.long u51), .second, .unset, .unset, .unset, .unset, .unset, .unset, .unset] [(.long q1), (.ref b54), (.ref b54)])) t → Steps p.tables e below (s₁.setTop (entryFrame m #[(.long q0), (.long q1)] maxLocals)) t := by
    intro t k
    refine pre59 t ?_
    show Steps p.tables e below (T54.setTop (mkF m 48 #[.val (.long q0), .second, .val (.long q1), .second, .val (.long (-7046029254386353131 : Int64)), .second, .val (.ref b19), .val (.long (f3 q0)), .second, .val (.long u33), .second, .val (.long u51), .second, .unset, .unset, .unset, .unset, .unset, .unset, .unset] [(.ref b54)])) _
    refine XS.dup X54.here hx rfl (hb hby at_48) rfl rfl ?_
    show Steps p.tables e below (T54.setTop (mkF m 49 #[.val (.long q0), .second, .val (.long q1), .second, .val (.long (-7046029254386353131 : Int64)), .second, .val (.ref b19), .val (.long (f3 q0)), .second, .val (.long u33), .second, .val (.long u51), .second, .unset, .unset, .unset, .unset, .unset, .unset, .unset] [(.ref b54), (.ref b54)])) _
    refine XS.lloadN X54.here hx rfl (hb hby at_49) rfl ?_
    show Steps p.tables e below (T54.setTop (mkF m 50 #[.val (.long q0), .second, .val (.long q1), .second, .val (.long (-7046029254386353131 : Int64)), .second, .val (.ref b19), .val (.long (f3 q0)), .second, .val (.long u33), .second, .val (.long u51), .second, .unset, .unset, .unset, .unset, .unset, .unset, .unset] [(.long q1), (.ref b54), (.ref b54)])) _
    exact k
  obtain ⟨_, _, ⟨T61, L61, k61, n61⟩, -, X61, ⟨Lc61, hQ61, l61, y61, z61⟩, st61⟩ := X54.specialBack hx (y := (⟨"com/example/tetrawell/tetrawell/nes/SplitMix64", "<init>", "(J)V"⟩ : MethodName)) rfl hown (mvT hZ (hw _ (List.mem_of_getElem? (i := 4) rfl))) (mvT hZ (hw _ (List.mem_of_getElem? (i := 5) rfl))) (mvT hZ (hw _ (List.mem_of_getElem? (i := 6) rfl))) (by decide) (backOf (W := 1) (rm1 l Z a0 hw [] b54 q1 (0 : Int64) h54 n0 Z54 A54 Fstate_b54 g_b54) hZ (hw _ (List.mem_of_getElem? (i := 6) rfl)) (hw _ (List.mem_of_getElem? (i := 3) rfl)) (by decide) (by decide)) (g := (mkF m 50 #[.val (.long q0), .second, .val (.long q1), .second, .val (.long (-7046029254386353131 : Int64)), .second, .val (.ref b19), .val (.long (f3 q0)), .second, .val (.long u33), .second, .val (.long u51), .second, .unset, .unset, .unset, .unset, .unset, .unset, .unset] [(.long q1), (.ref b54), (.ref b54)])) rfl (by rw [hml]; rfl) (Steps.refl _) (a := b54) (argsL := [(.long q1)]) (rest := [(.ref b54)]) (lenOf pd_0 rfl) rfl (by show 2 * 0 + _ ≤ _; exact Nat.le_of_eq rfl) (hb hby at_50) (fun _ _ => ⟨rfl, e54, (by decide : 3 + 0 ≤ _), (by decide : 3 + 0 ≤ _)⟩)
  dsimp only [Pt.U, Pt.locs, Pt.cells, Pt.slots] at X61 l61 y61 z61 st61 hQ61
  subst l61 y61 z61
  obtain ⟨h61, e61⟩ : ∃ h, T61.heap = h := ⟨_, rfl⟩
  rw [e61] at hQ61
  obtain ⟨rfl, N61q, K61q, Q61_0, Q61_1⟩ := hQ61
  have N61 := Fr.app N46 N61q
  have Z61 : n0 ≤ h61.size := Nat.le_trans Z54 K61q.1
  have K61 : Keep h0 h61 [] := K54.trans K61q (fun x hx => by cases List.mem_singleton.mp hx; exact Or.inr sz_b54)
  have Ef62 : Exa Z h61 b19 "com/example/tetrawell/tetrawell/nes/SplitMix64" := (Ef55).keep K61q
  have Ff63 : Fld Z h61 b19 "com/example/tetrawell/tetrawell/nes/SplitMix64" "state" "J" (.long ((q0 + (-7046029254386353131 : Int64)) + (-7046029254386353131 : Int64))) := (Ff56).keep K61q (fun q => absurd (List.mem_singleton.mp q) ne_b19_b54)
  have Ef64 : Exa Z h61 b36 "com/example/tetrawell/tetrawell/nes/SplitMix64" := (Ef57).keep K61q
  have Ff65 : Fld Z h61 b36 "com/example/tetrawell/tetrawell/nes/SplitMix64" "state" "J" (.long ((q0 + (-7046029254386353131 : Int64)) + (-7046029254386353131 : Int64))) := (Ff58).keep K61q (fun q => absurd (List.mem_singleton.mp q) ne_b36_b54)
  have Ef66 : Exa Z h61 b54 "com/example/tetrawell/tetrawell/nes/SplitMix64" := (A54).keep K61q
  have pre67 : ∀ t, Steps p.tables e below (T61.setTop (mkF m 53 #[.val (.long q0), .second, .val (.long q1), .second, .val (.long (-7046029254386353131 : Int64)), .second, .val (.ref b19), .val (.long (f3 q0)), .second, .val (.long u33), .second, .val (.long u51), .second, .unset, .unset, .unset, .unset, .unset, .unset, .unset] [(.ref b54)])) t → Steps p.tables e below (s₁.setTop (entryFrame m #[(.long q0), (.long q1)] maxLocals)) t := fun t k => pre60 t (st61.trans k)
  obtain ⟨cq68, kq68, q68a, q68b, q68c⟩ := isOf hZ e61 Q61_0
  obtain ⟨_, _, ⟨T68, L68, k68, n68⟩, -, X68, ⟨Lc68, hQ68, l68, y68, z68⟩, st68⟩ := X61.virtualBack hx (y := (⟨"com/example/tetrawell/tetrawell/nes/SplitMix64", "nextLong", "()J"⟩ : MethodName)) (z := (⟨"com/example/tetrawell/tetrawell/nes/SplitMix64", "nextLong", "()J"⟩ : MethodName)) hown (mvT hZ (hw _ (List.mem_of_getElem? (i := 12) rfl))) (mvT hZ (hw _ (List.mem_of_getElem? (i := 13) rfl))) (notFace_of_selects (args := #[]) (mvT hZ (hw _ (List.mem_of_getElem? (i := 15) rfl)))) (mvT hZ (hw _ (List.mem_of_getElem? (i := 15) rfl))) (mvT hZ (hw _ (List.mem_of_getElem? (i := 14) rfl))) (by decide) (backOf (W := 0) (rm3 l Z a0 hw [] b54 q1 h61 n0 Z61 Q61_1 Q61_0 g_b54) hZ (hw _ (List.mem_of_getElem? (i := 16) rfl)) (hw _ (List.mem_of_getElem? (i := 3) rfl)) (by decide) (by decide)) q68a q68c (g := (mkF m 53 #[.val (.long q0), .second, .val (.long q1), .second, .val (.long (-7046029254386353131 : Int64)), .second, .val (.ref b19), .val (.long (f3 q0)), .second, .val (.long u33), .second, .val (.long u51), .second, .unset, .unset, .unset, .unset, .unset, .unset, .unset] [(.ref b54)])) rfl (by rw [hml]; rfl) (Steps.refl _) (argsL := []) (rest := []) (lenOf pd_1 rfl) rfl (by show 2 * 0 + _ ≤ _; exact Nat.le_of_eq rfl) (hb hby at_53) (fun _ _ => ⟨rfl, e61, (by decide : 3 + 0 ≤ _), (by decide : 3 + 0 ≤ _)⟩)
  dsimp only [Pt.U, Pt.locs, Pt.cells, Pt.slots] at X68 l68 y68 z68 st68 hQ68
  subst l68 y68 z68
  obtain ⟨h68, e68⟩ : ∃ h, T68.heap = h := ⟨_, rfl⟩
  rw [e68] at hQ68
  obtain ⟨rfl, N68q, K68q, Q68_0, Q68_1⟩ := hQ68
  have N68 := Fr.app N61 N68q
  have Z68 : n0 ≤ h68.size := Nat.le_trans Z61 K68q.1
  have K68 : Keep h0 h68 [] := K61.trans K68q (fun x hx => by cases List.mem_singleton.mp hx; exact Or.inr sz_b54)
  have Ef69 : Exa Z h68 b19 "com/example/tetrawell/tetrawell/nes/SplitMix64" := (Ef62).keep K68q
  have Ff70 : Fld Z h68 b19 "com/example/tetrawell/tetrawell/nes/SplitMix64" "state" "J" (.long ((q0 + (-7046029254386353131 : Int64)) + (-7046029254386353131 : Int64))) := (Ff63).keep K68q (fun q => absurd (List.mem_singleton.mp q) ne_b19_b54)
  have Ef71 : Exa Z h68 b36 "com/example/tetrawell/tetrawell/nes/SplitMix64" := (Ef64).keep K68q
  have Ff72 : Fld Z h68 b36 "com/example/tetrawell/tetrawell/nes/SplitMix64" "state" "J" (.long ((q0 + (-7046029254386353131 : Int64)) + (-7046029254386353131 : Int64))) := (Ff65).keep K68q (fun q => absurd (List.mem_singleton.mp q) ne_b36_b54)
  have Ef73 : Exa Z h68 b54 "com/example/tetrawell/tetrawell/nes/SplitMix64" := (Q61_0).keep K68q
  have pre74 : ∀ t, Steps p.tables e below (T68.setTop (mkF m 56 #[.val (.long q0), .second, .val (.long q1), .second, .val (.long (-7046029254386353131 : Int64)), .second, .val (.ref b19), .val (.long (f3 q0)), .second, .val (.long u33), .second, .val (.long u51), .second, .unset, .unset, .unset, .unset, .unset, .unset, .unset] [(.long (f3 q1))])) t → Steps p.tables e below (s₁.setTop (entryFrame m #[(.long q0), (.long q1)] maxLocals)) t := fun t k => pre67 t (st68.trans k)
  have pre75 : ∀ t, Steps p.tables e below (T68.setTop (mkF m 58 #[.val (.long q0), .second, .val (.long q1), .second, .val (.long (-7046029254386353131 : Int64)), .second, .val (.ref b19), .val (.long (f3 q0)), .second, .val (.long u33), .second, .val (.long u51), .second, .val (.long (f3 q1)), .second, .unset, .unset, .unset, .unset, .unset] [])) t → Steps p.tables e below (s₁.setTop (entryFrame m #[(.long q0), (.long q1)] maxLocals)) t := by
    intro t k
    refine pre74 t ?_
    show Steps p.tables e below (T68.setTop (mkF m 56 #[.val (.long q0), .second, .val (.long q1), .second, .val (.long (-7046029254386353131 : Int64)), .second, .val (.ref b19), .val (.long (f3 q0)), .second, .val (.long u33), .second, .val (.long u51), .second, .unset, .unset, .unset, .unset, .unset, .unset, .unset] [(.long (f3 q1))])) _
    refine XS.lstore X68.here hx rfl (hb hby at_56) rfl (l' := #[.val (.long q0), .second, .val (.long q1), .second, .val (.long (-7046029254386353131 : Int64)), .second, .val (.ref b19), .val (.long (f3 q0)), .second, .val (.long u33), .second, .val (.long u51), .second, .val (.long (f3 q1)), .second, .unset, .unset, .unset, .unset, .unset]) rfl ?_
    show Steps p.tables e below (T68.setTop (mkF m 58 #[.val (.long q0), .second, .val (.long q1), .second, .val (.long (-7046029254386353131 : Int64)), .second, .val (.ref b19), .val (.long (f3 q0)), .second, .val (.long u33), .second, .val (.long u51), .second, .val (.long (f3 q1)), .second, .unset, .unset, .unset, .unset, .unset] [])) _
    exact k
  obtain ⟨T76, h76, X76, e76, E76, A76, D76, -, st76⟩ := newO X68 hx hZ hown (hw _ (List.mem_of_getElem? (i := 1) rfl)) (hw _ (List.mem_of_getElem? (i := 2) rfl)) (hw _ (List.mem_of_getElem? (i := 3) rfl)) e68 (g := (mkF m 58 #[.val (.long q0), .second, .val (.long q1), .second, .val (.long (-7046029254386353131 : Int64)), .second, .val (.ref b19), .val (.long (f3 q0)), .second, .val (.long u33), .second, .val (.long u51), .second, .val (.long (f3 q1)), .second, .unset, .unset, .unset, .unset, .unset] [])) rfl (hb hby at_58) (by decide) (by decide)
  obtain ⟨b76, g76⟩ : ∃ z, z = h68.size := ⟨_, rfl⟩
  rw [← g76] at A76 D76 st76
  have ne_b19_b76 : b19 ≠ b76 := Nat.ne_of_lt (Nat.lt_of_lt_of_le (Ef69).lt (Nat.le_of_eq g76.symm))
  have ne_b36_b76 : b36 ≠ b76 := Nat.ne_of_lt (Nat.lt_of_lt_of_le (Ef71).lt (Nat.le_of_eq g76.symm))
  have ne_b54_b76 : b54 ≠ b76 := Nat.ne_of_lt (Nat.lt_of_lt_of_le (Q68_0).lt (Nat.le_of_eq g76.symm))
  have g_b76 : n0 ≤ b76 := Nat.le_trans Z68 (Nat.le_of_eq g76.symm)
  have sz_b76 : h0.size ≤ b76 := Nat.le_trans K68.1 (Nat.le_of_eq g76.symm)
  have Z76 : n0 ≤ h76.size := Nat.le_trans Z68 E76.1
  have K76 : Keep h0 h76 [] := K68.ext E76
  have Ef77 : Exa Z h76 b19 "com/example/tetrawell/tetrawell/nes/SplitMix64" := (Ef69).ext E76
  have Ff78 : Fld Z h76 b19 "com/example/tetrawell/tetrawell/nes/SplitMix64" "state" "J" (.long ((q0 + (-7046029254386353131 : Int64)) + (-7046029254386353131 : Int64))) := (Ff70).ext E76
  have Ef79 : Exa Z h76 b36 "com/example/tetrawell/tetrawell/nes/SplitMix64" := (Ef71).ext E76
  have Ff80 : Fld Z h76 b36 "com/example/tetrawell/tetrawell/nes/SplitMix64" "state" "J" (.long ((q0 + (-7046029254386353131 : Int64)) + (-7046029254386353131 : Int64))) := (Ff72).ext E76
  have Ef81 : Exa Z h76 b54 "com/example/tetrawell/tetrawell/nes/SplitMix64" := (Q68_0).ext E76
  have Ff82 : Fld Z h76 b54 "com/example/tetrawell/tetrawell/nes/SplitMix64" "state" "J" (.long (q1 + (-7046029254386353131 : Int64))) := (Q68_1).ext E76
  have Fstate_b76 : Fld Z h76 b76 "com/example/tetrawell/tetrawell/nes/SplitMix64" "state" "J" (.long (0 : Int64)) := D76 (Or.inl (hw _ (List.mem_of_getElem? (i := 11) rfl))) (ty := .long) (by decide)
  have pre83 : ∀ t, Steps p.tables e below (T76.setTop (mkF m 61 #[.val (.long q0), .second, .val (.long q1), .second, .val (.long (-7046029254386353131 : Int64)), .second, .val (.ref b19), .val (.long (f3 q0)), .second, .val (.long u33), .second, .val (.long u51), .second, .val (.long (f3 q1)), .second, .unset, .unset, .unset, .unset, .unset] [(.ref b76)])) t → Steps p.tables e below (s₁.setTop (entryFrame m #[(.long q0), (.long q1)] maxLocals)) t := fun t k => pre75 t (st76 t k)
  have pre84 : ∀ t, Steps p.tables e below (T76.setTop (mkF m 65 #[.val (.long q0), .second, .val (.long q1), .second, .val (.long (-7046029254386353131 : Int64)), .second, .val (.ref b19), .val (.long (f3 q0)), .second, .val (.long u33), .second, .val (.long u51), .second, .val (.long (f3 q1)), .second, .unset, .unset, .unset, .unset, .unset] [(.long (1234567 : Int64)), (.ref b76), (.ref b76)])) t → Steps p.tables e below (s₁.setTop (entryFrame m #[(.long q0), (.long q1)] maxLocals)) t := by
    intro t k
    refine pre83 t ?_
    show Steps p.tables e below (T76.setTop (mkF m 61 #[.val (.long q0), .second, .val (.long q1), .second, .val (.long (-7046029254386353131 : Int64)), .second, .val (.ref b19), .val (.long (f3 q0)), .second, .val (.long u33), .second, .val (.long u51), .second, .val (.long (f3 q1)), .second, .unset, .unset, .unset, .unset, .unset] [(.ref b76)])) _
    refine XS.dup X76.here hx rfl (hb hby at_61) rfl rfl ?_
    show Steps p.tables e below (T76.setTop (mkF m 62 #[.val (.long q0), .second, .val (.long q1), .second, .val (.long (-7046029254386353131 : Int64)), .second, .val (.ref b19), .val (.long (f3 q0)), .second, .val (.long u33), .second, .val (.long u51), .second, .val (.long (f3 q1)), .second, .unset, .unset, .unset, .unset, .unset] [(.ref b76), (.ref b76)])) _
    refine X76.ldc2Long hx hown (mvT hZ (hw _ (List.mem_of_getElem? (i := 20) rfl))) (g := (mkF m 62 #[.val (.long q0), .second, .val (.long q1), .second, .val (.long (-7046029254386353131 : Int64)), .second, .val (.ref b19), .val (.long (f3 q0)), .second, .val (.long u33), .second, .val (.long u51), .second, .val (.long (f3 q1)), .second, .unset, .unset, .unset, .unset, .unset] [(.ref b76), (.ref b76)])) rfl (hb hby at_62) _ ?_
    show Steps p.tables e below (T76.setTop (mkF m 65 #[.val (.long q0), .second, .val (.long q1), .second, .val (.long (-7046029254386353131 : Int64)), .second, .val (.ref b19), .val (.long (f3 q0)), .second, .val (.long u33), .second, .val (.long u51), .second, .val (.long (f3 q1)), .second, .unset, .unset, .unset, .unset, .unset] [(.long (1234567 : Int64)), (.ref b76), (.ref b76)])) _
    exact k
  obtain ⟨_, _, ⟨T85, L85, k85, n85⟩, -, X85, ⟨Lc85, hQ85, l85, y85, z85⟩, st85⟩ := X76.specialBack hx (y := (⟨"com/example/tetrawell/tetrawell/nes/SplitMix64", "<init>", "(J)V"⟩ : MethodName)) rfl hown (mvT hZ (hw _ (List.mem_of_getElem? (i := 4) rfl))) (mvT hZ (hw _ (List.mem_of_getElem? (i := 5) rfl))) (mvT hZ (hw _ (List.mem_of_getElem? (i := 6) rfl))) (by decide) (backOf (W := 1) (rm1 l Z a0 hw [] b76 (1234567 : Int64) (0 : Int64) h76 n0 Z76 A76 Fstate_b76 g_b76) hZ (hw _ (List.mem_of_getElem? (i := 6) rfl)) (hw _ (List.mem_of_getElem? (i := 3) rfl)) (by decide) (by decide)) (g := (mkF m 65 #[.val (.long q0), .second, .val (.long q1), .second, .val (.long (-7046029254386353131 : Int64)), .second, .val (.ref b19), .val (.long (f3 q0)), .second, .val (.long u33), .second, .val (.long u51), .second, .val (.long (f3 q1)), .second, .unset, .unset, .unset, .unset, .unset] [(.long (1234567 : Int64)), (.ref b76), (.ref b76)])) rfl (by rw [hml]; rfl) (Steps.refl _) (a := b76) (argsL := [(.long (1234567 : Int64))]) (rest := [(.ref b76)]) (lenOf pd_0 rfl) rfl (by show 2 * 0 + _ ≤ _; exact Nat.le_of_eq rfl) (hb hby at_65) (fun _ _ => ⟨rfl, e76, (by decide : 4 + 0 ≤ _), (by decide : 4 + 0 ≤ _)⟩)
  dsimp only [Pt.U, Pt.locs, Pt.cells, Pt.slots] at X85 l85 y85 z85 st85 hQ85
  subst l85 y85 z85
  obtain ⟨h85, e85⟩ : ∃ h, T85.heap = h := ⟨_, rfl⟩
  rw [e85] at hQ85
  obtain ⟨rfl, N85q, K85q, Q85_0, Q85_1⟩ := hQ85
  have N85 := Fr.app N68 N85q
  have Z85 : n0 ≤ h85.size := Nat.le_trans Z76 K85q.1
  have K85 : Keep h0 h85 [] := K76.trans K85q (fun x hx => by cases List.mem_singleton.mp hx; exact Or.inr sz_b76)
  have Ef86 : Exa Z h85 b19 "com/example/tetrawell/tetrawell/nes/SplitMix64" := (Ef77).keep K85q
  have Ff87 : Fld Z h85 b19 "com/example/tetrawell/tetrawell/nes/SplitMix64" "state" "J" (.long ((q0 + (-7046029254386353131 : Int64)) + (-7046029254386353131 : Int64))) := (Ff78).keep K85q (fun q => absurd (List.mem_singleton.mp q) ne_b19_b76)
  have Ef88 : Exa Z h85 b36 "com/example/tetrawell/tetrawell/nes/SplitMix64" := (Ef79).keep K85q
  have Ff89 : Fld Z h85 b36 "com/example/tetrawell/tetrawell/nes/SplitMix64" "state" "J" (.long ((q0 + (-7046029254386353131 : Int64)) + (-7046029254386353131 : Int64))) := (Ff80).keep K85q (fun q => absurd (List.mem_singleton.mp q) ne_b36_b76)
  have Ef90 : Exa Z h85 b54 "com/example/tetrawell/tetrawell/nes/SplitMix64" := (Ef81).keep K85q
  have Ff91 : Fld Z h85 b54 "com/example/tetrawell/tetrawell/nes/SplitMix64" "state" "J" (.long (q1 + (-7046029254386353131 : Int64))) := (Ff82).keep K85q (fun q => absurd (List.mem_singleton.mp q) ne_b54_b76)
  have Ef92 : Exa Z h85 b76 "com/example/tetrawell/tetrawell/nes/SplitMix64" := (A76).keep K85q
  have pre93 : ∀ t, Steps p.tables e below (T85.setTop (mkF m 68 #[.val (.long q0), .second, .val (.long q1), .second, .val (.long (-7046029254386353131 : Int64)), .second, .val (.ref b19), .val (.long (f3 q0)), .second, .val (.long u33), .second, .val (.long u51), .second, .val (.long (f3 q1)), .second, .unset, .unset, .unset, .unset, .unset] [(.ref b76)])) t → Steps p.tables e below (s₁.setTop (entryFrame m #[(.long q0), (.long q1)] maxLocals)) t := fun t k => pre84 t (st85.trans k)
  obtain ⟨cq94, kq94, q94a, q94b, q94c⟩ := isOf hZ e85 Q85_0
  obtain ⟨_, _, ⟨T94, L94, k94, n94⟩, -, X94, ⟨Lc94, hQ94, l94, y94, z94⟩, st94⟩ := X85.virtualBack hx (y := (⟨"com/example/tetrawell/tetrawell/nes/SplitMix64", "nextLong", "()J"⟩ : MethodName)) (z := (⟨"com/example/tetrawell/tetrawell/nes/SplitMix64", "nextLong", "()J"⟩ : MethodName)) hown (mvT hZ (hw _ (List.mem_of_getElem? (i := 12) rfl))) (mvT hZ (hw _ (List.mem_of_getElem? (i := 13) rfl))) (notFace_of_selects (args := #[]) (mvT hZ (hw _ (List.mem_of_getElem? (i := 15) rfl)))) (mvT hZ (hw _ (List.mem_of_getElem? (i := 15) rfl))) (mvT hZ (hw _ (List.mem_of_getElem? (i := 14) rfl))) (by decide) (backOf (W := 0) (rm3 l Z a0 hw [] b76 (1234567 : Int64) h85 n0 Z85 Q85_1 Q85_0 g_b76) hZ (hw _ (List.mem_of_getElem? (i := 16) rfl)) (hw _ (List.mem_of_getElem? (i := 3) rfl)) (by decide) (by decide)) q94a q94c (g := (mkF m 68 #[.val (.long q0), .second, .val (.long q1), .second, .val (.long (-7046029254386353131 : Int64)), .second, .val (.ref b19), .val (.long (f3 q0)), .second, .val (.long u33), .second, .val (.long u51), .second, .val (.long (f3 q1)), .second, .unset, .unset, .unset, .unset, .unset] [(.ref b76)])) rfl (by rw [hml]; rfl) (Steps.refl _) (argsL := []) (rest := []) (lenOf pd_1 rfl) rfl (by show 2 * 0 + _ ≤ _; exact Nat.le_of_eq rfl) (hb hby at_68) (fun _ _ => ⟨rfl, e85, (by decide : 4 + 0 ≤ _), (by decide : 4 + 0 ≤ _)⟩)
  dsimp only [Pt.U, Pt.locs, Pt.cells, Pt.slots] at X94 l94 y94 z94 st94 hQ94
  subst l94 y94 z94
  obtain ⟨h94, e94⟩ : ∃ h, T94.heap = h := ⟨_, rfl⟩
  rw [e94] at hQ94
  obtain ⟨rfl, N94q, K94q, Q94_0, Q94_1⟩ := hQ94
  have N94 := Fr.app N85 N94q
  have Z94 : n0 ≤ h94.size := Nat.le_trans Z85 K94q.1
  have K94 : Keep h0 h94 [] := K85.trans K94q (fun x hx => by cases List.mem_singleton.mp hx; exact Or.inr sz_b76)
  have Ef95 : Exa Z h94 b19 "com/example/tetrawell/tetrawell/nes/SplitMix64" := (Ef86).keep K94q
  have Ff96 : Fld Z h94 b19 "com/example/tetrawell/tetrawell/nes/SplitMix64" "state" "J" (.long ((q0 + (-7046029254386353131 : Int64)) + (-7046029254386353131 : Int64))) := (Ff87).keep K94q (fun q => absurd (List.mem_singleton.mp q) ne_b19_b76)
  have Ef97 : Exa Z h94 b36 "com/example/tetrawell/tetrawell/nes/SplitMix64" := (Ef88).keep K94q
  have Ff98 : Fld Z h94 b36 "com/example/tetrawell/tetrawell/nes/SplitMix64" "state" "J" (.long ((q0 + (-7046029254386353131 : Int64)) + (-7046029254386353131 : Int64))) := (Ff89).keep K94q (fun q => absurd (List.mem_singleton.mp q) ne_b36_b76)
  have Ef99 : Exa Z h94 b54 "com/example/tetrawell/tetrawell/nes/SplitMix64" := (Ef90).keep K94q
  have Ff100 : Fld Z h94 b54 "com/example/tetrawell/tetrawell/nes/SplitMix64" "state" "J" (.long (q1 + (-7046029254386353131 : Int64))) := (Ff91).keep K94q (fun q => absurd (List.mem_singleton.mp q) ne_b54_b76)
  have Ef101 : Exa Z h94 b76 "com/example/tetrawell/tetrawell/nes/SplitMix64" := (Q85_0).keep K94q
  have pre102 : ∀ t, Steps p.tables e below (T94.setTop (mkF m 71 #[.val (.long q0), .second, .val (.long q1), .second, .val (.long (-7046029254386353131 : Int64)), .second, .val (.ref b19), .val (.long (f3 q0)), .second, .val (.long u33), .second, .val (.long u51), .second, .val (.long (f3 q1)), .second, .unset, .unset, .unset, .unset, .unset] [(.long (f3 (1234567 : Int64)))])) t → Steps p.tables e below (s₁.setTop (entryFrame m #[(.long q0), (.long q1)] maxLocals)) t := fun t k => pre93 t (st94.trans k)
  obtain ⟨u103, hu103⟩ : ∃ z : Int64, z = (f3 (1234567 : Int64)) := ⟨_, rfl⟩
  have pre104 : ∀ t, Steps p.tables e below (T94.setTop (mkF m 71 #[.val (.long q0), .second, .val (.long q1), .second, .val (.long (-7046029254386353131 : Int64)), .second, .val (.ref b19), .val (.long (f3 q0)), .second, .val (.long u33), .second, .val (.long u51), .second, .val (.long (f3 q1)), .second, .unset, .unset, .unset, .unset, .unset] [(.long u103)])) t → Steps p.tables e below (s₁.setTop (entryFrame m #[(.long q0), (.long q1)] maxLocals)) t := by rw [hu103]; exact pre102
  have pre105 : ∀ t, Steps p.tables e below (T94.setTop (mkF m 78 #[.val (.long q0), .second, .val (.long q1), .second, .val (.long (-7046029254386353131 : Int64)), .second, .val (.ref b19), .val (.long (f3 q0)), .second, .val (.long u33), .second, .val (.long u51), .second, .val (.long (f3 q1)), .second, .val (.long u103), .second, .unset, .unset, .unset] [(.int (lcmpW u33 u51))])) t → Steps p.tables e below (s₁.setTop (entryFrame m #[(.long q0), (.long q1)] maxLocals)) t := by
    intro t k
    refine pre104 t ?_
    show Steps p.tables e below (T94.setTop (mkF m 71 #[.val (.long q0), .second, .val (.long q1), .second, .val (.long (-7046029254386353131 : Int64)), .second, .val (.ref b19), .val (.long (f3 q0)), .second, .val (.long u33), .second, .val (.long u51), .second, .val (.long (f3 q1)), .second, .unset, .unset, .unset, .unset, .unset] [(.long u103)])) _
    refine XS.lstore X94.here hx rfl (hb hby at_71) rfl (l' := #[.val (.long q0), .second, .val (.long q1), .second, .val (.long (-7046029254386353131 : Int64)), .second, .val (.ref b19), .val (.long (f3 q0)), .second, .val (.long u33), .second, .val (.long u51), .second, .val (.long (f3 q1)), .second, .val (.long u103), .second, .unset, .unset, .unset]) rfl ?_
    show Steps p.tables e below (T94.setTop (mkF m 73 #[.val (.long q0), .second, .val (.long q1), .second, .val (.long (-7046029254386353131 : Int64)), .second, .val (.ref b19), .val (.long (f3 q0)), .second, .val (.long u33), .second, .val (.long u51), .second, .val (.long (f3 q1)), .second, .val (.long u103), .second, .unset, .unset, .unset] [])) _
    refine XS.lload X94.here hx rfl (hb hby at_73) rfl ?_
    show Steps p.tables e below (T94.setTop (mkF m 75 #[.val (.long q0), .second, .val (.long q1), .second, .val (.long (-7046029254386353131 : Int64)), .second, .val (.ref b19), .val (.long (f3 q0)), .second, .val (.long u33), .second, .val (.long u51), .second, .val (.long (f3 q1)), .second, .val (.long u103), .second, .unset, .unset, .unset] [(.long u33)])) _
    refine XS.lload X94.here hx rfl (hb hby at_75) rfl ?_
    show Steps p.tables e below (T94.setTop (mkF m 77 #[.val (.long q0), .second, .val (.long q1), .second, .val (.long (-7046029254386353131 : Int64)), .second, .val (.ref b19), .val (.long (f3 q0)), .second, .val (.long u33), .second, .val (.long u51), .second, .val (.long (f3 q1)), .second, .val (.long u103), .second, .unset, .unset, .unset] [(.long u51), (.long u33)])) _
    refine XS.lcmp X94.here hx rfl (hb hby at_77) rfl ?_
    show Steps p.tables e below (T94.setTop (mkF m 78 #[.val (.long q0), .second, .val (.long q1), .second, .val (.long (-7046029254386353131 : Int64)), .second, .val (.ref b19), .val (.long (f3 q0)), .second, .val (.long u33), .second, .val (.long u51), .second, .val (.long (f3 q1)), .second, .val (.long u103), .second, .unset, .unset, .unset] [(.int (lcmpW u33 u51))])) _
    exact k
  obtain ⟨v109, pre110, hv109⟩ : ∃ (v109 : Int32), (∀ t, Steps p.tables e below (T94.setTop (mkF m 86 #[.val (.long q0), .second, .val (.long q1), .second, .val (.long (-7046029254386353131 : Int64)), .second, .val (.ref b19), .val (.long (f3 q0)), .second, .val (.long u33), .second, .val (.long u51), .second, .val (.long (f3 q1)), .second, .val (.long u103), .second, .unset, .unset, .unset] [(.int v109)])) t → Steps p.tables e below (s₁.setTop (entryFrame m #[(.long q0), (.long q1)] maxLocals)) t) ∧ v109 = (if u33 = u51 then (1 : Int32) else (0 : Int32)) := by
    by_cases hc78_106 : u33 = u51
    · have pre107 : ∀ t, Steps p.tables e below (T94.setTop (mkF m 86 #[.val (.long q0), .second, .val (.long q1), .second, .val (.long (-7046029254386353131 : Int64)), .second, .val (.ref b19), .val (.long (f3 q0)), .second, .val (.long u33), .second, .val (.long u51), .second, .val (.long (f3 q1)), .second, .val (.long u103), .second, .unset, .unset, .unset] [(.int (1 : Int32))])) t → Steps p.tables e below (s₁.setTop (entryFrame m #[(.long q0), (.long q1)] maxLocals)) t := by
        intro t k
        refine pre105 t ?_
        show Steps p.tables e below (T94.setTop (mkF m 78 #[.val (.long q0), .second, .val (.long q1), .second, .val (.long (-7046029254386353131 : Int64)), .second, .val (.ref b19), .val (.long (f3 q0)), .second, .val (.long u33), .second, .val (.long u51), .second, .val (.long (f3 q1)), .second, .val (.long u103), .second, .unset, .unset, .unset] [(.int (lcmpW u33 u51))])) _
        refine XS.ifNo X94.here hx rfl (hb hby at_78) rfl ((if0 _ _).trans (teq (own_eqL hc78_106)).2) ?_
        show Steps p.tables e below (T94.setTop (mkF m 81 #[.val (.long q0), .second, .val (.long q1), .second, .val (.long (-7046029254386353131 : Int64)), .second, .val (.ref b19), .val (.long (f3 q0)), .second, .val (.long u33), .second, .val (.long u51), .second, .val (.long (f3 q1)), .second, .val (.long u103), .second, .unset, .unset, .unset] [])) _
        refine XS.iconst X94.here hx rfl (hb hby at_81) ?_
        show Steps p.tables e below (T94.setTop (mkF m 82 #[.val (.long q0), .second, .val (.long q1), .second, .val (.long (-7046029254386353131 : Int64)), .second, .val (.ref b19), .val (.long (f3 q0)), .second, .val (.long u33), .second, .val (.long u51), .second, .val (.long (f3 q1)), .second, .val (.long u103), .second, .unset, .unset, .unset] [(.int (1 : Int32))])) _
        refine XS.goto X94.here hx rfl (pc0 := 82) (pc' := 86) rfl (hb hby at_82) (by decide) (by decide) ?_
        show Steps p.tables e below (T94.setTop (mkF m 86 #[.val (.long q0), .second, .val (.long q1), .second, .val (.long (-7046029254386353131 : Int64)), .second, .val (.ref b19), .val (.long (f3 q0)), .second, .val (.long u33), .second, .val (.long u51), .second, .val (.long (f3 q1)), .second, .val (.long u103), .second, .unset, .unset, .unset] [(.int (1 : Int32))])) _
        exact k
      exact ⟨(1 : Int32), pre107, by rw [if_pos hc78_106]⟩
    · have pre108 : ∀ t, Steps p.tables e below (T94.setTop (mkF m 86 #[.val (.long q0), .second, .val (.long q1), .second, .val (.long (-7046029254386353131 : Int64)), .second, .val (.ref b19), .val (.long (f3 q0)), .second, .val (.long u33), .second, .val (.long u51), .second, .val (.long (f3 q1)), .second, .val (.long u103), .second, .unset, .unset, .unset] [(.int (0 : Int32))])) t → Steps p.tables e below (s₁.setTop (entryFrame m #[(.long q0), (.long q1)] maxLocals)) t := by
        intro t k
        refine pre105 t ?_
        show Steps p.tables e below (T94.setTop (mkF m 78 #[.val (.long q0), .second, .val (.long q1), .second, .val (.long (-7046029254386353131 : Int64)), .second, .val (.ref b19), .val (.long (f3 q0)), .second, .val (.long u33), .second, .val (.long u51), .second, .val (.long (f3 q1)), .second, .val (.long u103), .second, .unset, .unset, .unset] [(.int (lcmpW u33 u51))])) _
        refine XS.ifYes X94.here hx rfl (pc0 := 78) (pc' := 85) rfl (hb hby at_78) rfl ((if0 _ _).trans (feq (own_neL hc78_106)).2) (by decide) (by decide) ?_
        show Steps p.tables e below (T94.setTop (mkF m 85 #[.val (.long q0), .second, .val (.long q1), .second, .val (.long (-7046029254386353131 : Int64)), .second, .val (.ref b19), .val (.long (f3 q0)), .second, .val (.long u33), .second, .val (.long u51), .second, .val (.long (f3 q1)), .second, .val (.long u103), .second, .unset, .unset, .unset] [])) _
        refine XS.iconst X94.here hx rfl (hb hby at_85) ?_
        show Steps p.tables e below (T94.setTop (mkF m 86 #[.val (.long q0), .second, .val (.long q1), .second, .val (.long (-7046029254386353131 : Int64)), .second, .val (.ref b19), .val (.long (f3 q0)), .second, .val (.long u33), .second, .val (.long u51), .second, .val (.long (f3 q1)), .second, .val (.long u103), .second, .unset, .unset, .unset] [(.int (0 : Int32))])) _
        exact k
      exact ⟨(0 : Int32), pre108, by rw [if_neg hc78_106]⟩
  have pre111 : ∀ t, Steps p.tables e below (T94.setTop (mkF m 93 #[.val (.long q0), .second, .val (.long q1), .second, .val (.long (-7046029254386353131 : Int64)), .second, .val (.ref b19), .val (.long (f3 q0)), .second, .val (.long u33), .second, .val (.long u51), .second, .val (.long (f3 q1)), .second, .val (.long u103), .second, .val (.int v109), .unset, .unset] [(.int (lcmpW (f3 q1) (f3 q0)))])) t → Steps p.tables e below (s₁.setTop (entryFrame m #[(.long q0), (.long q1)] maxLocals)) t := by
    intro t k
    refine pre110 t ?_
    show Steps p.tables e below (T94.setTop (mkF m 86 #[.val (.long q0), .second, .val (.long q1), .second, .val (.long (-7046029254386353131 : Int64)), .second, .val (.ref b19), .val (.long (f3 q0)), .second, .val (.long u33), .second, .val (.long u51), .second, .val (.long (f3 q1)), .second, .val (.long u103), .second, .unset, .unset, .unset] [(.int v109)])) _
    refine XS.istore X94.here hx rfl (hb hby at_86) rfl (l' := #[.val (.long q0), .second, .val (.long q1), .second, .val (.long (-7046029254386353131 : Int64)), .second, .val (.ref b19), .val (.long (f3 q0)), .second, .val (.long u33), .second, .val (.long u51), .second, .val (.long (f3 q1)), .second, .val (.long u103), .second, .val (.int v109), .unset, .unset]) rfl ?_
    show Steps p.tables e below (T94.setTop (mkF m 88 #[.val (.long q0), .second, .val (.long q1), .second, .val (.long (-7046029254386353131 : Int64)), .second, .val (.ref b19), .val (.long (f3 q0)), .second, .val (.long u33), .second, .val (.long u51), .second, .val (.long (f3 q1)), .second, .val (.long u103), .second, .val (.int v109), .unset, .unset] [])) _
    refine XS.lload X94.here hx rfl (hb hby at_88) rfl ?_
    show Steps p.tables e below (T94.setTop (mkF m 90 #[.val (.long q0), .second, .val (.long q1), .second, .val (.long (-7046029254386353131 : Int64)), .second, .val (.ref b19), .val (.long (f3 q0)), .second, .val (.long u33), .second, .val (.long u51), .second, .val (.long (f3 q1)), .second, .val (.long u103), .second, .val (.int v109), .unset, .unset] [(.long (f3 q1))])) _
    refine XS.lload X94.here hx rfl (hb hby at_90) rfl ?_
    show Steps p.tables e below (T94.setTop (mkF m 92 #[.val (.long q0), .second, .val (.long q1), .second, .val (.long (-7046029254386353131 : Int64)), .second, .val (.ref b19), .val (.long (f3 q0)), .second, .val (.long u33), .second, .val (.long u51), .second, .val (.long (f3 q1)), .second, .val (.long u103), .second, .val (.int v109), .unset, .unset] [(.long (f3 q0)), (.long (f3 q1))])) _
    refine XS.lcmp X94.here hx rfl (hb hby at_92) rfl ?_
    show Steps p.tables e below (T94.setTop (mkF m 93 #[.val (.long q0), .second, .val (.long q1), .second, .val (.long (-7046029254386353131 : Int64)), .second, .val (.ref b19), .val (.long (f3 q0)), .second, .val (.long u33), .second, .val (.long u51), .second, .val (.long (f3 q1)), .second, .val (.long u103), .second, .val (.int v109), .unset, .unset] [(.int (lcmpW (f3 q1) (f3 q0)))])) _
    exact k
  obtain ⟨v115, pre116, hv115⟩ : ∃ (v115 : Int32), (∀ t, Steps p.tables e below (T94.setTop (mkF m 101 #[.val (.long q0), .second, .val (.long q1), .second, .val (.long (-7046029254386353131 : Int64)), .second, .val (.ref b19), .val (.long (f3 q0)), .second, .val (.long u33), .second, .val (.long u51), .second, .val (.long (f3 q1)), .second, .val (.long u103), .second, .val (.int v109), .unset, .unset] [(.int v115)])) t → Steps p.tables e below (s₁.setTop (entryFrame m #[(.long q0), (.long q1)] maxLocals)) t) ∧ v115 = (if (f3 q1) = (f3 q0) then (1 : Int32) else (0 : Int32)) := by
    by_cases hc93_112 : (f3 q1) = (f3 q0)
    · have pre113 : ∀ t, Steps p.tables e below (T94.setTop (mkF m 101 #[.val (.long q0), .second, .val (.long q1), .second, .val (.long (-7046029254386353131 : Int64)), .second, .val (.ref b19), .val (.long (f3 q0)), .second, .val (.long u33), .second, .val (.long u51), .second, .val (.long (f3 q1)), .second, .val (.long u103), .second, .val (.int v109), .unset, .unset] [(.int (1 : Int32))])) t → Steps p.tables e below (s₁.setTop (entryFrame m #[(.long q0), (.long q1)] maxLocals)) t := by
        intro t k
        refine pre111 t ?_
        show Steps p.tables e below (T94.setTop (mkF m 93 #[.val (.long q0), .second, .val (.long q1), .second, .val (.long (-7046029254386353131 : Int64)), .second, .val (.ref b19), .val (.long (f3 q0)), .second, .val (.long u33), .second, .val (.long u51), .second, .val (.long (f3 q1)), .second, .val (.long u103), .second, .val (.int v109), .unset, .unset] [(.int (lcmpW (f3 q1) (f3 q0)))])) _
        refine XS.ifNo X94.here hx rfl (hb hby at_93) rfl ((if0 _ _).trans (teq (own_eqL hc93_112)).2) ?_
        show Steps p.tables e below (T94.setTop (mkF m 96 #[.val (.long q0), .second, .val (.long q1), .second, .val (.long (-7046029254386353131 : Int64)), .second, .val (.ref b19), .val (.long (f3 q0)), .second, .val (.long u33), .second, .val (.long u51), .second, .val (.long (f3 q1)), .second, .val (.long u103), .second, .val (.int v109), .unset, .unset] [])) _
        refine XS.iconst X94.here hx rfl (hb hby at_96) ?_
        show Steps p.tables e below (T94.setTop (mkF m 97 #[.val (.long q0), .second, .val (.long q1), .second, .val (.long (-7046029254386353131 : Int64)), .second, .val (.ref b19), .val (.long (f3 q0)), .second, .val (.long u33), .second, .val (.long u51), .second, .val (.long (f3 q1)), .second, .val (.long u103), .second, .val (.int v109), .unset, .unset] [(.int (1 : Int32))])) _
        refine XS.goto X94.here hx rfl (pc0 := 97) (pc' := 101) rfl (hb hby at_97) (by decide) (by decide) ?_
        show Steps p.tables e below (T94.setTop (mkF m 101 #[.val (.long q0), .second, .val (.long q1), .second, .val (.long (-7046029254386353131 : Int64)), .second, .val (.ref b19), .val (.long (f3 q0)), .second, .val (.long u33), .second, .val (.long u51), .second, .val (.long (f3 q1)), .second, .val (.long u103), .second, .val (.int v109), .unset, .unset] [(.int (1 : Int32))])) _
        exact k
      exact ⟨(1 : Int32), pre113, by rw [if_pos hc93_112]⟩
    · have pre114 : ∀ t, Steps p.tables e below (T94.setTop (mkF m 101 #[.val (.long q0), .second, .val (.long q1), .second, .val (.long (-7046029254386353131 : Int64)), .second, .val (.ref b19), .val (.long (f3 q0)), .second, .val (.long u33), .second, .val (.long u51), .second, .val (.long (f3 q1)), .second, .val (.long u103), .second, .val (.int v109), .unset, .unset] [(.int (0 : Int32))])) t → Steps p.tables e below (s₁.setTop (entryFrame m #[(.long q0), (.long q1)] maxLocals)) t := by
        intro t k
        refine pre111 t ?_
        show Steps p.tables e below (T94.setTop (mkF m 93 #[.val (.long q0), .second, .val (.long q1), .second, .val (.long (-7046029254386353131 : Int64)), .second, .val (.ref b19), .val (.long (f3 q0)), .second, .val (.long u33), .second, .val (.long u51), .second, .val (.long (f3 q1)), .second, .val (.long u103), .second, .val (.int v109), .unset, .unset] [(.int (lcmpW (f3 q1) (f3 q0)))])) _
        refine XS.ifYes X94.here hx rfl (pc0 := 93) (pc' := 100) rfl (hb hby at_93) rfl ((if0 _ _).trans (feq (own_neL hc93_112)).2) (by decide) (by decide) ?_
        show Steps p.tables e below (T94.setTop (mkF m 100 #[.val (.long q0), .second, .val (.long q1), .second, .val (.long (-7046029254386353131 : Int64)), .second, .val (.ref b19), .val (.long (f3 q0)), .second, .val (.long u33), .second, .val (.long u51), .second, .val (.long (f3 q1)), .second, .val (.long u103), .second, .val (.int v109), .unset, .unset] [])) _
        refine XS.iconst X94.here hx rfl (hb hby at_100) ?_
        show Steps p.tables e below (T94.setTop (mkF m 101 #[.val (.long q0), .second, .val (.long q1), .second, .val (.long (-7046029254386353131 : Int64)), .second, .val (.ref b19), .val (.long (f3 q0)), .second, .val (.long u33), .second, .val (.long u51), .second, .val (.long (f3 q1)), .second, .val (.long u103), .second, .val (.int v109), .unset, .unset] [(.int (0 : Int32))])) _
        exact k
      exact ⟨(0 : Int32), pre114, by rw [if_neg hc93_112]⟩
  have pre117 : ∀ t, Steps p.tables e below (T94.setTop (mkF m 104 #[.val (.long q0), .second, .val (.long q1), .second, .val (.long (-7046029254386353131 : Int64)), .second, .val (.ref b19), .val (.long (f3 q0)), .second, .val (.long u33), .second, .val (.long u51), .second, .val (.long (f3 q1)), .second, .val (.long u103), .second, .val (.int v109), .unset, .unset] [(.int (lcmpW q1 q0)), (.int v115)])) t → Steps p.tables e below (s₁.setTop (entryFrame m #[(.long q0), (.long q1)] maxLocals)) t := by
    intro t k
    refine pre116 t ?_
    show Steps p.tables e below (T94.setTop (mkF m 101 #[.val (.long q0), .second, .val (.long q1), .second, .val (.long (-7046029254386353131 : Int64)), .second, .val (.ref b19), .val (.long (f3 q0)), .second, .val (.long u33), .second, .val (.long u51), .second, .val (.long (f3 q1)), .second, .val (.long u103), .second, .val (.int v109), .unset, .unset] [(.int v115)])) _
    refine XS.lloadN X94.here hx rfl (hb hby at_101) rfl ?_
    show Steps p.tables e below (T94.setTop (mkF m 102 #[.val (.long q0), .second, .val (.long q1), .second, .val (.long (-7046029254386353131 : Int64)), .second, .val (.ref b19), .val (.long (f3 q0)), .second, .val (.long u33), .second, .val (.long u51), .second, .val (.long (f3 q1)), .second, .val (.long u103), .second, .val (.int v109), .unset, .unset] [(.long q1), (.int v115)])) _
    refine XS.lloadN X94.here hx rfl (hb hby at_102) rfl ?_
    show Steps p.tables e below (T94.setTop (mkF m 103 #[.val (.long q0), .second, .val (.long q1), .second, .val (.long (-7046029254386353131 : Int64)), .second, .val (.ref b19), .val (.long (f3 q0)), .second, .val (.long u33), .second, .val (.long u51), .second, .val (.long (f3 q1)), .second, .val (.long u103), .second, .val (.int v109), .unset, .unset] [(.long q0), (.long q1), (.int v115)])) _
    refine XS.lcmp X94.here hx rfl (hb hby at_103) rfl ?_
    show Steps p.tables e below (T94.setTop (mkF m 104 #[.val (.long q0), .second, .val (.long q1), .second, .val (.long (-7046029254386353131 : Int64)), .second, .val (.ref b19), .val (.long (f3 q0)), .second, .val (.long u33), .second, .val (.long u51), .second, .val (.long (f3 q1)), .second, .val (.long u103), .second, .val (.int v109), .unset, .unset] [(.int (lcmpW q1 q0)), (.int v115)])) _
    exact k
  obtain ⟨v121, pre122, hv121⟩ : ∃ (v121 : Int32), (∀ t, Steps p.tables e below (T94.setTop (mkF m 112 #[.val (.long q0), .second, .val (.long q1), .second, .val (.long (-7046029254386353131 : Int64)), .second, .val (.ref b19), .val (.long (f3 q0)), .second, .val (.long u33), .second, .val (.long u51), .second, .val (.long (f3 q1)), .second, .val (.long u103), .second, .val (.int v109), .unset, .unset] [(.int v121), (.int v115)])) t → Steps p.tables e below (s₁.setTop (entryFrame m #[(.long q0), (.long q1)] maxLocals)) t) ∧ v121 = (if q1 = q0 then (1 : Int32) else (0 : Int32)) := by
    by_cases hc104_118 : q1 = q0
    · have pre119 : ∀ t, Steps p.tables e below (T94.setTop (mkF m 112 #[.val (.long q0), .second, .val (.long q1), .second, .val (.long (-7046029254386353131 : Int64)), .second, .val (.ref b19), .val (.long (f3 q0)), .second, .val (.long u33), .second, .val (.long u51), .second, .val (.long (f3 q1)), .second, .val (.long u103), .second, .val (.int v109), .unset, .unset] [(.int (1 : Int32)), (.int v115)])) t → Steps p.tables e below (s₁.setTop (entryFrame m #[(.long q0), (.long q1)] maxLocals)) t := by
        intro t k
        refine pre117 t ?_
        show Steps p.tables e below (T94.setTop (mkF m 104 #[.val (.long q0), .second, .val (.long q1), .second, .val (.long (-7046029254386353131 : Int64)), .second, .val (.ref b19), .val (.long (f3 q0)), .second, .val (.long u33), .second, .val (.long u51), .second, .val (.long (f3 q1)), .second, .val (.long u103), .second, .val (.int v109), .unset, .unset] [(.int (lcmpW q1 q0)), (.int v115)])) _
        refine XS.ifNo X94.here hx rfl (hb hby at_104) rfl ((if0 _ _).trans (teq (own_eqL hc104_118)).2) ?_
        show Steps p.tables e below (T94.setTop (mkF m 107 #[.val (.long q0), .second, .val (.long q1), .second, .val (.long (-7046029254386353131 : Int64)), .second, .val (.ref b19), .val (.long (f3 q0)), .second, .val (.long u33), .second, .val (.long u51), .second, .val (.long (f3 q1)), .second, .val (.long u103), .second, .val (.int v109), .unset, .unset] [(.int v115)])) _
        refine XS.iconst X94.here hx rfl (hb hby at_107) ?_
        show Steps p.tables e below (T94.setTop (mkF m 108 #[.val (.long q0), .second, .val (.long q1), .second, .val (.long (-7046029254386353131 : Int64)), .second, .val (.ref b19), .val (.long (f3 q0)), .second, .val (.long u33), .second, .val (.long u51), .second, .val (.long (f3 q1)), .second, .val (.long u103), .second, .val (.int v109), .unset, .unset] [(.int (1 : Int32)), (.int v115)])) _
        refine XS.goto X94.here hx rfl (pc0 := 108) (pc' := 112) rfl (hb hby at_108) (by decide) (by decide) ?_
        show Steps p.tables e below (T94.setTop (mkF m 112 #[.val (.long q0), .second, .val (.long q1), .second, .val (.long (-7046029254386353131 : Int64)), .second, .val (.ref b19), .val (.long (f3 q0)), .second, .val (.long u33), .second, .val (.long u51), .second, .val (.long (f3 q1)), .second, .val (.long u103), .second, .val (.int v109), .unset, .unset] [(.int (1 : Int32)), (.int v115)])) _
        exact k
      exact ⟨(1 : Int32), pre119, by rw [if_pos hc104_118]⟩
    · have pre120 : ∀ t, Steps p.tables e below (T94.setTop (mkF m 112 #[.val (.long q0), .second, .val (.long q1), .second, .val (.long (-7046029254386353131 : Int64)), .second, .val (.ref b19), .val (.long (f3 q0)), .second, .val (.long u33), .second, .val (.long u51), .second, .val (.long (f3 q1)), .second, .val (.long u103), .second, .val (.int v109), .unset, .unset] [(.int (0 : Int32)), (.int v115)])) t → Steps p.tables e below (s₁.setTop (entryFrame m #[(.long q0), (.long q1)] maxLocals)) t := by
        intro t k
        refine pre117 t ?_
        show Steps p.tables e below (T94.setTop (mkF m 104 #[.val (.long q0), .second, .val (.long q1), .second, .val (.long (-7046029254386353131 : Int64)), .second, .val (.ref b19), .val (.long (f3 q0)), .second, .val (.long u33), .second, .val (.long u51), .second, .val (.long (f3 q1)), .second, .val (.long u103), .second, .val (.int v109), .unset, .unset] [(.int (lcmpW q1 q0)), (.int v115)])) _
        refine XS.ifYes X94.here hx rfl (pc0 := 104) (pc' := 111) rfl (hb hby at_104) rfl ((if0 _ _).trans (feq (own_neL hc104_118)).2) (by decide) (by decide) ?_
        show Steps p.tables e below (T94.setTop (mkF m 111 #[.val (.long q0), .second, .val (.long q1), .second, .val (.long (-7046029254386353131 : Int64)), .second, .val (.ref b19), .val (.long (f3 q0)), .second, .val (.long u33), .second, .val (.long u51), .second, .val (.long (f3 q1)), .second, .val (.long u103), .second, .val (.int v109), .unset, .unset] [(.int v115)])) _
        refine XS.iconst X94.here hx rfl (hb hby at_111) ?_
        show Steps p.tables e below (T94.setTop (mkF m 112 #[.val (.long q0), .second, .val (.long q1), .second, .val (.long (-7046029254386353131 : Int64)), .second, .val (.ref b19), .val (.long (f3 q0)), .second, .val (.long u33), .second, .val (.long u51), .second, .val (.long (f3 q1)), .second, .val (.long u103), .second, .val (.int v109), .unset, .unset] [(.int (0 : Int32)), (.int v115)])) _
        exact k
      exact ⟨(0 : Int32), pre120, by rw [if_neg hc104_118]⟩
  obtain ⟨v126, pre127, hv126⟩ : ∃ (v126 : Int32), (∀ t, Steps p.tables e below (T94.setTop (mkF m 120 #[.val (.long q0), .second, .val (.long q1), .second, .val (.long (-7046029254386353131 : Int64)), .second, .val (.ref b19), .val (.long (f3 q0)), .second, .val (.long u33), .second, .val (.long u51), .second, .val (.long (f3 q1)), .second, .val (.long u103), .second, .val (.int v109), .unset, .unset] [(.int v126)])) t → Steps p.tables e below (s₁.setTop (entryFrame m #[(.long q0), (.long q1)] maxLocals)) t) ∧ v126 = (if v115 = v121 then (1 : Int32) else (0 : Int32)) := by
    by_cases hc112_123 : v115 = v121
    · have pre124 : ∀ t, Steps p.tables e below (T94.setTop (mkF m 120 #[.val (.long q0), .second, .val (.long q1), .second, .val (.long (-7046029254386353131 : Int64)), .second, .val (.ref b19), .val (.long (f3 q0)), .second, .val (.long u33), .second, .val (.long u51), .second, .val (.long (f3 q1)), .second, .val (.long u103), .second, .val (.int v109), .unset, .unset] [(.int (1 : Int32))])) t → Steps p.tables e below (s₁.setTop (entryFrame m #[(.long q0), (.long q1)] maxLocals)) t := by
        intro t k
        refine pre122 t ?_
        show Steps p.tables e below (T94.setTop (mkF m 112 #[.val (.long q0), .second, .val (.long q1), .second, .val (.long (-7046029254386353131 : Int64)), .second, .val (.ref b19), .val (.long (f3 q0)), .second, .val (.long u33), .second, .val (.long u51), .second, .val (.long (f3 q1)), .second, .val (.long u103), .second, .val (.int v109), .unset, .unset] [(.int v121), (.int v115)])) _
        refine XS.icmpNo X94.here hx rfl (hb hby at_112) rfl (teq hc112_123).2 ?_
        show Steps p.tables e below (T94.setTop (mkF m 115 #[.val (.long q0), .second, .val (.long q1), .second, .val (.long (-7046029254386353131 : Int64)), .second, .val (.ref b19), .val (.long (f3 q0)), .second, .val (.long u33), .second, .val (.long u51), .second, .val (.long (f3 q1)), .second, .val (.long u103), .second, .val (.int v109), .unset, .unset] [])) _
        refine XS.iconst X94.here hx rfl (hb hby at_115) ?_
        show Steps p.tables e below (T94.setTop (mkF m 116 #[.val (.long q0), .second, .val (.long q1), .second, .val (.long (-7046029254386353131 : Int64)), .second, .val (.ref b19), .val (.long (f3 q0)), .second, .val (.long u33), .second, .val (.long u51), .second, .val (.long (f3 q1)), .second, .val (.long u103), .second, .val (.int v109), .unset, .unset] [(.int (1 : Int32))])) _
        refine XS.goto X94.here hx rfl (pc0 := 116) (pc' := 120) rfl (hb hby at_116) (by decide) (by decide) ?_
        show Steps p.tables e below (T94.setTop (mkF m 120 #[.val (.long q0), .second, .val (.long q1), .second, .val (.long (-7046029254386353131 : Int64)), .second, .val (.ref b19), .val (.long (f3 q0)), .second, .val (.long u33), .second, .val (.long u51), .second, .val (.long (f3 q1)), .second, .val (.long u103), .second, .val (.int v109), .unset, .unset] [(.int (1 : Int32))])) _
        exact k
      exact ⟨(1 : Int32), pre124, by rw [if_pos hc112_123]⟩
    · have pre125 : ∀ t, Steps p.tables e below (T94.setTop (mkF m 120 #[.val (.long q0), .second, .val (.long q1), .second, .val (.long (-7046029254386353131 : Int64)), .second, .val (.ref b19), .val (.long (f3 q0)), .second, .val (.long u33), .second, .val (.long u51), .second, .val (.long (f3 q1)), .second, .val (.long u103), .second, .val (.int v109), .unset, .unset] [(.int (0 : Int32))])) t → Steps p.tables e below (s₁.setTop (entryFrame m #[(.long q0), (.long q1)] maxLocals)) t := by
        intro t k
        refine pre122 t ?_
        show Steps p.tables e below (T94.setTop (mkF m 112 #[.val (.long q0), .second, .val (.long q1), .second, .val (.long (-7046029254386353131 : Int64)), .second, .val (.ref b19), .val (.long (f3 q0)), .second, .val (.long u33), .second, .val (.long u51), .second, .val (.long (f3 q1)), .second, .val (.long u103), .second, .val (.int v109), .unset, .unset] [(.int v121), (.int v115)])) _
        refine XS.icmpYes X94.here hx rfl (pc0 := 112) (pc' := 119) rfl (hb hby at_112) rfl (feq hc112_123).2 (by decide) (by decide) ?_
        show Steps p.tables e below (T94.setTop (mkF m 119 #[.val (.long q0), .second, .val (.long q1), .second, .val (.long (-7046029254386353131 : Int64)), .second, .val (.ref b19), .val (.long (f3 q0)), .second, .val (.long u33), .second, .val (.long u51), .second, .val (.long (f3 q1)), .second, .val (.long u103), .second, .val (.int v109), .unset, .unset] [])) _
        refine XS.iconst X94.here hx rfl (hb hby at_119) ?_
        show Steps p.tables e below (T94.setTop (mkF m 120 #[.val (.long q0), .second, .val (.long q1), .second, .val (.long (-7046029254386353131 : Int64)), .second, .val (.ref b19), .val (.long (f3 q0)), .second, .val (.long u33), .second, .val (.long u51), .second, .val (.long (f3 q1)), .second, .val (.long u103), .second, .val (.int v109), .unset, .unset] [(.int (0 : Int32))])) _
        exact k
      exact ⟨(0 : Int32), pre125, by rw [if_neg hc112_123]⟩
  have pre128 : ∀ t, Steps p.tables e below (T94.setTop (mkF m 128 #[.val (.long q0), .second, .val (.long q1), .second, .val (.long (-7046029254386353131 : Int64)), .second, .val (.ref b19), .val (.long (f3 q0)), .second, .val (.long u33), .second, .val (.long u51), .second, .val (.long (f3 q1)), .second, .val (.long u103), .second, .val (.int v109), .val (.int v126), .unset] [(.int (lcmpW u103 (6457827717110365317 : Int64)))])) t → Steps p.tables e below (s₁.setTop (entryFrame m #[(.long q0), (.long q1)] maxLocals)) t := by
    intro t k
    refine pre127 t ?_
    show Steps p.tables e below (T94.setTop (mkF m 120 #[.val (.long q0), .second, .val (.long q1), .second, .val (.long (-7046029254386353131 : Int64)), .second, .val (.ref b19), .val (.long (f3 q0)), .second, .val (.long u33), .second, .val (.long u51), .second, .val (.long (f3 q1)), .second, .val (.long u103), .second, .val (.int v109), .unset, .unset] [(.int v126)])) _
    refine XS.istore X94.here hx rfl (hb hby at_120) rfl (l' := #[.val (.long q0), .second, .val (.long q1), .second, .val (.long (-7046029254386353131 : Int64)), .second, .val (.ref b19), .val (.long (f3 q0)), .second, .val (.long u33), .second, .val (.long u51), .second, .val (.long (f3 q1)), .second, .val (.long u103), .second, .val (.int v109), .val (.int v126), .unset]) rfl ?_
    show Steps p.tables e below (T94.setTop (mkF m 122 #[.val (.long q0), .second, .val (.long q1), .second, .val (.long (-7046029254386353131 : Int64)), .second, .val (.ref b19), .val (.long (f3 q0)), .second, .val (.long u33), .second, .val (.long u51), .second, .val (.long (f3 q1)), .second, .val (.long u103), .second, .val (.int v109), .val (.int v126), .unset] [])) _
    refine XS.lload X94.here hx rfl (hb hby at_122) rfl ?_
    show Steps p.tables e below (T94.setTop (mkF m 124 #[.val (.long q0), .second, .val (.long q1), .second, .val (.long (-7046029254386353131 : Int64)), .second, .val (.ref b19), .val (.long (f3 q0)), .second, .val (.long u33), .second, .val (.long u51), .second, .val (.long (f3 q1)), .second, .val (.long u103), .second, .val (.int v109), .val (.int v126), .unset] [(.long u103)])) _
    refine X94.ldc2Long hx hown (mvT hZ (hw _ (List.mem_of_getElem? (i := 21) rfl))) (g := (mkF m 124 #[.val (.long q0), .second, .val (.long q1), .second, .val (.long (-7046029254386353131 : Int64)), .second, .val (.ref b19), .val (.long (f3 q0)), .second, .val (.long u33), .second, .val (.long u51), .second, .val (.long (f3 q1)), .second, .val (.long u103), .second, .val (.int v109), .val (.int v126), .unset] [(.long u103)])) rfl (hb hby at_124) _ ?_
    show Steps p.tables e below (T94.setTop (mkF m 127 #[.val (.long q0), .second, .val (.long q1), .second, .val (.long (-7046029254386353131 : Int64)), .second, .val (.ref b19), .val (.long (f3 q0)), .second, .val (.long u33), .second, .val (.long u51), .second, .val (.long (f3 q1)), .second, .val (.long u103), .second, .val (.int v109), .val (.int v126), .unset] [(.long (6457827717110365317 : Int64)), (.long u103)])) _
    refine XS.lcmp X94.here hx rfl (hb hby at_127) rfl ?_
    show Steps p.tables e below (T94.setTop (mkF m 128 #[.val (.long q0), .second, .val (.long q1), .second, .val (.long (-7046029254386353131 : Int64)), .second, .val (.ref b19), .val (.long (f3 q0)), .second, .val (.long u33), .second, .val (.long u51), .second, .val (.long (f3 q1)), .second, .val (.long u103), .second, .val (.int v109), .val (.int v126), .unset] [(.int (lcmpW u103 (6457827717110365317 : Int64)))])) _
    exact k
  obtain ⟨v132, pre133, hv132⟩ : ∃ (v132 : Int32), (∀ t, Steps p.tables e below (T94.setTop (mkF m 136 #[.val (.long q0), .second, .val (.long q1), .second, .val (.long (-7046029254386353131 : Int64)), .second, .val (.ref b19), .val (.long (f3 q0)), .second, .val (.long u33), .second, .val (.long u51), .second, .val (.long (f3 q1)), .second, .val (.long u103), .second, .val (.int v109), .val (.int v126), .unset] [(.int v132)])) t → Steps p.tables e below (s₁.setTop (entryFrame m #[(.long q0), (.long q1)] maxLocals)) t) ∧ v132 = (if u103 = (6457827717110365317 : Int64) then (1 : Int32) else (0 : Int32)) := by
    by_cases hc128_129 : u103 = (6457827717110365317 : Int64)
    · have pre130 : ∀ t, Steps p.tables e below (T94.setTop (mkF m 136 #[.val (.long q0), .second, .val (.long q1), .second, .val (.long (-7046029254386353131 : Int64)), .second, .val (.ref b19), .val (.long (f3 q0)), .second, .val (.long u33), .second, .val (.long u51), .second, .val (.long (f3 q1)), .second, .val (.long u103), .second, .val (.int v109), .val (.int v126), .unset] [(.int (1 : Int32))])) t → Steps p.tables e below (s₁.setTop (entryFrame m #[(.long q0), (.long q1)] maxLocals)) t := by
        intro t k
        refine pre128 t ?_
        show Steps p.tables e below (T94.setTop (mkF m 128 #[.val (.long q0), .second, .val (.long q1), .second, .val (.long (-7046029254386353131 : Int64)), .second, .val (.ref b19), .val (.long (f3 q0)), .second, .val (.long u33), .second, .val (.long u51), .second, .val (.long (f3 q1)), .second, .val (.long u103), .second, .val (.int v109), .val (.int v126), .unset] [(.int (lcmpW u103 (6457827717110365317 : Int64)))])) _
        refine XS.ifNo X94.here hx rfl (hb hby at_128) rfl ((if0 _ _).trans (teq (own_eqL hc128_129)).2) ?_
        show Steps p.tables e below (T94.setTop (mkF m 131 #[.val (.long q0), .second, .val (.long q1), .second, .val (.long (-7046029254386353131 : Int64)), .second, .val (.ref b19), .val (.long (f3 q0)), .second, .val (.long u33), .second, .val (.long u51), .second, .val (.long (f3 q1)), .second, .val (.long u103), .second, .val (.int v109), .val (.int v126), .unset] [])) _
        refine XS.iconst X94.here hx rfl (hb hby at_131) ?_
        show Steps p.tables e below (T94.setTop (mkF m 132 #[.val (.long q0), .second, .val (.long q1), .second, .val (.long (-7046029254386353131 : Int64)), .second, .val (.ref b19), .val (.long (f3 q0)), .second, .val (.long u33), .second, .val (.long u51), .second, .val (.long (f3 q1)), .second, .val (.long u103), .second, .val (.int v109), .val (.int v126), .unset] [(.int (1 : Int32))])) _
        refine XS.goto X94.here hx rfl (pc0 := 132) (pc' := 136) rfl (hb hby at_132) (by decide) (by decide) ?_
        show Steps p.tables e below (T94.setTop (mkF m 136 #[.val (.long q0), .second, .val (.long q1), .second, .val (.long (-7046029254386353131 : Int64)), .second, .val (.ref b19), .val (.long (f3 q0)), .second, .val (.long u33), .second, .val (.long u51), .second, .val (.long (f3 q1)), .second, .val (.long u103), .second, .val (.int v109), .val (.int v126), .unset] [(.int (1 : Int32))])) _
        exact k
      exact ⟨(1 : Int32), pre130, by rw [if_pos hc128_129]⟩
    · have pre131 : ∀ t, Steps p.tables e below (T94.setTop (mkF m 136 #[.val (.long q0), .second, .val (.long q1), .second, .val (.long (-7046029254386353131 : Int64)), .second, .val (.ref b19), .val (.long (f3 q0)), .second, .val (.long u33), .second, .val (.long u51), .second, .val (.long (f3 q1)), .second, .val (.long u103), .second, .val (.int v109), .val (.int v126), .unset] [(.int (0 : Int32))])) t → Steps p.tables e below (s₁.setTop (entryFrame m #[(.long q0), (.long q1)] maxLocals)) t := by
        intro t k
        refine pre128 t ?_
        show Steps p.tables e below (T94.setTop (mkF m 128 #[.val (.long q0), .second, .val (.long q1), .second, .val (.long (-7046029254386353131 : Int64)), .second, .val (.ref b19), .val (.long (f3 q0)), .second, .val (.long u33), .second, .val (.long u51), .second, .val (.long (f3 q1)), .second, .val (.long u103), .second, .val (.int v109), .val (.int v126), .unset] [(.int (lcmpW u103 (6457827717110365317 : Int64)))])) _
        refine XS.ifYes X94.here hx rfl (pc0 := 128) (pc' := 135) rfl (hb hby at_128) rfl ((if0 _ _).trans (feq (own_neL hc128_129)).2) (by decide) (by decide) ?_
        show Steps p.tables e below (T94.setTop (mkF m 135 #[.val (.long q0), .second, .val (.long q1), .second, .val (.long (-7046029254386353131 : Int64)), .second, .val (.ref b19), .val (.long (f3 q0)), .second, .val (.long u33), .second, .val (.long u51), .second, .val (.long (f3 q1)), .second, .val (.long u103), .second, .val (.int v109), .val (.int v126), .unset] [])) _
        refine XS.iconst X94.here hx rfl (hb hby at_135) ?_
        show Steps p.tables e below (T94.setTop (mkF m 136 #[.val (.long q0), .second, .val (.long q1), .second, .val (.long (-7046029254386353131 : Int64)), .second, .val (.ref b19), .val (.long (f3 q0)), .second, .val (.long u33), .second, .val (.long u51), .second, .val (.long (f3 q1)), .second, .val (.long u103), .second, .val (.int v109), .val (.int v126), .unset] [(.int (0 : Int32))])) _
        exact k
      exact ⟨(0 : Int32), pre131, by rw [if_neg hc128_129]⟩
  have pre134 : ∀ t, Steps p.tables e below (T94.setTop (mkF m 140 #[.val (.long q0), .second, .val (.long q1), .second, .val (.long (-7046029254386353131 : Int64)), .second, .val (.ref b19), .val (.long (f3 q0)), .second, .val (.long u33), .second, .val (.long u51), .second, .val (.long (f3 q1)), .second, .val (.long u103), .second, .val (.int v109), .val (.int v126), .val (.int v132)] [(.int v109)])) t → Steps p.tables e below (s₁.setTop (entryFrame m #[(.long q0), (.long q1)] maxLocals)) t := by
    intro t k
    refine pre133 t ?_
    show Steps p.tables e below (T94.setTop (mkF m 136 #[.val (.long q0), .second, .val (.long q1), .second, .val (.long (-7046029254386353131 : Int64)), .second, .val (.ref b19), .val (.long (f3 q0)), .second, .val (.long u33), .second, .val (.long u51), .second, .val (.long (f3 q1)), .second, .val (.long u103), .second, .val (.int v109), .val (.int v126), .unset] [(.int v132)])) _
    refine XS.istore X94.here hx rfl (hb hby at_136) rfl (l' := #[.val (.long q0), .second, .val (.long q1), .second, .val (.long (-7046029254386353131 : Int64)), .second, .val (.ref b19), .val (.long (f3 q0)), .second, .val (.long u33), .second, .val (.long u51), .second, .val (.long (f3 q1)), .second, .val (.long u103), .second, .val (.int v109), .val (.int v126), .val (.int v132)]) rfl ?_
    show Steps p.tables e below (T94.setTop (mkF m 138 #[.val (.long q0), .second, .val (.long q1), .second, .val (.long (-7046029254386353131 : Int64)), .second, .val (.ref b19), .val (.long (f3 q0)), .second, .val (.long u33), .second, .val (.long u51), .second, .val (.long (f3 q1)), .second, .val (.long u103), .second, .val (.int v109), .val (.int v126), .val (.int v132)] [])) _
    refine XS.iload X94.here hx rfl (hb hby at_138) rfl ?_
    show Steps p.tables e below (T94.setTop (mkF m 140 #[.val (.long q0), .second, .val (.long q1), .second, .val (.long (-7046029254386353131 : Int64)), .second, .val (.ref b19), .val (.long (f3 q0)), .second, .val (.long u33), .second, .val (.long u51), .second, .val (.long (f3 q1)), .second, .val (.long u103), .second, .val (.int v109), .val (.int v126), .val (.int v132)] [(.int v109)])) _
    exact k
  by_cases hc140_135 : v109 = (0 : Int32)
  · have pre136 : ∀ t, Steps p.tables e below (T94.setTop (mkF m 158 #[.val (.long q0), .second, .val (.long q1), .second, .val (.long (-7046029254386353131 : Int64)), .second, .val (.ref b19), .val (.long (f3 q0)), .second, .val (.long u33), .second, .val (.long u51), .second, .val (.long (f3 q1)), .second, .val (.long u103), .second, .val (.int v109), .val (.int v126), .val (.int v132)] [(.int (0 : Int32))])) t → Steps p.tables e below (s₁.setTop (entryFrame m #[(.long q0), (.long q1)] maxLocals)) t := by
      intro t k
      refine pre134 t ?_
      show Steps p.tables e below (T94.setTop (mkF m 140 #[.val (.long q0), .second, .val (.long q1), .second, .val (.long (-7046029254386353131 : Int64)), .second, .val (.ref b19), .val (.long (f3 q0)), .second, .val (.long u33), .second, .val (.long u51), .second, .val (.long (f3 q1)), .second, .val (.long u103), .second, .val (.int v109), .val (.int v126), .val (.int v132)] [(.int v109)])) _
      refine XS.ifYes X94.here hx rfl (pc0 := 140) (pc' := 157) rfl (hb hby at_140) rfl ((if0 _ _).trans (teq hc140_135).1) (by decide) (by decide) ?_
      show Steps p.tables e below (T94.setTop (mkF m 157 #[.val (.long q0), .second, .val (.long q1), .second, .val (.long (-7046029254386353131 : Int64)), .second, .val (.ref b19), .val (.long (f3 q0)), .second, .val (.long u33), .second, .val (.long u51), .second, .val (.long (f3 q1)), .second, .val (.long u103), .second, .val (.int v109), .val (.int v126), .val (.int v132)] [])) _
      refine XS.iconst X94.here hx rfl (hb hby at_157) ?_
      show Steps p.tables e below (T94.setTop (mkF m 158 #[.val (.long q0), .second, .val (.long q1), .second, .val (.long (-7046029254386353131 : Int64)), .second, .val (.ref b19), .val (.long (f3 q0)), .second, .val (.long u33), .second, .val (.long u51), .second, .val (.long (f3 q1)), .second, .val (.long u103), .second, .val (.int v109), .val (.int v126), .val (.int v132)] [(.int (0 : Int32))])) _
      exact k
    exact (own_leaf1 hu33 hu51 hu103 hv109 hv115 hv121 hv126 hv132 hc140_135).elim
  · have pre137 : ∀ t, Steps p.tables e below (T94.setTop (mkF m 145 #[.val (.long q0), .second, .val (.long q1), .second, .val (.long (-7046029254386353131 : Int64)), .second, .val (.ref b19), .val (.long (f3 q0)), .second, .val (.long u33), .second, .val (.long u51), .second, .val (.long (f3 q1)), .second, .val (.long u103), .second, .val (.int v109), .val (.int v126), .val (.int v132)] [(.int v126)])) t → Steps p.tables e below (s₁.setTop (entryFrame m #[(.long q0), (.long q1)] maxLocals)) t := by
      intro t k
      refine pre134 t ?_
      show Steps p.tables e below (T94.setTop (mkF m 140 #[.val (.long q0), .second, .val (.long q1), .second, .val (.long (-7046029254386353131 : Int64)), .second, .val (.ref b19), .val (.long (f3 q0)), .second, .val (.long u33), .second, .val (.long u51), .second, .val (.long (f3 q1)), .second, .val (.long u103), .second, .val (.int v109), .val (.int v126), .val (.int v132)] [(.int v109)])) _
      refine XS.ifNo X94.here hx rfl (hb hby at_140) rfl ((if0 _ _).trans (feq hc140_135).1) ?_
      show Steps p.tables e below (T94.setTop (mkF m 143 #[.val (.long q0), .second, .val (.long q1), .second, .val (.long (-7046029254386353131 : Int64)), .second, .val (.ref b19), .val (.long (f3 q0)), .second, .val (.long u33), .second, .val (.long u51), .second, .val (.long (f3 q1)), .second, .val (.long u103), .second, .val (.int v109), .val (.int v126), .val (.int v132)] [])) _
      refine XS.iload X94.here hx rfl (hb hby at_143) rfl ?_
      show Steps p.tables e below (T94.setTop (mkF m 145 #[.val (.long q0), .second, .val (.long q1), .second, .val (.long (-7046029254386353131 : Int64)), .second, .val (.ref b19), .val (.long (f3 q0)), .second, .val (.long u33), .second, .val (.long u51), .second, .val (.long (f3 q1)), .second, .val (.long u103), .second, .val (.int v109), .val (.int v126), .val (.int v132)] [(.int v126)])) _
      exact k
    by_cases hc145_138 : v126 = (0 : Int32)
    · have pre139 : ∀ t, Steps p.tables e below (T94.setTop (mkF m 158 #[.val (.long q0), .second, .val (.long q1), .second, .val (.long (-7046029254386353131 : Int64)), .second, .val (.ref b19), .val (.long (f3 q0)), .second, .val (.long u33), .second, .val (.long u51), .second, .val (.long (f3 q1)), .second, .val (.long u103), .second, .val (.int v109), .val (.int v126), .val (.int v132)] [(.int (0 : Int32))])) t → Steps p.tables e below (s₁.setTop (entryFrame m #[(.long q0), (.long q1)] maxLocals)) t := by
        intro t k
        refine pre137 t ?_
        show Steps p.tables e below (T94.setTop (mkF m 145 #[.val (.long q0), .second, .val (.long q1), .second, .val (.long (-7046029254386353131 : Int64)), .second, .val (.ref b19), .val (.long (f3 q0)), .second, .val (.long u33), .second, .val (.long u51), .second, .val (.long (f3 q1)), .second, .val (.long u103), .second, .val (.int v109), .val (.int v126), .val (.int v132)] [(.int v126)])) _
        refine XS.ifYes X94.here hx rfl (pc0 := 145) (pc' := 157) rfl (hb hby at_145) rfl ((if0 _ _).trans (teq hc145_138).1) (by decide) (by decide) ?_
        show Steps p.tables e below (T94.setTop (mkF m 157 #[.val (.long q0), .second, .val (.long q1), .second, .val (.long (-7046029254386353131 : Int64)), .second, .val (.ref b19), .val (.long (f3 q0)), .second, .val (.long u33), .second, .val (.long u51), .second, .val (.long (f3 q1)), .second, .val (.long u103), .second, .val (.int v109), .val (.int v126), .val (.int v132)] [])) _
        refine XS.iconst X94.here hx rfl (hb hby at_157) ?_
        show Steps p.tables e below (T94.setTop (mkF m 158 #[.val (.long q0), .second, .val (.long q1), .second, .val (.long (-7046029254386353131 : Int64)), .second, .val (.ref b19), .val (.long (f3 q0)), .second, .val (.long u33), .second, .val (.long u51), .second, .val (.long (f3 q1)), .second, .val (.long u103), .second, .val (.int v109), .val (.int v126), .val (.int v132)] [(.int (0 : Int32))])) _
        exact k
      exact (own_leaf2 hu33 hu51 hu103 hv109 hv115 hv121 hv126 hv132 hc140_135 hc145_138).elim
    · have pre140 : ∀ t, Steps p.tables e below (T94.setTop (mkF m 150 #[.val (.long q0), .second, .val (.long q1), .second, .val (.long (-7046029254386353131 : Int64)), .second, .val (.ref b19), .val (.long (f3 q0)), .second, .val (.long u33), .second, .val (.long u51), .second, .val (.long (f3 q1)), .second, .val (.long u103), .second, .val (.int v109), .val (.int v126), .val (.int v132)] [(.int v132)])) t → Steps p.tables e below (s₁.setTop (entryFrame m #[(.long q0), (.long q1)] maxLocals)) t := by
        intro t k
        refine pre137 t ?_
        show Steps p.tables e below (T94.setTop (mkF m 145 #[.val (.long q0), .second, .val (.long q1), .second, .val (.long (-7046029254386353131 : Int64)), .second, .val (.ref b19), .val (.long (f3 q0)), .second, .val (.long u33), .second, .val (.long u51), .second, .val (.long (f3 q1)), .second, .val (.long u103), .second, .val (.int v109), .val (.int v126), .val (.int v132)] [(.int v126)])) _
        refine XS.ifNo X94.here hx rfl (hb hby at_145) rfl ((if0 _ _).trans (feq hc145_138).1) ?_
        show Steps p.tables e below (T94.setTop (mkF m 148 #[.val (.long q0), .second, .val (.long q1), .second, .val (.long (-7046029254386353131 : Int64)), .second, .val (.ref b19), .val (.long (f3 q0)), .second, .val (.long u33), .second, .val (.long u51), .second, .val (.long (f3 q1)), .second, .val (.long u103), .second, .val (.int v109), .val (.int v126), .val (.int v132)] [])) _
        refine XS.iload X94.here hx rfl (hb hby at_148) rfl ?_
        show Steps p.tables e below (T94.setTop (mkF m 150 #[.val (.long q0), .second, .val (.long q1), .second, .val (.long (-7046029254386353131 : Int64)), .second, .val (.ref b19), .val (.long (f3 q0)), .second, .val (.long u33), .second, .val (.long u51), .second, .val (.long (f3 q1)), .second, .val (.long u103), .second, .val (.int v109), .val (.int v126), .val (.int v132)] [(.int v132)])) _
        exact k
      by_cases hc150_141 : v132 = (0 : Int32)
      · have pre142 : ∀ t, Steps p.tables e below (T94.setTop (mkF m 158 #[.val (.long q0), .second, .val (.long q1), .second, .val (.long (-7046029254386353131 : Int64)), .second, .val (.ref b19), .val (.long (f3 q0)), .second, .val (.long u33), .second, .val (.long u51), .second, .val (.long (f3 q1)), .second, .val (.long u103), .second, .val (.int v109), .val (.int v126), .val (.int v132)] [(.int (0 : Int32))])) t → Steps p.tables e below (s₁.setTop (entryFrame m #[(.long q0), (.long q1)] maxLocals)) t := by
          intro t k
          refine pre140 t ?_
          show Steps p.tables e below (T94.setTop (mkF m 150 #[.val (.long q0), .second, .val (.long q1), .second, .val (.long (-7046029254386353131 : Int64)), .second, .val (.ref b19), .val (.long (f3 q0)), .second, .val (.long u33), .second, .val (.long u51), .second, .val (.long (f3 q1)), .second, .val (.long u103), .second, .val (.int v109), .val (.int v126), .val (.int v132)] [(.int v132)])) _
          refine XS.ifYes X94.here hx rfl (pc0 := 150) (pc' := 157) rfl (hb hby at_150) rfl ((if0 _ _).trans (teq hc150_141).1) (by decide) (by decide) ?_
          show Steps p.tables e below (T94.setTop (mkF m 157 #[.val (.long q0), .second, .val (.long q1), .second, .val (.long (-7046029254386353131 : Int64)), .second, .val (.ref b19), .val (.long (f3 q0)), .second, .val (.long u33), .second, .val (.long u51), .second, .val (.long (f3 q1)), .second, .val (.long u103), .second, .val (.int v109), .val (.int v126), .val (.int v132)] [])) _
          refine XS.iconst X94.here hx rfl (hb hby at_157) ?_
          show Steps p.tables e below (T94.setTop (mkF m 158 #[.val (.long q0), .second, .val (.long q1), .second, .val (.long (-7046029254386353131 : Int64)), .second, .val (.ref b19), .val (.long (f3 q0)), .second, .val (.long u33), .second, .val (.long u51), .second, .val (.long (f3 q1)), .second, .val (.long u103), .second, .val (.int v109), .val (.int v126), .val (.int v132)] [(.int (0 : Int32))])) _
          exact k
        exact (own_leaf3 hu33 hu51 hu103 hv109 hv115 hv121 hv126 hv132 hc140_135 hc145_138 hc150_141).elim
      · obtain ⟨fs, hr, hrun, hended, hW, hsame⟩ := X94.leave (v := some (.int (1 : Int32))) (fun h => by rw [Bd.returns] at h; cases h)
        refine ⟨_, _, pre140 _ ?_, hrun, hended, _, _, rfl, ?_, ⟨_, rfl⟩, hW, hsame.mono (by decide) (by decide)⟩
        · show Steps p.tables e below (T94.setTop (mkF m 150 #[.val (.long q0), .second, .val (.long q1), .second, .val (.long (-7046029254386353131 : Int64)), .second, .val (.ref b19), .val (.long (f3 q0)), .second, .val (.long u33), .second, .val (.long u51), .second, .val (.long (f3 q1)), .second, .val (.long u103), .second, .val (.int v109), .val (.int v126), .val (.int v132)] [(.int v132)])) _
          refine XS.ifNo X94.here hx rfl (hb hby at_150) rfl ((if0 _ _).trans (feq hc150_141).1) ?_
          show Steps p.tables e below (T94.setTop (mkF m 153 #[.val (.long q0), .second, .val (.long q1), .second, .val (.long (-7046029254386353131 : Int64)), .second, .val (.ref b19), .val (.long (f3 q0)), .second, .val (.long u33), .second, .val (.long u51), .second, .val (.long (f3 q1)), .second, .val (.long u103), .second, .val (.int v109), .val (.int v126), .val (.int v132)] [])) _
          refine XS.iconst X94.here hx rfl (hb hby at_153) ?_
          show Steps p.tables e below (T94.setTop (mkF m 154 #[.val (.long q0), .second, .val (.long q1), .second, .val (.long (-7046029254386353131 : Int64)), .second, .val (.ref b19), .val (.long (f3 q0)), .second, .val (.long u33), .second, .val (.long u51), .second, .val (.long (f3 q1)), .second, .val (.long u103), .second, .val (.int v109), .val (.int v126), .val (.int v132)] [(.int (1 : Int32))])) _
          refine XS.goto X94.here hx rfl (pc0 := 154) (pc' := 158) rfl (hb hby at_154) (by decide) (by decide) ?_
          show Steps p.tables e below (T94.setTop (mkF m 158 #[.val (.long q0), .second, .val (.long q1), .second, .val (.long (-7046029254386353131 : Int64)), .second, .val (.ref b19), .val (.long (f3 q0)), .second, .val (.long u33), .second, .val (.long u51), .second, .val (.long (f3 q1)), .second, .val (.long u103), .second, .val (.int v109), .val (.int v126), .val (.int v132)] [(.int (1 : Int32))])) _
          exact retN X94 hx (t := .boolean) Bd.returns (by simp) (hb hby at_158) hr
        · show Q0 Z q0 q1 h0 n0 _ T94.heap _
          rw [e94]
          exact ⟨rfl, N94⟩
set_option maxRecDepth 65536 in
set_option maxHeartbeats 40000000 in
theorem comes_1 {Post : Tables → Env → Array Value → State → Outcome → State → Prop} (hpost : ∀ tb e args s v u, (limb_1_1.after args s (.returned v) u = true ∧ limb_1_2.after args s (.returned v) u = true ∧ True) → FrameEnd s (.returned v) u (Jvm.fieldLocs frame_1_writes args s ++ Jvm.arrayLocs frame_1_arrays args s ++ Jvm.staticLocs frame_1_statics s) 16 128 → Post tb e args s (.returned v) u) :
    ArmFor flags0 classFile x code maxLocals ret World_1 tables_1 room_1 Calls_1 rest_1 Pre_1 Post := by
  intro l hfl _ _ p e ha hc hk s m args below hf hA hF happ hP
  obtain ⟨hcalls, hrest, hpre⟩ := hP
  obtain ⟨-, -, -, hnamed, -, -, -, hat⟩ := (Spec.applies_iff hf).mp happ
  obtain ⟨hg, hn⟩ := and_e (Cond.before_iff.mp (show (Jvm.Cond.and given_1 narrow_1).before args s = true from hpre))
  obtain ⟨hcount, hg0⟩ := and_e hg
  obtain ⟨ha0, hg1⟩ := and_e hg0
  have ha1 := hg1
  obtain ⟨w0, w1, rfl⟩ : ∃ w0 w1 : Value, args = #[w0, w1] := by
    have hs : args.size = 2 := by simpa [Cond.value, given_1] using hcount
    obtain ⟨L⟩ := args
    match L, hs with
    | [w0, w1], _ => exact ⟨w0, w1, rfl⟩
  have hw := fun d (hd : d ∈ tables_1) => atoms_spec (ws := Jvm.Cond.code x code maxLocals ret :: tables_1) hat d (List.mem_cons_of_mem _ hd)
  have hfit : Fit s := fun {y c} hc i hi => by
    obtain ⟨ha, rfl⟩ := Array.getElem?_eq_some_iff.mp hc
    have q := List.all_eq_true.mp ((Array.all_eq_true_iff_forall_mem.mp hF) _ (Array.getElem_mem ha)) i (List.mem_range.mpr hi)
    simpa [Array.getElem?_eq_getElem hi] using q
  obtain ⟨i0, ei0⟩ := isL_v ha0
  obtain rfl : w0 = (.long i0) := Option.some.inj ei0
  obtain ⟨i1, ei1⟩ := isL_v ha1
  obtain rfl : w1 = (.long i1) := Option.some.inj ei1
  obtain ⟨n, o, h1, h2, h3, _, L, rfl, ⟨rfl, N⟩, hq⟩ := rm0 l s _ hw tables_1 i0 i1 s.heap s.heap.size (Nat.le_refl _) p e ha hc hk s m _ below hf ((Spec.applies_iff_loose hf).mp happ).1 ⟨rfl, State.Warmed39.refl s, rfl⟩ trivial
  refine ⟨n, _, h1, h2, h3, hpost _ _ _ _ _ _ ⟨Cond.after_iff.mpr rfl, Cond.after_iff.mpr (eq_i res_at (Term.int_eval (1)) rfl), trivial⟩ ⟨hq.1, hq.2.1, (hq.2.2.sift fun y hy => Or.inr (N y hy)).mono (by decide) (by decide)⟩⟩
theorem main_1_1 : Claimed_1_1 := comes_1 fun _ _ _ _ _ _ h hF => ⟨h.1, hF⟩
theorem main_1_2 : Claimed_1_2 := comes_1 fun _ _ _ _ _ _ h hF => ⟨h.2.1, hF⟩
end Jvm.Pilot.@@N@@
namespace Jvm.Pilot.@@N@@
open Jvm Jvm.ClassFile Sem Op Lib Jvm.Free Jvm.Stand Jvm.Pilot.@@N@@.Jvm.D
/-! MADE BY PROGRAM (witnessworld.py) out of the Statement's table words and the real class files: 7 classes; the members and pool entries that the words name. The judged class is class 1, her method 1. -/
namespace start1
open Jvm.ClassFile
def u (s : String) : CpInfo := .utf8 (stringToUtf16 s)
/-- a pool by its gaps: so many unusable entries, then the entry; so many at the end -/
def gap : Nat → List CpInfo → List CpInfo
  | 0, r => r
  | n + 1, r => .unusable :: gap n r
def poolList (es : List (Nat × CpInfo)) (last : Nat) : List CpInfo := es.foldr (fun e r => gap e.1 (e.2 :: r)) (gap last [])
def pool (es : List (Nat × CpInfo)) (last : Nat) : Array CpInfo := ⟨poolList es last⟩
def fileOf (pool : Array CpInfo) (this : Nat) (attrs : Array Attribute := #[]) (ms : Array MethodInfo := #[]) (fl : Nat := 33) (sup : Nat := 0) (ifs : Array Nat := #[]) (fds : Array FieldInfo := #[]) : ClassFile where
  minorVersion := 0
  majorVersion := 65
  constantPool := pool
  accessFlags := fl
  thisClass := this
  superClass := sup
  interfaces := ifs
  fields := fds
  methods := ms
  attributes := attrs
def plain (name : String) (sup : Option ClassId) : Class where
  name := name
  kind := .ordinary
  loader := none
  accessFlags := 33
  super := sup
  interfaces := #[]
  cf := none
  fields := #[]
  methods := #[]
  instanceTypes := #[]
  staticTypes := #[]
  resolved := #[]
  callSites := []
  init := .initialized
  statics := none
  mirror := none

def pool0 : Array CpInfo := pool [(5, u "<init>"), (0, u "()V"), (1, .class_ 10), (1, u "java/lang/Object")] 113

def k0c0 : Code := { maxStack := 0, maxLocals := 1, code := object_method_1_code, exceptionTable := #[], attributes := #[] }
def k0m0 : Method := { name := "<init>", desc := "()V", sig := { parameters := [], returnType := none }, accessFlags := 1, code := some k0c0 }
/-- java/lang/Object -/
def k0 : Class := { plain "java/lang/Object" none with
  accessFlags := 33
  interfaces := #[]
  cf := some (fileOf pool0 8 #[] #[{ accessFlags := 1, nameIndex := 5, descriptorIndex := 6, attributes := #[] }] 33 0 #[] #[])
  fields := #[]
  methods := #[k0m0]
  instanceTypes := #[]
  staticTypes := #[]
  resolved := Array.replicate 124 none
  statics := none }

def pool1 : Array CpInfo := pool [(2, .class_ 4), (1, u "java/lang/Object"), (0, u "<init>"), (0, u "()V"), (0, .long 11400714819323198485), (1, .class_ 10), (0, u "com/example/tetrawell/tetrawell/nes/SplitMix64"), (0, .methodref 9 12), (0, .nameAndType 5 13), (0, u "(J)V"), (0, .methodref 9 15), (0, .nameAndType 16 17), (0, u "nextLong"), (0, u "()J"), (0, .long 1234567), (1, .long 6457827717110365317), (1, .class_ 23), (0, u "com/example/tetrawell/tetrawell/nes/SplitMix64NextLongPinLaw"), (2, u "law"), (0, u "(JJ)Z")] 3

def k1m0 : Method := { name := "<init>", desc := "()V", sig := { parameters := [], returnType := none }, accessFlags := 2, code := none }
def k1c1 : Code := { maxStack := 6, maxLocals := 20, code := code, exceptionTable := #[], attributes := #[] }
def k1m1 : Method := { name := "law", desc := "(JJ)Z", sig := { parameters := [.long, .long], returnType := some .boolean }, accessFlags := 9, code := some k1c1 }
/-- com/example/tetrawell/tetrawell/nes/SplitMix64NextLongPinLaw -/
def k1 : Class := { plain "com/example/tetrawell/tetrawell/nes/SplitMix64NextLongPinLaw" (some 0) with
  accessFlags := 49
  interfaces := #[]
  cf := some (fileOf pool1 22 #[] #[{ accessFlags := 2, nameIndex := 5, descriptorIndex := 6, attributes := #[] }, { accessFlags := 9, nameIndex := 26, descriptorIndex := 27, attributes := #[] }] 49 2 #[] #[])
  fields := #[]
  methods := #[k1m0, k1m1]
  instanceTypes := #[]
  staticTypes := #[]
  resolved := Array.replicate 31 none
  statics := none }

def pool2 : Array CpInfo := pool [(1, .methodref 2 3), (0, .class_ 4), (0, .nameAndType 5 6), (0, u "java/lang/Object"), (0, u "<init>"), (0, u "()V"), (0, .fieldref 8 9), (0, .class_ 10), (0, .nameAndType 11 12), (0, u "com/example/tetrawell/tetrawell/nes/SplitMix64"), (0, u "state"), (0, u "J"), (0, .long 11400714819323198485), (1, .long 13787848793156543929), (1, .long 10723151780598845931), (3, u "nextLong"), (0, u "()J"), (0, u "GAMMA"), (1, u "(J)V")] 6

def k2c0 : Code := { maxStack := 3, maxLocals := 3, code := prog_25_method_1_code, exceptionTable := #[], attributes := #[] }
def k2m0 : Method := { name := "<init>", desc := "(J)V", sig := { parameters := [.long], returnType := none }, accessFlags := 0, code := some k2c0 }
def k2c1 : Code := { maxStack := 5, maxLocals := 3, code := prog_25_method_2_code, exceptionTable := #[], attributes := #[] }
def k2m1 : Method := { name := "nextLong", desc := "()J", sig := { parameters := [], returnType := some .long }, accessFlags := 0, code := some k2c1 }
/-- com/example/tetrawell/tetrawell/nes/SplitMix64 -/
def k2 : Class := { plain "com/example/tetrawell/tetrawell/nes/SplitMix64" (some 0) with
  accessFlags := 48
  interfaces := #[]
  cf := some (fileOf pool2 8 #[] #[{ accessFlags := 0, nameIndex := 5, descriptorIndex := 25, attributes := #[] }, { accessFlags := 0, nameIndex := 21, descriptorIndex := 22, attributes := #[] }] 48 2 #[] #[{ accessFlags := 26, nameIndex := 23, descriptorIndex := 12, attributes := #[] }, { accessFlags := 2, nameIndex := 11, descriptorIndex := 12, attributes := #[] }])
  fields := #[{ name := "GAMMA", type := .long, accessFlags := 26, slot := 0, constantValue := 0 }, { name := "state", type := .long, accessFlags := 2, slot := 0, constantValue := 0 }]
  methods := #[k2m0, k2m1]
  instanceTypes := #[.long]
  staticTypes := #[.long]
  resolved := Array.replicate 32 none
  statics := none }

def pool3 : Array CpInfo := pool [(1, u "java/lang/Cloneable"), (0, .class_ 1), (0, u "java/lang/Object"), (0, .class_ 3)] 3

/-- java/lang/Cloneable -/
def k3 : Class := { plain "java/lang/Cloneable" (some 0) with
  accessFlags := 1537
  interfaces := #[]
  cf := some (fileOf pool3 2 #[] #[] 1537 4 #[] #[])
  fields := #[]
  methods := #[]
  instanceTypes := #[]
  staticTypes := #[]
  resolved := Array.replicate 8 none
  statics := none }

def pool4 : Array CpInfo := pool [(1, u "java/io/Serializable"), (0, .class_ 1), (0, u "java/lang/Object"), (0, .class_ 3)] 3

/-- java/io/Serializable -/
def k4 : Class := { plain "java/io/Serializable" (some 0) with
  accessFlags := 1537
  interfaces := #[]
  cf := some (fileOf pool4 2 #[] #[] 1537 4 #[] #[])
  fields := #[]
  methods := #[]
  instanceTypes := #[]
  staticTypes := #[]
  resolved := Array.replicate 8 none
  statics := none }

/-- the primitive byte -/
def k5 : Class := { plain "byte" none with kind := .primitive 'B', accessFlags := 0x411 }
/-- [B -/
def k6 : Class := { plain "[B" (some 0) with kind := .array 5 .byte, interfaces := #[3, 4], accessFlags := 1041 }

def heap : Heap := #[]
def classes : Array Class := #[k0, k1, k2, k3, k4, k5, k6]
def interned : List (Array UInt16 × Addr) := []
def slotsUsed : Nat := 0
def theMethod : MethodId := ⟨1, 1⟩
def args0 : Array Value := #[.long 5, .long 7]
def aboutOver (below : List Frame) : State where
  vm := { classes := classes, interned := interned.toArray }
  heap := heap
  slotsUsed := slotsUsed
  threads := #[{ frames := .invoking theMethod args0 :: below }]
def below0 : List Frame := [.native { method := ⟨0, 0⟩, args := #[] }]
def about1 : State := aboutOver below0
def p0 : Program := .bare "" "" ""
def e0 : Env := launch0.env 0 0 0
theorem w_frames : about1.frames = Frame.invoking theMethod args0 :: below0 := rfl
set_option maxRecDepth 65536 in
theorem w_args : argsFit about1.vm theMethod args0 = true := by decide +kernel
set_option maxRecDepth 65536 in
theorem w_heap : heapFits about1 = true := by decide +kernel
set_option maxRecDepth 65536 in
theorem w_runnable : about1.curStatus? = some .runnable := by decide +kernel
set_option maxRecDepth 65536 in
theorem w_alone : about1.alone = true := by decide +kernel
set_option maxRecDepth 65536 in
theorem w_named : about1.methodNamed? x = some theMethod := by decide +kernel
set_option maxRecDepth 65536 in
theorem w_hears : about1.hears theMethod below0 = true := by decide +kernel
set_option maxRecDepth 65536 in
theorem w_ripe : about1.ripe theMethod args0 below0 = true := by decide +kernel
theorem w_running : about1.status = .running := rfl
set_option maxRecDepth 65536 in
theorem w_room : about1.hasRoom e0.platform room_1 = true :=
  launch0.hasRoom_least _ room_1 (by decide +kernel) (by decide +kernel) (by decide +kernel) (by decide +kernel) (by decide +kernel) (by decide +kernel)
theorem allAtoms_all (ts : List Jvm.Cond) (a : Array Jvm.Value) (st : Jvm.State) : (allAtoms ts).before a st = ts.all (fun c => c.before a st) := by
  induction ts with
  | nil => rfl
  | cons c t ih =>
    show (Jvm.Cond.and c (allAtoms t)).before a st = _
    rw [Jvm.Cond.before_and, ih, List.all_cons]
def words1 : List Jvm.Cond := Jvm.Cond.code x code maxLocals ret :: tables_1
/-- a 'code' word, met by the world's own term for the bytes: nothing is compared byte by byte -/
theorem code_word {y : MethodName} {bytes : ByteArray} {mx : Nat} {rt : Option FieldType} {a : Array Value} {s : State} {m : MethodId} {meth : Method} {c : Code} (h1 : s.methodNamed? y = some m) (h2 : s.vm.method? m = some meth) (h3 : meth.code = some c) (h4 : c.code = bytes)
    (h5 : (c.maxLocals == mx && c.exceptionTable.isEmpty && decide (c.maxStack ≤ mostOperands) && decide (meth.sig.returnType = rt) && !meth.locks && decide (parseMethodDescriptor y.desc = some meth.sig)) = true) : (Jvm.Cond.code y bytes mx rt).before a s = true := by
  simp only [Bool.and_eq_true, beq_iff_eq, Bool.not_eq_true', decide_eq_true_eq] at h5
  obtain ⟨⟨⟨⟨⟨g1, g2⟩, g3⟩, g4⟩, g5⟩, g6⟩ := h5
  simp [Cond.before, Cond.holds, Cond.value, h1, h2, h3, h4, g1, g2, g3, g4, g5, g6]
def isCode : Jvm.Cond → Bool
  | .code _ _ _ _ => true
  | _ => false
theorem all_split {L : List Jvm.Cond} {P : Jvm.Cond → Bool} (h1 : L.all (fun c => isCode c || P c) = true) (h2 : ∀ c ∈ L.filter isCode, P c = true) : L.all P = true := by
  refine List.all_eq_true.mpr fun c hc => ?_
  have h := List.all_eq_true.mp h1 c hc
  rcases Bool.eq_false_or_eq_true (isCode c) with hi | hi
  · exact h2 c (List.mem_filter.mpr ⟨hc, hi⟩)
  · simpa [hi] using h
set_option maxRecDepth 65536 in
theorem w_c0 : (Jvm.Cond.code x code maxLocals ret).before args0 about1 = true := code_word (m := ⟨1, 1⟩) (meth := k1m1) (c := k1c1) (by decide +kernel) rfl rfl rfl (by decide +kernel)
set_option maxRecDepth 65536 in
theorem w_c1 : (Jvm.Cond.code ({ cls := "com/example/tetrawell/tetrawell/nes/SplitMix64", name := "<init>", desc := "(J)V" } : Jvm.MethodName) prog_25_method_1_code (3 : Nat) (Option.none : Option Jvm.ClassFile.FieldType)).before args0 about1 = true := code_word (m := ⟨2, 0⟩) (meth := k2m0) (c := k2c0) (by decide +kernel) rfl rfl rfl (by decide +kernel)
set_option maxRecDepth 65536 in
theorem w_c2 : (Jvm.Cond.code ({ cls := "java/lang/Object", name := "<init>", desc := "()V" } : Jvm.MethodName) object_method_1_code (1 : Nat) (Option.none : Option Jvm.ClassFile.FieldType)).before args0 about1 = true := code_word (m := ⟨0, 0⟩) (meth := k0m0) (c := k0c0) (by decide +kernel) rfl rfl rfl (by decide +kernel)
set_option maxRecDepth 65536 in
theorem w_c3 : (Jvm.Cond.code ({ cls := "com/example/tetrawell/tetrawell/nes/SplitMix64", name := "nextLong", desc := "()J" } : Jvm.MethodName) prog_25_method_2_code (3 : Nat) (Option.some Jvm.ClassFile.FieldType.long)).before args0 about1 = true := code_word (m := ⟨2, 1⟩) (meth := k2m1) (c := k2c1) (by decide +kernel) rfl rfl rfl (by decide +kernel)
def codes1 : List Jvm.Cond := [Jvm.Cond.code x code maxLocals ret, Jvm.Cond.code ({ cls := "com/example/tetrawell/tetrawell/nes/SplitMix64", name := "<init>", desc := "(J)V" } : Jvm.MethodName) prog_25_method_1_code (3 : Nat) (Option.none : Option Jvm.ClassFile.FieldType), Jvm.Cond.code ({ cls := "java/lang/Object", name := "<init>", desc := "()V" } : Jvm.MethodName) object_method_1_code (1 : Nat) (Option.none : Option Jvm.ClassFile.FieldType), Jvm.Cond.code ({ cls := "com/example/tetrawell/tetrawell/nes/SplitMix64", name := "nextLong", desc := "()J" } : Jvm.MethodName) prog_25_method_2_code (3 : Nat) (Option.some Jvm.ClassFile.FieldType.long)]
set_option maxRecDepth 65536 in
theorem codes_eq : words1.filter isCode = codes1 := rfl
theorem w_codes : ∀ c ∈ words1.filter isCode, c.before args0 about1 = true := by
  rw [codes_eq]
  intro c hc
  simp only [codes1, List.mem_cons, List.not_mem_nil, or_false] at hc
  rcases hc with rfl | rfl | rfl | rfl
  · exact w_c0
  · exact w_c1
  · exact w_c2
  · exact w_c3
set_option maxRecDepth 65536 in
theorem w_t1 : words1.all (fun c => isCode c || c.before args0 about1) = true := by decide +kernel
theorem w_tables : (allAtoms (Jvm.Cond.code x code maxLocals ret :: tables_1)).before args0 about1 = true := by
  rw [allAtoms_all]
  show words1.all (fun c => c.before args0 about1) = true
  refine all_split ?_ w_codes
  rw [w_t1]
set_option maxRecDepth 65536 in
theorem w_case : (Jvm.Cond.and given_1 narrow_1).before args0 about1 = true := by decide +kernel
theorem w_applies : (headSpec (Jvm.Cond.code x code maxLocals ret :: tables_1) room_1).applies x e0.platform about1 = true :=
  (Spec.applies_iff w_frames).mpr ⟨w_running, w_runnable, w_alone, w_named, w_hears, w_ripe, w_room, w_tables⟩
theorem atStart : AtStart classFile x code maxLocals ret World_1 tables_1 room_1 Calls_1 rest_1 Pre_1 launch0 p0 e0 about1 theMethod args0 below0 :=
  ⟨lists_1, trivial, launch0.admits_env _ _ _, launch0.least_env, fairChoices_fair.cas, fairChoices_fair.clock, w_frames, w_args, w_heap, w_applies, trivial, trivial, w_case⟩
end start1
theorem witness_1 : WitnessClaimed_1 := ⟨start1.p0, start1.e0, start1.about1, start1.theMethod, start1.args0, start1.below0, start1.atStart⟩
end Jvm.Pilot.@@N@@
