import JvmDerived
import JvmDerived.Pilot.@@N@@Statement
import JvmDerived.Pilot.@@N@@Code
set_option linter.unusedVariables false
set_option linter.unusedSimpArgs false
@@BLOCK:NumsL.lean.txt@@
namespace Jvm.Pilot.@@N@@
open Jvm Jvm.ClassFile Sem Op Lib Jvm.Free Jvm.Stand Jvm.LawKit Jvm.RoadKit Bundle Jvm.Pilot.@@N@@.Jvm.D
theorem own_eqL {x y : Int64} (h : x = y) : lcmpW x y = 0 := by rw [lcW]; exact (lc_eq x y).2 h
theorem own_neL {x y : Int64} (h : ¬ x = y) : ¬ lcmpW x y = 0 := by rw [lcW]; exact fun q => h ((lc_eq x y).1 q)
theorem own_ltL {x y : Int64} (h : x < y) : lcmpW x y < 0 := by rw [lcW]; exact (lc_lt x y).2 h
theorem own_nltL {x y : Int64} (h : ¬ x < y) : ¬ lcmpW x y < 0 := by rw [lcW]; exact fun q => h ((lc_lt x y).1 q)
theorem own_gtL {x y : Int64} (h : y < x) : 0 < lcmpW x y := by rw [lcW]; exact (lc_gt x y).2 h
theorem own_ns_exa {Z : State} {h : Heap} {a : Addr} {C : String} (E : Exa Z h a C) : ∀ cell : Cell, h[a]? = some cell → cell.vm.isStatics = false := by
  obtain ⟨c, k, h1, -, -, h4, -⟩ := E
  intro cell hc; cases h1.symm.trans hc; exact h4
theorem own_ns1 {h : Heap} {a : Addr} (p : ∀ cell : Cell, h[a]? = some cell → cell.vm.isStatics = false) : ∀ x ∈ [a], ∀ cell : Cell, h[x]? = some cell → cell.vm.isStatics = false := by
  intro x hx; cases List.mem_singleton.mp hx; exact p
theorem own_ns2 {h : Heap} {a b : Addr} (p : ∀ cell : Cell, h[a]? = some cell → cell.vm.isStatics = false) (q : ∀ cell : Cell, h[b]? = some cell → cell.vm.isStatics = false) : ∀ x ∈ [a, b], ∀ cell : Cell, h[x]? = some cell → cell.vm.isStatics = false := by
  intro x hx; simp only [List.mem_cons, List.not_mem_nil, or_false] at hx; rcases hx with rfl | rfl <;> first | exact p | exact q
theorem own_sta_keep {Z : State} {h h' : Heap} {ws : List Addr} {C n d : String} {v : Value} (F : Sta Z h C n d v) (K : Keep h h' ws) (hn : ∀ x ∈ ws, ∀ cell : Cell, h[x]? = some cell → cell.vm.isStatics = false) : Sta Z h' C n d v := by
  obtain ⟨cf, i, k, f, st, cell, h1, h2, h3, h4, h5, h6, r⟩ := F
  exact ⟨cf, i, k, f, st, cell, h1, h2, h3, h4, K.2.1 _ _ h5 (fun q => by rw [hn _ q _ h5] at h6; cases h6), h6, r⟩
theorem own_sta_keep0 {Z : State} {h h' : Heap} {C n d : String} {v : Value} (F : Sta Z h C n d v) (K : Keep h h' []) : Sta Z h' C n d v := by
  obtain ⟨cf, i, k, f, st, cell, h1, h2, h3, h4, h5, r⟩ := F
  exact ⟨cf, i, k, f, st, cell, h1, h2, h3, h4, K.2.1 _ _ h5 List.not_mem_nil, r⟩
theorem own_ngtL {x y : Int64} (h : ¬ y < x) : ¬ 0 < lcmpW x y := by rw [lcW]; exact fun q => h ((lc_gt x y).1 q)
theorem pn_0 : plainName "com/example/membership/membership/BloomShape$Cell" = true := by first | (simp [plainName, overriddenIn]; done) | decide +kernel
theorem d1_0 : decode prog_4_method_6_code 0 = .ok (.iload_n 1, 1) := by decide +kernel
theorem d1_1 : decode prog_4_method_6_code 1 = .ok (.i2l, 1) := by decide +kernel
theorem d1_2 : decode prog_4_method_6_code 2 = .ok (.ldc2_w 43, 3) := by decide +kernel
theorem d1_5 : decode prog_4_method_6_code 5 = .ok (.lmul, 1) := by decide +kernel
theorem d1_6 : decode prog_4_method_6_code 6 = .ok (.aload_n 0, 1) := by decide +kernel
theorem d1_7 : decode prog_4_method_6_code 7 = .ok (.getfield 29, 3) := by decide +kernel
theorem d1_10 : decode prog_4_method_6_code 10 = .ok (.i2l, 1) := by decide +kernel
theorem d1_11 : decode prog_4_method_6_code 11 = .ok (.ldiv, 1) := by decide +kernel
theorem d1_12 : decode prog_4_method_6_code 12 = .ok (.lreturn, 1) := by decide +kernel
theorem ef_1 (m : MethodId) (x0 : Addr) (x1 : Int32) : entryFrame m #[(.ref x0), (.int x1)] 2 = mkF m 0 #[.val (.ref x0), .val (.int x1)] [] := by first | (simp [entryFrame, mkF, argsToLocals, Value.category]; done) | rfl
def Q1 (Z : State) (a0 : Addr) (p1 : Int32) (w_width_a0 : Int32) (h0 : Heap) (n0 : Nat) (v : Option Value) (h : Heap) (L : List Loc) : Prop := v = some (.long (((p1.toInt64) * (64 : Int64)) / (w_width_a0.toInt64))) ∧ Fr n0 L ∧ h = h0
set_option maxRecDepth 65536 in
set_option maxHeartbeats 40000000 in
theorem rm1 (l : Launch) (Z : State) (ar0 : Array Value) (hw : ∀ d ∈ tables_1, d.before ar0 Z = true) (ws : List Jvm.Cond) (a0 : Addr) (p1 : Int32) (w_width_a0 : Int32) (h0 : Heap) (n0 : Nat) (Z0 : n0 ≤ h0.size) (F_width_a0 : Fld Z h0 a0 "com/example/membership/membership/BloomShape$Cell" "width" "I" (.int w_width_a0)) (hnz11 : (w_width_a0.toInt64) ≠ (0 : Int64)) :
    MetFree l (⟨"com/example/membership/membership/BloomShape$Cell", "cellsIn", "(I)J"⟩ : MethodName) (head1 (Jvm.Cond.code (⟨"com/example/membership/membership/BloomShape$Cell", "cellsIn", "(I)J"⟩ : MethodName) prog_4_method_6_code 2 (some .long) :: ws) ({ frames := 0, cells := 0, slots := 0, locals := 0 } : Room)) (fun a U => a = #[(.ref a0), (.int p1)] ∧ Z.Warmed39 U.vm ∧ U.heap = h0) (fun _ _ _ _ _ => True) (fun _ U o U' => ∃ v L, o = .returned v ∧ Q1 Z a0 p1 w_width_a0 h0 n0 v U'.heap L ∧ FrameEnd U o U' L ({ frames := 0, cells := 0, slots := 0, locals := 0 } : Room).cells ({ frames := 0, cells := 0, slots := 0, locals := 0 } : Room).slots) := by
  refine MetFree.of_bodySF (plainFor_of_name pn_0) hisR ?_
  intro p e s m args below meth c s₁ Bd hml0 hP hK
  obtain ⟨rfl, hZ, hh⟩ := hP
  have hx := Bd.exec
  have hby := Bd.bytes
  have hml : c.maxLocals = 2 := hml0
  have hown : s.vm.findClass "com/example/membership/membership/BloomShape$Cell" = some m.cls := findClass_of_methodNamed Bd.named
  have hnm := (name_of_methodNamed Bd.named Bd.method).1
  have X0 : Stand p l e ({ frames := 0, cells := 0, slots := 0, locals := 0 } : Room) s m #[(.ref a0), (.int p1)] below meth c s₁ [] 0 0 := Stand.of_body Bd
  have e0 : s₁.heap = h0 := by rw [← hh, Bd.state]; rfl
  have N0 := Fr.nil n0
  have pre0 : ∀ t, Steps p.tables e below (s₁.setTop (mkF m 0 #[.val (.ref a0), .val (.int p1)] [])) t → Steps p.tables e below (s₁.setTop (entryFrame m #[(.ref a0), (.int p1)] 2)) t := fun t k => castTop (ef_1 m a0 p1) k
  have pre1 : ∀ t, Steps p.tables e below (s₁.setTop (mkF m 7 #[.val (.ref a0), .val (.int p1)] [(.ref a0), (.long ((p1.toInt64) * (64 : Int64)))])) t → Steps p.tables e below (s₁.setTop (entryFrame m #[(.ref a0), (.int p1)] 2)) t := by
    intro t k
    refine pre0 t ?_
    show Steps p.tables e below (s₁.setTop (mkF m 0 #[.val (.ref a0), .val (.int p1)] [])) _
    refine XS.iloadN X0.here hx rfl (hb hby d1_0) rfl ?_
    show Steps p.tables e below (s₁.setTop (mkF m 1 #[.val (.ref a0), .val (.int p1)] [(.int p1)])) _
    refine XS.i2l X0.here hx rfl (hb hby d1_1) rfl ?_
    show Steps p.tables e below (s₁.setTop (mkF m 2 #[.val (.ref a0), .val (.int p1)] [(.long (p1.toInt64))])) _
    refine X0.ldc2Long hx hown (mvT hZ (hw _ (List.mem_of_getElem? (i := 9) rfl))) (g := (mkF m 2 #[.val (.ref a0), .val (.int p1)] [(.long (p1.toInt64))])) rfl (hb hby d1_2) _ ?_
    show Steps p.tables e below (s₁.setTop (mkF m 5 #[.val (.ref a0), .val (.int p1)] [(.long (64 : Int64)), (.long (p1.toInt64))])) _
    refine XS.lmul X0.here hx rfl (hb hby d1_5) rfl ?_
    show Steps p.tables e below (s₁.setTop (mkF m 6 #[.val (.ref a0), .val (.int p1)] [(.long ((p1.toInt64) * (64 : Int64)))])) _
    refine XS.aloadN X0.here hx rfl (hb hby d1_6) rfl rfl ?_
    show Steps p.tables e below (s₁.setTop (mkF m 7 #[.val (.ref a0), .val (.int p1)] [(.ref a0), (.long ((p1.toInt64) * (64 : Int64)))])) _
    exact k
  obtain ⟨T2, X2, e2, st2⟩ := getF X0 hx hZ hown (host := "") (Or.inl (hw _ (List.mem_of_getElem? (i := 10) rfl))) Via.refl e0 F_width_a0 (g := (mkF m 7 #[.val (.ref a0), .val (.int p1)] [(.ref a0), (.long ((p1.toInt64) * (64 : Int64)))])) rfl rfl (hb hby d1_7)
  have pre3 : ∀ t, Steps p.tables e below (T2.setTop (mkF m 10 #[.val (.ref a0), .val (.int p1)] [(.int w_width_a0), (.long ((p1.toInt64) * (64 : Int64)))])) t → Steps p.tables e below (s₁.setTop (entryFrame m #[(.ref a0), (.int p1)] 2)) t := fun t k => pre1 t (st2 t k)
  obtain ⟨fs, hr, hrun, hended, hW, hsame⟩ := X2.leave (v := some (.long (((p1.toInt64) * (64 : Int64)) / (w_width_a0.toInt64)))) (fun h => by rw [Bd.returns] at h; cases h)
  refine ⟨_, _, pre3 _ ?_, hrun, hended, _, _, rfl, ?_, ⟨_, rfl⟩, hW, hsame.mono (by decide) (by decide)⟩
  · show Steps p.tables e below (T2.setTop (mkF m 10 #[.val (.ref a0), .val (.int p1)] [(.int w_width_a0), (.long ((p1.toInt64) * (64 : Int64)))])) _
    refine XS.i2l X2.here hx rfl (hb hby d1_10) rfl ?_
    show Steps p.tables e below (T2.setTop (mkF m 11 #[.val (.ref a0), .val (.int p1)] [(.long (w_width_a0.toInt64)), (.long ((p1.toInt64) * (64 : Int64)))])) _
    refine XS.ldiv X2.here hx rfl (hb hby d1_11) rfl hnz11 ?_
    show Steps p.tables e below (T2.setTop (mkF m 12 #[.val (.ref a0), .val (.int p1)] [(.long (((p1.toInt64) * (64 : Int64)) / (w_width_a0.toInt64)))])) _
    exact retOut X2 hx Bd.returns rfl (Or.inr (Or.inl ⟨rfl, rfl, _, rfl⟩)) (hb hby d1_12) hr
  · show Q1 Z a0 p1 w_width_a0 h0 n0 _ T2.heap _
    rw [e2]
    exact ⟨rfl, N0, rfl⟩
theorem own_eqI {a : Term} {k : Int32} {args : Array Value} {first s : State} {o : Option Outcome} {idx : List Nat} (h : (Cond.eq a (.int k)).value args first o s idx = some true) : a.eval args first o idx s = some (.int k) := by
  simp only [Cond.value, Term.eval] at h
  cases ha : a.eval args first o idx s with
  | none => simp [ha] at h
  | some x => cases x <;> simp [ha] at h ⊢; exact h
theorem own_eqJ {a : Term} {k : Int64} {args : Array Value} {first s : State} {o : Option Outcome} {idx : List Nat} (h : (Cond.eq a (.long k)).value args first o s idx = some true) : a.eval args first o idx s = some (.long k) := by
  simp only [Cond.value, Term.eval] at h
  cases ha : a.eval args first o idx s with
  | none => simp [ha] at h
  | some x => cases x <;> simp [ha] at h ⊢; exact h
theorem own_div4 {p : Int32} {u : Int64} (hu : u = ((p.toInt64) * (16 : Int64))) (h : ¬ ((((p.toInt64) * (64 : Int64)) / ((4 : Int32).toInt64)) = u)) : False := by
  apply h
  have b1 := p.le_toInt; have b2 := p.toInt_lt
  have e1 : (64 : Int64).toInt = 64 := by decide
  have e2 : (16 : Int64).toInt = 16 := by decide
  have e3 : ((4 : Int32).toInt64).toInt = 4 := by decide
  have a := Jvm.Kit.i64_of_i32 p
  have m1 : (p.toInt64 * 64).toInt = p.toInt * 64 := by rw [Jvm.Kit.i64_mul (by rw [a, e1]; omega) (by rw [a, e1]; omega), a, e1]
  have m2 : (p.toInt64 * 16).toInt = p.toInt * 16 := by rw [Jvm.Kit.i64_mul (by rw [a, e2]; omega) (by rw [a, e2]; omega), a, e2]
  apply Int64.toInt_inj.mp
  rw [hu, m2, Jvm.Kit.i64_div (by rw [e3]; omega), m1, e3]
  rw [show p.toInt * 64 = p.toInt * 16 * 4 by omega, Int.mul_tdiv_cancel _ (by decide)]
theorem own_div1 {p : Int32} {u : Int64} (hu : u = ((p.toInt64) * (64 : Int64))) (h : ¬ ((((p.toInt64) * (64 : Int64)) / ((1 : Int32).toInt64)) = u)) : False := by
  apply h
  have b1 := p.le_toInt; have b2 := p.toInt_lt
  have e1 : (64 : Int64).toInt = 64 := by decide
  have e3 : ((1 : Int32).toInt64).toInt = 1 := by decide
  apply Int64.toInt_inj.mp
  rw [hu, Jvm.Kit.i64_div (by rw [e3]; omega), e3, Int.tdiv_one]

theorem pd_0 : parseMethodDescriptor "(I)J" = some ⟨[.int], some .long⟩ := by decide +kernel
theorem pn_1 : plainName "com/example/membership/membership/CellCellsInPinLaw" = true := by first | (simp [plainName, overriddenIn]; done) | decide +kernel
theorem ef_0 (m : MethodId) (x0 : Int32) (x1 : Int32) : entryFrame m #[(.int x0), (.int x1)] maxLocals = mkF m 0 #[.val (.int x0), .val (.int x1), .unset, .unset, .unset, .unset, .unset, .unset] [] := by first | (simp [entryFrame, mkF, argsToLocals, Value.category, maxLocals]; done) | rfl
def Q0 (Z : State) (p0 : Int32) (p1 : Int32) (s_COUNTER : Addr) (s_BIT : Addr) (h0 : Heap) (n0 : Nat) (v : Option Value) (h : Heap) (L : List Loc) : Prop := v = some (.int 1) ∧ Fr n0 L
theorem own_leaf1 {p0 : Int32} {p1 : Int32} {v8 : Int32} {u16 : Int64} (hv8 : v8 = (if (p1 &&& (1 : Int32)) = (0 : Int32) then (1 : Int32) else (0 : Int32))) (hc13_11 : v8 = (0 : Int32)) (hu16 : u16 = ((p0.toInt64) * (16 : Int64))) (hc56_22 : ¬ ((((p0.toInt64) * (64 : Int64)) / ((4 : Int32).toInt64)) = u16)) : False := by
  exact own_div4 hu16 hc56_22
theorem own_leaf2 {p0 : Int32} {p1 : Int32} {v8 : Int32} {u28 : Int64} (hv8 : v8 = (if (p1 &&& (1 : Int32)) = (0 : Int32) then (1 : Int32) else (0 : Int32))) (hc13_11 : ¬ (v8 = (0 : Int32))) (hu28 : u28 = ((p0.toInt64) * (64 : Int64))) (hc56_34 : ¬ ((((p0.toInt64) * (64 : Int64)) / ((1 : Int32).toInt64)) = u28)) : False := by
  exact own_div1 hu28 hc56_34
set_option maxRecDepth 65536 in
set_option maxHeartbeats 40000000 in
theorem rm0 (l : Launch) (Z : State) (ar0 : Array Value) (hw : ∀ d ∈ tables_1, d.before ar0 Z = true) (ws : List Jvm.Cond) (p0 : Int32) (p1 : Int32) (s_COUNTER : Addr) (s_BIT : Addr) (h0 : Heap) (n0 : Nat) (Z0 : n0 ≤ h0.size) (S_COUNTER : Sta Z h0 "com/example/membership/membership/BloomShape$Cell" "COUNTER" "Lcom/example/membership/membership/BloomShape$Cell;" (.ref s_COUNTER)) (E_s_COUNTER : Exa Z h0 s_COUNTER "com/example/membership/membership/BloomShape$Cell") (F_width_s_COUNTER : Fld Z h0 s_COUNTER "com/example/membership/membership/BloomShape$Cell" "width" "I" (.int (4 : Int32))) (S_BIT : Sta Z h0 "com/example/membership/membership/BloomShape$Cell" "BIT" "Lcom/example/membership/membership/BloomShape$Cell;" (.ref s_BIT)) (E_s_BIT : Exa Z h0 s_BIT "com/example/membership/membership/BloomShape$Cell") (F_width_s_BIT : Fld Z h0 s_BIT "com/example/membership/membership/BloomShape$Cell" "width" "I" (.int (1 : Int32))) :
    MetFree l x (head1 (Jvm.Cond.code x code maxLocals ret :: ws) room_1) (fun a U => a = #[(.int p0), (.int p1)] ∧ Z.Warmed39 U.vm ∧ U.heap = h0) (fun _ _ _ _ _ => True) (fun _ U o U' => ∃ v L, o = .returned v ∧ Q0 Z p0 p1 s_COUNTER s_BIT h0 n0 v U'.heap L ∧ FrameEnd U o U' L room_1.cells room_1.slots) := by
  refine MetFree.of_bodySF (plainFor_of_name pn_1) hisR ?_
  intro p e s m args below meth c s₁ Bd hml0 hP hK
  obtain ⟨rfl, hZ, hh⟩ := hP
  have hx := Bd.exec
  have hby := Bd.bytes
  have hml : c.maxLocals = 8 := hml0
  have hown : s.vm.findClass "com/example/membership/membership/CellCellsInPinLaw" = some m.cls := findClass_of_methodNamed Bd.named
  have hnm := (name_of_methodNamed Bd.named Bd.method).1
  have X0 : Stand p l e room_1 s m #[(.int p0), (.int p1)] below meth c s₁ [] 0 0 := Stand.of_body Bd
  have e0 : s₁.heap = h0 := by rw [← hh, Bd.state]; rfl
  have N0 := Fr.nil n0
  have pre0 : ∀ t, Steps p.tables e below (s₁.setTop (mkF m 0 #[.val (.int p0), .val (.int p1), .unset, .unset, .unset, .unset, .unset, .unset] [])) t → Steps p.tables e below (s₁.setTop (entryFrame m #[(.int p0), (.int p1)] maxLocals)) t := fun t k => castTop (ef_0 m p0 p1) k
  have pre4 : ∀ t, Steps p.tables e below (s₁.setTop (mkF m 3 #[.val (.int p0), .val (.int p1), .unset, .unset, .unset, .unset, .unset, .unset] [(.int (p1 &&& (1 : Int32)))])) t → Steps p.tables e below (s₁.setTop (entryFrame m #[(.int p0), (.int p1)] maxLocals)) t := by
    intro t k
    refine pre0 t ?_
    show Steps p.tables e below (s₁.setTop (mkF m 0 #[.val (.int p0), .val (.int p1), .unset, .unset, .unset, .unset, .unset, .unset] [])) _
    refine XS.iloadN X0.here hx rfl (hb hby at_0) rfl ?_
    show Steps p.tables e below (s₁.setTop (mkF m 1 #[.val (.int p0), .val (.int p1), .unset, .unset, .unset, .unset, .unset, .unset] [(.int p1)])) _
    refine XS.iconst X0.here hx rfl (hb hby at_1) ?_
    show Steps p.tables e below (s₁.setTop (mkF m 2 #[.val (.int p0), .val (.int p1), .unset, .unset, .unset, .unset, .unset, .unset] [(.int (1 : Int32)), (.int p1)])) _
    refine XS.iand X0.here hx rfl (hb hby at_2) rfl ?_
    show Steps p.tables e below (s₁.setTop (mkF m 3 #[.val (.int p0), .val (.int p1), .unset, .unset, .unset, .unset, .unset, .unset] [(.int (p1 &&& (1 : Int32)))])) _
    exact k
  obtain ⟨v8, pre9, hv8⟩ : ∃ (v8 : Int32), (∀ t, Steps p.tables e below (s₁.setTop (mkF m 11 #[.val (.int p0), .val (.int p1), .unset, .unset, .unset, .unset, .unset, .unset] [(.int v8)])) t → Steps p.tables e below (s₁.setTop (entryFrame m #[(.int p0), (.int p1)] maxLocals)) t) ∧ v8 = (if (p1 &&& (1 : Int32)) = (0 : Int32) then (1 : Int32) else (0 : Int32)) := by
    by_cases hc3_5 : (p1 &&& (1 : Int32)) = (0 : Int32)
    · have pre6 : ∀ t, Steps p.tables e below (s₁.setTop (mkF m 11 #[.val (.int p0), .val (.int p1), .unset, .unset, .unset, .unset, .unset, .unset] [(.int (1 : Int32))])) t → Steps p.tables e below (s₁.setTop (entryFrame m #[(.int p0), (.int p1)] maxLocals)) t := by
        intro t k
        refine pre4 t ?_
        show Steps p.tables e below (s₁.setTop (mkF m 3 #[.val (.int p0), .val (.int p1), .unset, .unset, .unset, .unset, .unset, .unset] [(.int (p1 &&& (1 : Int32)))])) _
        refine XS.ifNo X0.here hx rfl (hb hby at_3) rfl ((if0 _ _).trans (teq hc3_5).2) ?_
        show Steps p.tables e below (s₁.setTop (mkF m 6 #[.val (.int p0), .val (.int p1), .unset, .unset, .unset, .unset, .unset, .unset] [])) _
        refine XS.iconst X0.here hx rfl (hb hby at_6) ?_
        show Steps p.tables e below (s₁.setTop (mkF m 7 #[.val (.int p0), .val (.int p1), .unset, .unset, .unset, .unset, .unset, .unset] [(.int (1 : Int32))])) _
        refine XS.goto X0.here hx rfl (pc0 := 7) (pc' := 11) rfl (hb hby at_7) (by decide) (by decide) ?_
        show Steps p.tables e below (s₁.setTop (mkF m 11 #[.val (.int p0), .val (.int p1), .unset, .unset, .unset, .unset, .unset, .unset] [(.int (1 : Int32))])) _
        exact k
      exact ⟨(1 : Int32), pre6, by rw [if_pos hc3_5]⟩
    · have pre7 : ∀ t, Steps p.tables e below (s₁.setTop (mkF m 11 #[.val (.int p0), .val (.int p1), .unset, .unset, .unset, .unset, .unset, .unset] [(.int (0 : Int32))])) t → Steps p.tables e below (s₁.setTop (entryFrame m #[(.int p0), (.int p1)] maxLocals)) t := by
        intro t k
        refine pre4 t ?_
        show Steps p.tables e below (s₁.setTop (mkF m 3 #[.val (.int p0), .val (.int p1), .unset, .unset, .unset, .unset, .unset, .unset] [(.int (p1 &&& (1 : Int32)))])) _
        refine XS.ifYes X0.here hx rfl (pc0 := 3) (pc' := 10) rfl (hb hby at_3) rfl ((if0 _ _).trans (feq hc3_5).2) (by decide) (by decide) ?_
        show Steps p.tables e below (s₁.setTop (mkF m 10 #[.val (.int p0), .val (.int p1), .unset, .unset, .unset, .unset, .unset, .unset] [])) _
        refine XS.iconst X0.here hx rfl (hb hby at_10) ?_
        show Steps p.tables e below (s₁.setTop (mkF m 11 #[.val (.int p0), .val (.int p1), .unset, .unset, .unset, .unset, .unset, .unset] [(.int (0 : Int32))])) _
        exact k
      exact ⟨(0 : Int32), pre7, by rw [if_neg hc3_5]⟩
  have pre10 : ∀ t, Steps p.tables e below (s₁.setTop (mkF m 13 #[.val (.int p0), .val (.int p1), .val (.int v8), .unset, .unset, .unset, .unset, .unset] [(.int v8)])) t → Steps p.tables e below (s₁.setTop (entryFrame m #[(.int p0), (.int p1)] maxLocals)) t := by
    intro t k
    refine pre9 t ?_
    show Steps p.tables e below (s₁.setTop (mkF m 11 #[.val (.int p0), .val (.int p1), .unset, .unset, .unset, .unset, .unset, .unset] [(.int v8)])) _
    refine XS.istoreN X0.here hx rfl (hb hby at_11) rfl (l' := #[.val (.int p0), .val (.int p1), .val (.int v8), .unset, .unset, .unset, .unset, .unset]) rfl ?_
    show Steps p.tables e below (s₁.setTop (mkF m 12 #[.val (.int p0), .val (.int p1), .val (.int v8), .unset, .unset, .unset, .unset, .unset] [])) _
    refine XS.iloadN X0.here hx rfl (hb hby at_12) rfl ?_
    show Steps p.tables e below (s₁.setTop (mkF m 13 #[.val (.int p0), .val (.int p1), .val (.int v8), .unset, .unset, .unset, .unset, .unset] [(.int v8)])) _
    exact k
  by_cases hc13_11 : v8 = (0 : Int32)
  · have pre12 : ∀ t, Steps p.tables e below (s₁.setTop (mkF m 22 #[.val (.int p0), .val (.int p1), .val (.int v8), .unset, .unset, .unset, .unset, .unset] [])) t → Steps p.tables e below (s₁.setTop (entryFrame m #[(.int p0), (.int p1)] maxLocals)) t := by
      intro t k
      refine pre10 t ?_
      show Steps p.tables e below (s₁.setTop (mkF m 13 #[.val (.int p0), .val (.int p1), .val (.int v8), .unset, .unset, .unset, .unset, .unset] [(.int v8)])) _
      refine XS.ifYes X0.here hx rfl (pc0 := 13) (pc' := 22) rfl (hb hby at_13) rfl ((if0 _ _).trans (teq hc13_11).1) (by decide) (by decide) ?_
      show Steps p.tables e below (s₁.setTop (mkF m 22 #[.val (.int p0), .val (.int p1), .val (.int v8), .unset, .unset, .unset, .unset, .unset] [])) _
      exact k
    obtain ⟨T13, X13, e13, st13⟩ := getS2 X0 hx hZ hown (host := "") (Or.inl (hw _ (List.mem_of_getElem? (i := 0) rfl))) Via.refl e0 S_COUNTER (g := (mkF m 22 #[.val (.int p0), .val (.int p1), .val (.int v8), .unset, .unset, .unset, .unset, .unset] [])) rfl (hb hby at_22)
    have pre14 : ∀ t, Steps p.tables e below (T13.setTop (mkF m 25 #[.val (.int p0), .val (.int p1), .val (.int v8), .unset, .unset, .unset, .unset, .unset] [(.ref s_COUNTER)])) t → Steps p.tables e below (s₁.setTop (entryFrame m #[(.int p0), (.int p1)] maxLocals)) t := fun t k => pre12 t (st13 t k)
    have pre15 : ∀ t, Steps p.tables e below (T13.setTop (mkF m 46 #[.val (.int p0), .val (.int p1), .val (.int v8), .val (.ref s_COUNTER), .val (.long (16 : Int64)), .second, .unset, .unset] [(.long ((p0.toInt64) * (16 : Int64)))])) t → Steps p.tables e below (s₁.setTop (entryFrame m #[(.int p0), (.int p1)] maxLocals)) t := by
      intro t k
      refine pre14 t ?_
      show Steps p.tables e below (T13.setTop (mkF m 25 #[.val (.int p0), .val (.int p1), .val (.int v8), .unset, .unset, .unset, .unset, .unset] [(.ref s_COUNTER)])) _
      refine XS.astoreN X13.here hx rfl (hb hby at_25) rfl rfl (l' := #[.val (.int p0), .val (.int p1), .val (.int v8), .val (.ref s_COUNTER), .unset, .unset, .unset, .unset]) rfl ?_
      show Steps p.tables e below (T13.setTop (mkF m 26 #[.val (.int p0), .val (.int p1), .val (.int v8), .val (.ref s_COUNTER), .unset, .unset, .unset, .unset] [])) _
      refine XS.iloadN X13.here hx rfl (hb hby at_26) rfl ?_
      show Steps p.tables e below (T13.setTop (mkF m 27 #[.val (.int p0), .val (.int p1), .val (.int v8), .val (.ref s_COUNTER), .unset, .unset, .unset, .unset] [(.int v8)])) _
      show Steps p.tables e below (T13.setTop (mkF m 27 #[.val (.int p0), .val (.int p1), .val (.int v8), .val (.ref s_COUNTER), .unset, .unset, .unset, .unset] [(.int v8)])) _
      refine XS.ifYes X13.here hx rfl (pc0 := 27) (pc' := 36) rfl (hb hby at_27) rfl ((if0 _ _).trans (teq hc13_11).1) (by decide) (by decide) ?_
      show Steps p.tables e below (T13.setTop (mkF m 36 #[.val (.int p0), .val (.int p1), .val (.int v8), .val (.ref s_COUNTER), .unset, .unset, .unset, .unset] [])) _
      refine X13.ldc2Long hx hown (mvT hZ (hw _ (List.mem_of_getElem? (i := 3) rfl))) (g := (mkF m 36 #[.val (.int p0), .val (.int p1), .val (.int v8), .val (.ref s_COUNTER), .unset, .unset, .unset, .unset] [])) rfl (hb hby at_36) _ ?_
      show Steps p.tables e below (T13.setTop (mkF m 39 #[.val (.int p0), .val (.int p1), .val (.int v8), .val (.ref s_COUNTER), .unset, .unset, .unset, .unset] [(.long (16 : Int64))])) _
      refine XS.lstore X13.here hx rfl (hb hby at_39) rfl (l' := #[.val (.int p0), .val (.int p1), .val (.int v8), .val (.ref s_COUNTER), .val (.long (16 : Int64)), .second, .unset, .unset]) rfl ?_
      show Steps p.tables e below (T13.setTop (mkF m 41 #[.val (.int p0), .val (.int p1), .val (.int v8), .val (.ref s_COUNTER), .val (.long (16 : Int64)), .second, .unset, .unset] [])) _
      refine XS.iloadN X13.here hx rfl (hb hby at_41) rfl ?_
      show Steps p.tables e below (T13.setTop (mkF m 42 #[.val (.int p0), .val (.int p1), .val (.int v8), .val (.ref s_COUNTER), .val (.long (16 : Int64)), .second, .unset, .unset] [(.int p0)])) _
      refine XS.i2l X13.here hx rfl (hb hby at_42) rfl ?_
      show Steps p.tables e below (T13.setTop (mkF m 43 #[.val (.int p0), .val (.int p1), .val (.int v8), .val (.ref s_COUNTER), .val (.long (16 : Int64)), .second, .unset, .unset] [(.long (p0.toInt64))])) _
      refine XS.lload X13.here hx rfl (hb hby at_43) rfl ?_
      show Steps p.tables e below (T13.setTop (mkF m 45 #[.val (.int p0), .val (.int p1), .val (.int v8), .val (.ref s_COUNTER), .val (.long (16 : Int64)), .second, .unset, .unset] [(.long (16 : Int64)), (.long (p0.toInt64))])) _
      refine XS.lmul X13.here hx rfl (hb hby at_45) rfl ?_
      show Steps p.tables e below (T13.setTop (mkF m 46 #[.val (.int p0), .val (.int p1), .val (.int v8), .val (.ref s_COUNTER), .val (.long (16 : Int64)), .second, .unset, .unset] [(.long ((p0.toInt64) * (16 : Int64)))])) _
      exact k
    obtain ⟨u16, hu16⟩ : ∃ z : Int64, z = ((p0.toInt64) * (16 : Int64)) := ⟨_, rfl⟩
    have pre17 : ∀ t, Steps p.tables e below (T13.setTop (mkF m 46 #[.val (.int p0), .val (.int p1), .val (.int v8), .val (.ref s_COUNTER), .val (.long (16 : Int64)), .second, .unset, .unset] [(.long u16)])) t → Steps p.tables e below (s₁.setTop (entryFrame m #[(.int p0), (.int p1)] maxLocals)) t := by rw [hu16]; exact pre15
    have pre18 : ∀ t, Steps p.tables e below (T13.setTop (mkF m 50 #[.val (.int p0), .val (.int p1), .val (.int v8), .val (.ref s_COUNTER), .val (.long (16 : Int64)), .second, .val (.long u16), .second] [(.int p0), (.ref s_COUNTER)])) t → Steps p.tables e below (s₁.setTop (entryFrame m #[(.int p0), (.int p1)] maxLocals)) t := by
      intro t k
      refine pre17 t ?_
      show Steps p.tables e below (T13.setTop (mkF m 46 #[.val (.int p0), .val (.int p1), .val (.int v8), .val (.ref s_COUNTER), .val (.long (16 : Int64)), .second, .unset, .unset] [(.long u16)])) _
      refine XS.lstore X13.here hx rfl (hb hby at_46) rfl (l' := #[.val (.int p0), .val (.int p1), .val (.int v8), .val (.ref s_COUNTER), .val (.long (16 : Int64)), .second, .val (.long u16), .second]) rfl ?_
      show Steps p.tables e below (T13.setTop (mkF m 48 #[.val (.int p0), .val (.int p1), .val (.int v8), .val (.ref s_COUNTER), .val (.long (16 : Int64)), .second, .val (.long u16), .second] [])) _
      refine XS.aloadN X13.here hx rfl (hb hby at_48) rfl rfl ?_
      show Steps p.tables e below (T13.setTop (mkF m 49 #[.val (.int p0), .val (.int p1), .val (.int v8), .val (.ref s_COUNTER), .val (.long (16 : Int64)), .second, .val (.long u16), .second] [(.ref s_COUNTER)])) _
      refine XS.iloadN X13.here hx rfl (hb hby at_49) rfl ?_
      show Steps p.tables e below (T13.setTop (mkF m 50 #[.val (.int p0), .val (.int p1), .val (.int v8), .val (.ref s_COUNTER), .val (.long (16 : Int64)), .second, .val (.long u16), .second] [(.int p0), (.ref s_COUNTER)])) _
      exact k
    obtain ⟨cq19, kq19, q19a, q19b, q19c⟩ := isOf hZ e13 E_s_COUNTER
    obtain ⟨_, _, ⟨T19, L19, k19, n19⟩, -, X19, ⟨Lc19, hQ19, l19, y19, z19⟩, st19⟩ := X13.virtualBack hx (y := (⟨"com/example/membership/membership/BloomShape$Cell", "cellsIn", "(I)J"⟩ : MethodName)) (z := (⟨"com/example/membership/membership/BloomShape$Cell", "cellsIn", "(I)J"⟩ : MethodName)) hown (mvT hZ (hw _ (List.mem_of_getElem? (i := 4) rfl))) (mvT hZ (hw _ (List.mem_of_getElem? (i := 5) rfl))) (notFace_of_selects (args := #[]) (mvT hZ (hw _ (List.mem_of_getElem? (i := 7) rfl)))) (mvT hZ (hw _ (List.mem_of_getElem? (i := 7) rfl))) (mvT hZ (hw _ (List.mem_of_getElem? (i := 6) rfl))) (by decide) (backOf (W := 0) (rm1 l Z ar0 hw [] s_COUNTER p0 (4 : Int32) h0 n0 Z0 F_width_s_COUNTER (by decide)) hZ (hw _ (List.mem_of_getElem? (i := 8) rfl)) (hw _ (List.mem_of_getElem? (i := 1) rfl)) (by decide) (by decide)) q19a q19c (g := (mkF m 50 #[.val (.int p0), .val (.int p1), .val (.int v8), .val (.ref s_COUNTER), .val (.long (16 : Int64)), .second, .val (.long u16), .second] [(.int p0), (.ref s_COUNTER)])) rfl (by rw [hml]; rfl) (Steps.refl _) (argsL := [(.int p0)]) (rest := []) (lenOf pd_0 rfl) rfl (by show 2 * 0 + _ ≤ _; exact Nat.le_of_eq rfl) (hb hby at_50) (fun _ _ => ⟨rfl, e13, (by decide : 0 + 0 ≤ _), (by decide : 0 + 0 ≤ _)⟩)
    dsimp only [Pt.U, Pt.locs, Pt.cells, Pt.slots] at X19 l19 y19 z19 st19 hQ19
    subst l19 y19 z19
    obtain ⟨rfl, N19q, e19⟩ := hQ19
    have N19 := Fr.app N0 N19q
    have pre20 : ∀ t, Steps p.tables e below (T19.setTop (mkF m 53 #[.val (.int p0), .val (.int p1), .val (.int v8), .val (.ref s_COUNTER), .val (.long (16 : Int64)), .second, .val (.long u16), .second] [(.long (((p0.toInt64) * (64 : Int64)) / ((4 : Int32).toInt64)))])) t → Steps p.tables e below (s₁.setTop (entryFrame m #[(.int p0), (.int p1)] maxLocals)) t := fun t k => pre18 t (st19.trans k)
    have pre21 : ∀ t, Steps p.tables e below (T19.setTop (mkF m 56 #[.val (.int p0), .val (.int p1), .val (.int v8), .val (.ref s_COUNTER), .val (.long (16 : Int64)), .second, .val (.long u16), .second] [(.int (lcmpW (((p0.toInt64) * (64 : Int64)) / ((4 : Int32).toInt64)) u16))])) t → Steps p.tables e below (s₁.setTop (entryFrame m #[(.int p0), (.int p1)] maxLocals)) t := by
      intro t k
      refine pre20 t ?_
      show Steps p.tables e below (T19.setTop (mkF m 53 #[.val (.int p0), .val (.int p1), .val (.int v8), .val (.ref s_COUNTER), .val (.long (16 : Int64)), .second, .val (.long u16), .second] [(.long (((p0.toInt64) * (64 : Int64)) / ((4 : Int32).toInt64)))])) _
      refine XS.lload X19.here hx rfl (hb hby at_53) rfl ?_
      show Steps p.tables e below (T19.setTop (mkF m 55 #[.val (.int p0), .val (.int p1), .val (.int v8), .val (.ref s_COUNTER), .val (.long (16 : Int64)), .second, .val (.long u16), .second] [(.long u16), (.long (((p0.toInt64) * (64 : Int64)) / ((4 : Int32).toInt64)))])) _
      refine XS.lcmp X19.here hx rfl (hb hby at_55) rfl ?_
      show Steps p.tables e below (T19.setTop (mkF m 56 #[.val (.int p0), .val (.int p1), .val (.int v8), .val (.ref s_COUNTER), .val (.long (16 : Int64)), .second, .val (.long u16), .second] [(.int (lcmpW (((p0.toInt64) * (64 : Int64)) / ((4 : Int32).toInt64)) u16))])) _
      exact k
    by_cases hc56_22 : (((p0.toInt64) * (64 : Int64)) / ((4 : Int32).toInt64)) = u16
    · obtain ⟨fs, hr, hrun, hended, hW, hsame⟩ := X19.leave (v := some (.int (1 : Int32))) (fun h => by rw [Bd.returns] at h; cases h)
      refine ⟨_, _, pre21 _ ?_, hrun, hended, _, _, rfl, ?_, ⟨_, rfl⟩, hW, hsame.mono (by decide) (by decide)⟩
      · show Steps p.tables e below (T19.setTop (mkF m 56 #[.val (.int p0), .val (.int p1), .val (.int v8), .val (.ref s_COUNTER), .val (.long (16 : Int64)), .second, .val (.long u16), .second] [(.int (lcmpW (((p0.toInt64) * (64 : Int64)) / ((4 : Int32).toInt64)) u16))])) _
        refine XS.ifNo X19.here hx rfl (hb hby at_56) rfl ((if0 _ _).trans (teq (own_eqL hc56_22)).2) ?_
        show Steps p.tables e below (T19.setTop (mkF m 59 #[.val (.int p0), .val (.int p1), .val (.int v8), .val (.ref s_COUNTER), .val (.long (16 : Int64)), .second, .val (.long u16), .second] [])) _
        refine XS.iconst X19.here hx rfl (hb hby at_59) ?_
        show Steps p.tables e below (T19.setTop (mkF m 60 #[.val (.int p0), .val (.int p1), .val (.int v8), .val (.ref s_COUNTER), .val (.long (16 : Int64)), .second, .val (.long u16), .second] [(.int (1 : Int32))])) _
        refine XS.goto X19.here hx rfl (pc0 := 60) (pc' := 64) rfl (hb hby at_60) (by decide) (by decide) ?_
        show Steps p.tables e below (T19.setTop (mkF m 64 #[.val (.int p0), .val (.int p1), .val (.int v8), .val (.ref s_COUNTER), .val (.long (16 : Int64)), .second, .val (.long u16), .second] [(.int (1 : Int32))])) _
        exact retN X19 hx (t := .boolean) Bd.returns (by simp) (hb hby at_64) hr
      · show Q0 Z p0 p1 s_COUNTER s_BIT h0 n0 _ T19.heap _
        rw [e19]
        exact ⟨rfl, N19⟩
    · have pre23 : ∀ t, Steps p.tables e below (T19.setTop (mkF m 64 #[.val (.int p0), .val (.int p1), .val (.int v8), .val (.ref s_COUNTER), .val (.long (16 : Int64)), .second, .val (.long u16), .second] [(.int (0 : Int32))])) t → Steps p.tables e below (s₁.setTop (entryFrame m #[(.int p0), (.int p1)] maxLocals)) t := by
        intro t k
        refine pre21 t ?_
        show Steps p.tables e below (T19.setTop (mkF m 56 #[.val (.int p0), .val (.int p1), .val (.int v8), .val (.ref s_COUNTER), .val (.long (16 : Int64)), .second, .val (.long u16), .second] [(.int (lcmpW (((p0.toInt64) * (64 : Int64)) / ((4 : Int32).toInt64)) u16))])) _
        refine XS.ifYes X19.here hx rfl (pc0 := 56) (pc' := 63) rfl (hb hby at_56) rfl ((if0 _ _).trans (feq (own_neL hc56_22)).2) (by decide) (by decide) ?_
        show Steps p.tables e below (T19.setTop (mkF m 63 #[.val (.int p0), .val (.int p1), .val (.int v8), .val (.ref s_COUNTER), .val (.long (16 : Int64)), .second, .val (.long u16), .second] [])) _
        refine XS.iconst X19.here hx rfl (hb hby at_63) ?_
        show Steps p.tables e below (T19.setTop (mkF m 64 #[.val (.int p0), .val (.int p1), .val (.int v8), .val (.ref s_COUNTER), .val (.long (16 : Int64)), .second, .val (.long u16), .second] [(.int (0 : Int32))])) _
        exact k
      exact (own_leaf1 hv8 hc13_11 hu16 hc56_22).elim
  · have pre24 : ∀ t, Steps p.tables e below (s₁.setTop (mkF m 16 #[.val (.int p0), .val (.int p1), .val (.int v8), .unset, .unset, .unset, .unset, .unset] [])) t → Steps p.tables e below (s₁.setTop (entryFrame m #[(.int p0), (.int p1)] maxLocals)) t := by
      intro t k
      refine pre10 t ?_
      show Steps p.tables e below (s₁.setTop (mkF m 13 #[.val (.int p0), .val (.int p1), .val (.int v8), .unset, .unset, .unset, .unset, .unset] [(.int v8)])) _
      refine XS.ifNo X0.here hx rfl (hb hby at_13) rfl ((if0 _ _).trans (feq hc13_11).1) ?_
      show Steps p.tables e below (s₁.setTop (mkF m 16 #[.val (.int p0), .val (.int p1), .val (.int v8), .unset, .unset, .unset, .unset, .unset] [])) _
      exact k
    obtain ⟨T25, X25, e25, st25⟩ := getS2 X0 hx hZ hown (host := "") (Or.inl (hw _ (List.mem_of_getElem? (i := 12) rfl))) Via.refl e0 S_BIT (g := (mkF m 16 #[.val (.int p0), .val (.int p1), .val (.int v8), .unset, .unset, .unset, .unset, .unset] [])) rfl (hb hby at_16)
    have pre26 : ∀ t, Steps p.tables e below (T25.setTop (mkF m 19 #[.val (.int p0), .val (.int p1), .val (.int v8), .unset, .unset, .unset, .unset, .unset] [(.ref s_BIT)])) t → Steps p.tables e below (s₁.setTop (entryFrame m #[(.int p0), (.int p1)] maxLocals)) t := fun t k => pre24 t (st25 t k)
    have pre27 : ∀ t, Steps p.tables e below (T25.setTop (mkF m 46 #[.val (.int p0), .val (.int p1), .val (.int v8), .val (.ref s_BIT), .val (.long (64 : Int64)), .second, .unset, .unset] [(.long ((p0.toInt64) * (64 : Int64)))])) t → Steps p.tables e below (s₁.setTop (entryFrame m #[(.int p0), (.int p1)] maxLocals)) t := by
      intro t k
      refine pre26 t ?_
      show Steps p.tables e below (T25.setTop (mkF m 19 #[.val (.int p0), .val (.int p1), .val (.int v8), .unset, .unset, .unset, .unset, .unset] [(.ref s_BIT)])) _
      refine XS.goto X25.here hx rfl (pc0 := 19) (pc' := 25) rfl (hb hby at_19) (by decide) (by decide) ?_
      show Steps p.tables e below (T25.setTop (mkF m 25 #[.val (.int p0), .val (.int p1), .val (.int v8), .unset, .unset, .unset, .unset, .unset] [(.ref s_BIT)])) _
      refine XS.astoreN X25.here hx rfl (hb hby at_25) rfl rfl (l' := #[.val (.int p0), .val (.int p1), .val (.int v8), .val (.ref s_BIT), .unset, .unset, .unset, .unset]) rfl ?_
      show Steps p.tables e below (T25.setTop (mkF m 26 #[.val (.int p0), .val (.int p1), .val (.int v8), .val (.ref s_BIT), .unset, .unset, .unset, .unset] [])) _
      refine XS.iloadN X25.here hx rfl (hb hby at_26) rfl ?_
      show Steps p.tables e below (T25.setTop (mkF m 27 #[.val (.int p0), .val (.int p1), .val (.int v8), .val (.ref s_BIT), .unset, .unset, .unset, .unset] [(.int v8)])) _
      show Steps p.tables e below (T25.setTop (mkF m 27 #[.val (.int p0), .val (.int p1), .val (.int v8), .val (.ref s_BIT), .unset, .unset, .unset, .unset] [(.int v8)])) _
      refine XS.ifNo X25.here hx rfl (hb hby at_27) rfl ((if0 _ _).trans (feq hc13_11).1) ?_
      show Steps p.tables e below (T25.setTop (mkF m 30 #[.val (.int p0), .val (.int p1), .val (.int v8), .val (.ref s_BIT), .unset, .unset, .unset, .unset] [])) _
      refine X25.ldc2Long hx hown (mvT hZ (hw _ (List.mem_of_getElem? (i := 14) rfl))) (g := (mkF m 30 #[.val (.int p0), .val (.int p1), .val (.int v8), .val (.ref s_BIT), .unset, .unset, .unset, .unset] [])) rfl (hb hby at_30) _ ?_
      show Steps p.tables e below (T25.setTop (mkF m 33 #[.val (.int p0), .val (.int p1), .val (.int v8), .val (.ref s_BIT), .unset, .unset, .unset, .unset] [(.long (64 : Int64))])) _
      refine XS.goto X25.here hx rfl (pc0 := 33) (pc' := 39) rfl (hb hby at_33) (by decide) (by decide) ?_
      show Steps p.tables e below (T25.setTop (mkF m 39 #[.val (.int p0), .val (.int p1), .val (.int v8), .val (.ref s_BIT), .unset, .unset, .unset, .unset] [(.long (64 : Int64))])) _
      refine XS.lstore X25.here hx rfl (hb hby at_39) rfl (l' := #[.val (.int p0), .val (.int p1), .val (.int v8), .val (.ref s_BIT), .val (.long (64 : Int64)), .second, .unset, .unset]) rfl ?_
      show Steps p.tables e below (T25.setTop (mkF m 41 #[.val (.int p0), .val (.int p1), .val (.int v8), .val (.ref s_BIT), .val (.long (64 : Int64)), .second, .unset, .unset] [])) _
      refine XS.iloadN X25.here hx rfl (hb hby at_41) rfl ?_
      show Steps p.tables e below (T25.setTop (mkF m 42 #[.val (.int p0), .val (.int p1), .val (.int v8), .val (.ref s_BIT), .val (.long (64 : Int64)), .second, .unset, .unset] [(.int p0)])) _
      refine XS.i2l X25.here hx rfl (hb hby at_42) rfl ?_
      show Steps p.tables e below (T25.setTop (mkF m 43 #[.val (.int p0), .val (.int p1), .val (.int v8), .val (.ref s_BIT), .val (.long (64 : Int64)), .second, .unset, .unset] [(.long (p0.toInt64))])) _
      refine XS.lload X25.here hx rfl (hb hby at_43) rfl ?_
      show Steps p.tables e below (T25.setTop (mkF m 45 #[.val (.int p0), .val (.int p1), .val (.int v8), .val (.ref s_BIT), .val (.long (64 : Int64)), .second, .unset, .unset] [(.long (64 : Int64)), (.long (p0.toInt64))])) _
      refine XS.lmul X25.here hx rfl (hb hby at_45) rfl ?_
      show Steps p.tables e below (T25.setTop (mkF m 46 #[.val (.int p0), .val (.int p1), .val (.int v8), .val (.ref s_BIT), .val (.long (64 : Int64)), .second, .unset, .unset] [(.long ((p0.toInt64) * (64 : Int64)))])) _
      exact k
    obtain ⟨u28, hu28⟩ : ∃ z : Int64, z = ((p0.toInt64) * (64 : Int64)) := ⟨_, rfl⟩
    have pre29 : ∀ t, Steps p.tables e below (T25.setTop (mkF m 46 #[.val (.int p0), .val (.int p1), .val (.int v8), .val (.ref s_BIT), .val (.long (64 : Int64)), .second, .unset, .unset] [(.long u28)])) t → Steps p.tables e below (s₁.setTop (entryFrame m #[(.int p0), (.int p1)] maxLocals)) t := by rw [hu28]; exact pre27
    have pre30 : ∀ t, Steps p.tables e below (T25.setTop (mkF m 50 #[.val (.int p0), .val (.int p1), .val (.int v8), .val (.ref s_BIT), .val (.long (64 : Int64)), .second, .val (.long u28), .second] [(.int p0), (.ref s_BIT)])) t → Steps p.tables e below (s₁.setTop (entryFrame m #[(.int p0), (.int p1)] maxLocals)) t := by
      intro t k
      refine pre29 t ?_
      show Steps p.tables e below (T25.setTop (mkF m 46 #[.val (.int p0), .val (.int p1), .val (.int v8), .val (.ref s_BIT), .val (.long (64 : Int64)), .second, .unset, .unset] [(.long u28)])) _
      refine XS.lstore X25.here hx rfl (hb hby at_46) rfl (l' := #[.val (.int p0), .val (.int p1), .val (.int v8), .val (.ref s_BIT), .val (.long (64 : Int64)), .second, .val (.long u28), .second]) rfl ?_
      show Steps p.tables e below (T25.setTop (mkF m 48 #[.val (.int p0), .val (.int p1), .val (.int v8), .val (.ref s_BIT), .val (.long (64 : Int64)), .second, .val (.long u28), .second] [])) _
      refine XS.aloadN X25.here hx rfl (hb hby at_48) rfl rfl ?_
      show Steps p.tables e below (T25.setTop (mkF m 49 #[.val (.int p0), .val (.int p1), .val (.int v8), .val (.ref s_BIT), .val (.long (64 : Int64)), .second, .val (.long u28), .second] [(.ref s_BIT)])) _
      refine XS.iloadN X25.here hx rfl (hb hby at_49) rfl ?_
      show Steps p.tables e below (T25.setTop (mkF m 50 #[.val (.int p0), .val (.int p1), .val (.int v8), .val (.ref s_BIT), .val (.long (64 : Int64)), .second, .val (.long u28), .second] [(.int p0), (.ref s_BIT)])) _
      exact k
    obtain ⟨cq31, kq31, q31a, q31b, q31c⟩ := isOf hZ e25 E_s_BIT
    obtain ⟨_, _, ⟨T31, L31, k31, n31⟩, -, X31, ⟨Lc31, hQ31, l31, y31, z31⟩, st31⟩ := X25.virtualBack hx (y := (⟨"com/example/membership/membership/BloomShape$Cell", "cellsIn", "(I)J"⟩ : MethodName)) (z := (⟨"com/example/membership/membership/BloomShape$Cell", "cellsIn", "(I)J"⟩ : MethodName)) hown (mvT hZ (hw _ (List.mem_of_getElem? (i := 4) rfl))) (mvT hZ (hw _ (List.mem_of_getElem? (i := 5) rfl))) (notFace_of_selects (args := #[]) (mvT hZ (hw _ (List.mem_of_getElem? (i := 7) rfl)))) (mvT hZ (hw _ (List.mem_of_getElem? (i := 7) rfl))) (mvT hZ (hw _ (List.mem_of_getElem? (i := 6) rfl))) (by decide) (backOf (W := 0) (rm1 l Z ar0 hw [] s_BIT p0 (1 : Int32) h0 n0 Z0 F_width_s_BIT (by decide)) hZ (hw _ (List.mem_of_getElem? (i := 8) rfl)) (hw _ (List.mem_of_getElem? (i := 1) rfl)) (by decide) (by decide)) q31a q31c (g := (mkF m 50 #[.val (.int p0), .val (.int p1), .val (.int v8), .val (.ref s_BIT), .val (.long (64 : Int64)), .second, .val (.long u28), .second] [(.int p0), (.ref s_BIT)])) rfl (by rw [hml]; rfl) (Steps.refl _) (argsL := [(.int p0)]) (rest := []) (lenOf pd_0 rfl) rfl (by show 2 * 0 + _ ≤ _; exact Nat.le_of_eq rfl) (hb hby at_50) (fun _ _ => ⟨rfl, e25, (by decide : 0 + 0 ≤ _), (by decide : 0 + 0 ≤ _)⟩)
    dsimp only [Pt.U, Pt.locs, Pt.cells, Pt.slots] at X31 l31 y31 z31 st31 hQ31
    subst l31 y31 z31
    obtain ⟨rfl, N31q, e31⟩ := hQ31
    have N31 := Fr.app N0 N31q
    have pre32 : ∀ t, Steps p.tables e below (T31.setTop (mkF m 53 #[.val (.int p0), .val (.int p1), .val (.int v8), .val (.ref s_BIT), .val (.long (64 : Int64)), .second, .val (.long u28), .second] [(.long (((p0.toInt64) * (64 : Int64)) / ((1 : Int32).toInt64)))])) t → Steps p.tables e below (s₁.setTop (entryFrame m #[(.int p0), (.int p1)] maxLocals)) t := fun t k => pre30 t (st31.trans k)
    have pre33 : ∀ t, Steps p.tables e below (T31.setTop (mkF m 56 #[.val (.int p0), .val (.int p1), .val (.int v8), .val (.ref s_BIT), .val (.long (64 : Int64)), .second, .val (.long u28), .second] [(.int (lcmpW (((p0.toInt64) * (64 : Int64)) / ((1 : Int32).toInt64)) u28))])) t → Steps p.tables e below (s₁.setTop (entryFrame m #[(.int p0), (.int p1)] maxLocals)) t := by
      intro t k
      refine pre32 t ?_
      show Steps p.tables e below (T31.setTop (mkF m 53 #[.val (.int p0), .val (.int p1), .val (.int v8), .val (.ref s_BIT), .val (.long (64 : Int64)), .second, .val (.long u28), .second] [(.long (((p0.toInt64) * (64 : Int64)) / ((1 : Int32).toInt64)))])) _
      refine XS.lload X31.here hx rfl (hb hby at_53) rfl ?_
      show Steps p.tables e below (T31.setTop (mkF m 55 #[.val (.int p0), .val (.int p1), .val (.int v8), .val (.ref s_BIT), .val (.long (64 : Int64)), .second, .val (.long u28), .second] [(.long u28), (.long (((p0.toInt64) * (64 : Int64)) / ((1 : Int32).toInt64)))])) _
      refine XS.lcmp X31.here hx rfl (hb hby at_55) rfl ?_
      show Steps p.tables e below (T31.setTop (mkF m 56 #[.val (.int p0), .val (.int p1), .val (.int v8), .val (.ref s_BIT), .val (.long (64 : Int64)), .second, .val (.long u28), .second] [(.int (lcmpW (((p0.toInt64) * (64 : Int64)) / ((1 : Int32).toInt64)) u28))])) _
      exact k
    by_cases hc56_34 : (((p0.toInt64) * (64 : Int64)) / ((1 : Int32).toInt64)) = u28
    · obtain ⟨fs, hr, hrun, hended, hW, hsame⟩ := X31.leave (v := some (.int (1 : Int32))) (fun h => by rw [Bd.returns] at h; cases h)
      refine ⟨_, _, pre33 _ ?_, hrun, hended, _, _, rfl, ?_, ⟨_, rfl⟩, hW, hsame.mono (by decide) (by decide)⟩
      · show Steps p.tables e below (T31.setTop (mkF m 56 #[.val (.int p0), .val (.int p1), .val (.int v8), .val (.ref s_BIT), .val (.long (64 : Int64)), .second, .val (.long u28), .second] [(.int (lcmpW (((p0.toInt64) * (64 : Int64)) / ((1 : Int32).toInt64)) u28))])) _
        refine XS.ifNo X31.here hx rfl (hb hby at_56) rfl ((if0 _ _).trans (teq (own_eqL hc56_34)).2) ?_
        show Steps p.tables e below (T31.setTop (mkF m 59 #[.val (.int p0), .val (.int p1), .val (.int v8), .val (.ref s_BIT), .val (.long (64 : Int64)), .second, .val (.long u28), .second] [])) _
        refine XS.iconst X31.here hx rfl (hb hby at_59) ?_
        show Steps p.tables e below (T31.setTop (mkF m 60 #[.val (.int p0), .val (.int p1), .val (.int v8), .val (.ref s_BIT), .val (.long (64 : Int64)), .second, .val (.long u28), .second] [(.int (1 : Int32))])) _
        refine XS.goto X31.here hx rfl (pc0 := 60) (pc' := 64) rfl (hb hby at_60) (by decide) (by decide) ?_
        show Steps p.tables e below (T31.setTop (mkF m 64 #[.val (.int p0), .val (.int p1), .val (.int v8), .val (.ref s_BIT), .val (.long (64 : Int64)), .second, .val (.long u28), .second] [(.int (1 : Int32))])) _
        exact retN X31 hx (t := .boolean) Bd.returns (by simp) (hb hby at_64) hr
      · show Q0 Z p0 p1 s_COUNTER s_BIT h0 n0 _ T31.heap _
        rw [e31]
        exact ⟨rfl, N31⟩
    · have pre35 : ∀ t, Steps p.tables e below (T31.setTop (mkF m 64 #[.val (.int p0), .val (.int p1), .val (.int v8), .val (.ref s_BIT), .val (.long (64 : Int64)), .second, .val (.long u28), .second] [(.int (0 : Int32))])) t → Steps p.tables e below (s₁.setTop (entryFrame m #[(.int p0), (.int p1)] maxLocals)) t := by
        intro t k
        refine pre33 t ?_
        show Steps p.tables e below (T31.setTop (mkF m 56 #[.val (.int p0), .val (.int p1), .val (.int v8), .val (.ref s_BIT), .val (.long (64 : Int64)), .second, .val (.long u28), .second] [(.int (lcmpW (((p0.toInt64) * (64 : Int64)) / ((1 : Int32).toInt64)) u28))])) _
        refine XS.ifYes X31.here hx rfl (pc0 := 56) (pc' := 63) rfl (hb hby at_56) rfl ((if0 _ _).trans (feq (own_neL hc56_34)).2) (by decide) (by decide) ?_
        show Steps p.tables e below (T31.setTop (mkF m 63 #[.val (.int p0), .val (.int p1), .val (.int v8), .val (.ref s_BIT), .val (.long (64 : Int64)), .second, .val (.long u28), .second] [])) _
        refine XS.iconst X31.here hx rfl (hb hby at_63) ?_
        show Steps p.tables e below (T31.setTop (mkF m 64 #[.val (.int p0), .val (.int p1), .val (.int v8), .val (.ref s_BIT), .val (.long (64 : Int64)), .second, .val (.long u28), .second] [(.int (0 : Int32))])) _
        exact k
      exact (own_leaf2 hv8 hc13_11 hu28 hc56_34).elim
set_option maxRecDepth 65536 in
set_option maxHeartbeats 40000000 in
theorem comes_1 {Post : Tables → Env → Array Value → State → Outcome → State → Prop} (hpost : ∀ tb e args s v u, (limb_1_1.after args s (.returned v) u = true ∧ limb_1_2.after args s (.returned v) u = true ∧ True) → FrameEnd s (.returned v) u (Jvm.fieldLocs frame_1_writes args s ++ Jvm.arrayLocs frame_1_arrays args s ++ Jvm.staticLocs frame_1_statics s) 0 0 → Post tb e args s (.returned v) u) :
    ArmFor flags0 classFile x code maxLocals ret World_1 tables_1 room_1 Calls_1 rest_1 Pre_1 Post := by
  intro l hfl _ _ p e ha hc hk s m args below hf hA hF happ hP
  obtain ⟨hcalls, hrest, hpre⟩ := hP
  obtain ⟨-, -, -, hnamed, -, -, -, hat⟩ := (Spec.applies_iff hf).mp happ
  obtain ⟨hg, hn⟩ := and_e (Cond.before_iff.mp (show (Jvm.Cond.and given_1 narrow_1).before args s = true from hpre))
  obtain ⟨hcount, hg0⟩ := and_e hg
  obtain ⟨ha0, hg1⟩ := and_e hg0
  have ha1 := hg1
  obtain ⟨w0, w1, rfl⟩ : ∃ w0 w1 : Value, args = #[w0, w1] := by
    have hs : args.size = 2 := by simpa [Cond.value, given_1] using hcount
    obtain ⟨L⟩ := args
    match L, hs with
    | [w0, w1], _ => exact ⟨w0, w1, rfl⟩
  have hw := fun d (hd : d ∈ tables_1) => atoms_spec (ws := Jvm.Cond.code x code maxLocals ret :: tables_1) hat d (List.mem_cons_of_mem _ hd)
  have hfit : Fit s := fun {y c} hc i hi => by
    obtain ⟨ha, rfl⟩ := Array.getElem?_eq_some_iff.mp hc
    have q := List.all_eq_true.mp ((Array.all_eq_true_iff_forall_mem.mp hF) _ (Array.getElem_mem ha)) i (List.mem_range.mpr hi)
    simpa [Array.getElem?_eq_getElem hi] using q
  obtain ⟨i0, ei0⟩ := is_v ha0
  obtain rfl : w0 = (.int i0) := Option.some.inj ei0
  obtain ⟨i1, ei1⟩ := is_v ha1
  obtain rfl : w1 = (.int i1) := Option.some.inj ei1
  obtain ⟨hn1a, hn1b⟩ := and_e hn
  obtain ⟨s_COUNTER, hs_COUNTER⟩ := exa_v hn1a
  have S_COUNTER := Sta.start hs_COUNTER (Or.inr ⟨(hw _ (List.mem_of_getElem? (i := 1) rfl)), (hw _ (List.mem_of_getElem? (i := 2) rfl))⟩)
  have E_s_COUNTER := Exa.start hs_COUNTER hn1a
  obtain ⟨hn2a, hn2b⟩ := and_e hn1b
  have F_width_s_COUNTER := Fld.start ((fld_at hs_COUNTER).symm.trans (own_eqI hn2a))
  obtain ⟨hn3a, hn3b⟩ := and_e hn2b
  obtain ⟨s_BIT, hs_BIT⟩ := exa_v hn3a
  have S_BIT := Sta.start hs_BIT (Or.inr ⟨(hw _ (List.mem_of_getElem? (i := 1) rfl)), (hw _ (List.mem_of_getElem? (i := 13) rfl))⟩)
  have E_s_BIT := Exa.start hs_BIT hn3a
  have F_width_s_BIT := Fld.start ((fld_at hs_BIT).symm.trans (own_eqI hn3b))
  obtain ⟨n, o, h1, h2, h3, _, L, rfl, ⟨rfl, N⟩, hq⟩ := rm0 l s _ hw tables_1 i0 i1 s_COUNTER s_BIT s.heap s.heap.size (Nat.le_refl _) S_COUNTER E_s_COUNTER F_width_s_COUNTER S_BIT E_s_BIT F_width_s_BIT p e ha hc hk s m _ below hf ((Spec.applies_iff_loose hf).mp happ).1 ⟨rfl, State.Warmed39.refl s, rfl⟩ trivial
  refine ⟨n, _, h1, h2, h3, hpost _ _ _ _ _ _ ⟨Cond.after_iff.mpr rfl, Cond.after_iff.mpr (eq_i res_at (Term.int_eval (1)) rfl), trivial⟩ ⟨hq.1, hq.2.1, (hq.2.2.sift fun y hy => Or.inr (N y hy)).mono (by decide) (by decide)⟩⟩
theorem main_1_1 : Claimed_1_1 := comes_1 fun _ _ _ _ _ _ h hF => ⟨h.1, hF⟩
theorem main_1_2 : Claimed_1_2 := comes_1 fun _ _ _ _ _ _ h hF => ⟨h.2.1, hF⟩
end Jvm.Pilot.@@N@@
namespace Jvm.Pilot.@@N@@
open Jvm Jvm.ClassFile Sem Op Lib Jvm.Free Jvm.Stand Jvm.Pilot.@@N@@.Jvm.D
/-! MADE BY PROGRAM (witnessworld.py) out of the Statement's table words and the real class files: 12 classes; the members and pool entries that the words name. The judged class is class 1, her method 1. -/
namespace start1
open Jvm.ClassFile
def u (s : String) : CpInfo := .utf8 (stringToUtf16 s)
/-- a pool by its gaps: so many unusable entries, then the entry; so many at the end -/
def gap : Nat → List CpInfo → List CpInfo
  | 0, r => r
  | n + 1, r => .unusable :: gap n r
def poolList (es : List (Nat × CpInfo)) (last : Nat) : List CpInfo := es.foldr (fun e r => gap e.1 (e.2 :: r)) (gap last [])
def pool (es : List (Nat × CpInfo)) (last : Nat) : Array CpInfo := ⟨poolList es last⟩
def fileOf (pool : Array CpInfo) (this : Nat) (attrs : Array Attribute := #[]) (ms : Array MethodInfo := #[]) (fl : Nat := 33) (sup : Nat := 0) (ifs : Array Nat := #[]) (fds : Array FieldInfo := #[]) : ClassFile where
  minorVersion := 0
  majorVersion := 65
  constantPool := pool
  accessFlags := fl
  thisClass := this
  superClass := sup
  interfaces := ifs
  fields := fds
  methods := ms
  attributes := attrs
def plain (name : String) (sup : Option ClassId) : Class where
  name := name
  kind := .ordinary
  loader := none
  accessFlags := 33
  super := sup
  interfaces := #[]
  cf := none
  fields := #[]
  methods := #[]
  instanceTypes := #[]
  staticTypes := #[]
  resolved := #[]
  callSites := []
  init := .initialized
  statics := none
  mirror := none

def pool0 : Array CpInfo := pool [(5, u "<init>"), (0, u "()V"), (1, .class_ 10), (1, u "java/lang/Object")] 113

def k0m0 : Method := { name := "<init>", desc := "()V", sig := { parameters := [], returnType := none }, accessFlags := 1, code := none }
/-- java/lang/Object -/
def k0 : Class := { plain "java/lang/Object" none with
  accessFlags := 33
  interfaces := #[]
  cf := some (fileOf pool0 8 #[] #[{ accessFlags := 1, nameIndex := 5, descriptorIndex := 6, attributes := #[] }] 33 0 #[] #[])
  fields := #[]
  methods := #[k0m0]
  instanceTypes := #[]
  staticTypes := #[]
  resolved := Array.replicate 124 none
  statics := none }

def pool1 : Array CpInfo := pool [(2, .class_ 4), (1, u "java/lang/Object"), (0, u "<init>"), (0, u "()V"), (0, .fieldref 8 9), (0, .class_ 10), (0, .nameAndType 11 12), (0, u "com/example/membership/membership/BloomShape$Cell"), (0, u "BIT"), (0, u "Lcom/example/membership/membership/BloomShape$Cell;"), (0, .fieldref 8 14), (0, .nameAndType 15 12), (0, u "COUNTER"), (0, .long 64), (1, .long 16), (1, .methodref 8 21), (0, .nameAndType 22 23), (0, u "cellsIn"), (0, u "(I)J"), (0, .class_ 25), (0, u "com/example/membership/membership/CellCellsInPinLaw"), (2, u "law"), (0, u "(II)Z")] 7

def k1m0 : Method := { name := "<init>", desc := "()V", sig := { parameters := [], returnType := none }, accessFlags := 1, code := none }
def k1c1 : Code := { maxStack := 4, maxLocals := 8, code := code, exceptionTable := #[], attributes := #[] }
def k1m1 : Method := { name := "law", desc := "(II)Z", sig := { parameters := [.int, .int], returnType := some .boolean }, accessFlags := 9, code := some k1c1 }
/-- com/example/membership/membership/CellCellsInPinLaw -/
def k1 : Class := { plain "com/example/membership/membership/CellCellsInPinLaw" (some 0) with
  accessFlags := 49
  interfaces := #[]
  cf := some (fileOf pool1 24 #[] #[{ accessFlags := 1, nameIndex := 5, descriptorIndex := 6, attributes := #[] }, { accessFlags := 9, nameIndex := 28, descriptorIndex := 29, attributes := #[] }] 49 2 #[] #[])
  fields := #[]
  methods := #[k1m0, k1m1]
  instanceTypes := #[]
  staticTypes := #[]
  resolved := Array.replicate 37 none
  statics := none }

def pool2 : Array CpInfo := pool [(1, .class_ 2), (0, u "java/lang/constant/Constable"), (0, .class_ 4), (0, u "java/lang/Object")] 6

/-- java/lang/constant/Constable -/
def k2 : Class := { plain "java/lang/constant/Constable" (some 0) with
  accessFlags := 1537
  interfaces := #[]
  cf := some (fileOf pool2 1 #[] #[] 1537 3 #[] #[])
  fields := #[]
  methods := #[]
  instanceTypes := #[]
  staticTypes := #[]
  resolved := Array.replicate 11 none
  statics := none }

def pool3 : Array CpInfo := pool [(1, .class_ 2), (0, u "java/lang/Comparable"), (0, .class_ 4), (0, u "java/lang/Object")] 7

/-- java/lang/Comparable -/
def k3 : Class := { plain "java/lang/Comparable" (some 0) with
  accessFlags := 1537
  interfaces := #[]
  cf := some (fileOf pool3 1 #[] #[] 1537 3 #[] #[])
  fields := #[]
  methods := #[]
  instanceTypes := #[]
  staticTypes := #[]
  resolved := Array.replicate 12 none
  statics := none }

def pool4 : Array CpInfo := pool [(1, .class_ 2), (0, u "java/io/Serializable"), (0, .class_ 4), (0, u "java/lang/Object")] 2

/-- java/io/Serializable -/
def k4 : Class := { plain "java/io/Serializable" (some 0) with
  accessFlags := 1537
  interfaces := #[]
  cf := some (fileOf pool4 1 #[] #[] 1537 3 #[] #[])
  fields := #[]
  methods := #[]
  instanceTypes := #[]
  staticTypes := #[]
  resolved := Array.replicate 7 none
  statics := none }

def pool5 : Array CpInfo := pool [(2, .class_ 4), (1, u "java/lang/Enum"), (0, u "name"), (0, u "Ljava/lang/String;"), (2, u "ordinal"), (0, u "I"), (1, .class_ 14), (1, u "java/lang/Object"), (4, u "hash"), (86, .class_ 108), (1, u "java/lang/Enum$EnumDesc"), (2, .class_ 112), (0, u "java/lang/constant/Constable"), (0, .class_ 114), (0, u "java/lang/Comparable"), (0, .class_ 116), (0, u "java/io/Serializable")] 87

/-- java/lang/Enum -/
def k5 : Class := { plain "java/lang/Enum" (some 0) with
  accessFlags := 1057
  interfaces := #[2, 3, 4]
  cf := some (fileOf pool5 2 #[.nestMembers #[106]] #[] 1057 12 #[111, 113, 115] #[{ accessFlags := 18, nameIndex := 5, descriptorIndex := 6, attributes := #[] }, { accessFlags := 18, nameIndex := 9, descriptorIndex := 10, attributes := #[] }, { accessFlags := 2, nameIndex := 19, descriptorIndex := 10, attributes := #[] }])
  fields := #[{ name := "name", type := (.object "java/lang/String"), accessFlags := 18, slot := 0, constantValue := 0 }, { name := "ordinal", type := .int, accessFlags := 18, slot := 1, constantValue := 0 }, { name := "hash", type := .int, accessFlags := 2, slot := 2, constantValue := 0 }]
  methods := #[]
  instanceTypes := #[(.object "java/lang/String"), .int, .int]
  staticTypes := #[]
  resolved := Array.replicate 204 none
  statics := none }

def pool6 : Array CpInfo := pool [(1, .class_ 2), (0, u "com/example/membership/membership/BloomShape$Cell"), (2, u "BIT"), (0, u "Lcom/example/membership/membership/BloomShape$Cell;"), (2, u "COUNTER"), (2, u "$VALUES"), (0, u "[Lcom/example/membership/membership/BloomShape$Cell;"), (6, .class_ 22), (1, u "java/lang/Enum"), (6, .fieldref 1 30), (0, .nameAndType 31 32), (0, u "width"), (0, u "I"), (2, u "plural"), (0, u "Ljava/lang/String;"), (6, .long 64), (3, u "max"), (0, u "J"), (23, u "cellsIn"), (0, u "(I)J"), (8, .class_ 83), (0, u "com/example/membership/membership/BloomShape")] 2

def k6c0 : Code := { maxStack := 4, maxLocals := 2, code := prog_4_method_6_code, exceptionTable := #[], attributes := #[] }
def k6m0 : Method := { name := "cellsIn", desc := "(I)J", sig := { parameters := [.int], returnType := some .long }, accessFlags := 0, code := some k6c0 }
/-- com/example/membership/membership/BloomShape$Cell -/
def k6 : Class := { plain "com/example/membership/membership/BloomShape$Cell" (some 5) with
  accessFlags := 16432
  interfaces := #[]
  cf := some (fileOf pool6 1 #[.nestHost 82] #[{ accessFlags := 0, nameIndex := 72, descriptorIndex := 73, attributes := #[] }] 16432 20 #[] #[{ accessFlags := 16409, nameIndex := 5, descriptorIndex := 6, attributes := #[] }, { accessFlags := 16409, nameIndex := 9, descriptorIndex := 6, attributes := #[] }, { accessFlags := 18, nameIndex := 31, descriptorIndex := 32, attributes := #[] }, { accessFlags := 18, nameIndex := 35, descriptorIndex := 36, attributes := #[] }, { accessFlags := 18, nameIndex := 47, descriptorIndex := 48, attributes := #[] }, { accessFlags := 4122, nameIndex := 12, descriptorIndex := 13, attributes := #[] }])
  fields := #[{ name := "BIT", type := (.object "com/example/membership/membership/BloomShape$Cell"), accessFlags := 16409, slot := 0, constantValue := 0 }, { name := "COUNTER", type := (.object "com/example/membership/membership/BloomShape$Cell"), accessFlags := 16409, slot := 1, constantValue := 0 }, { name := "width", type := .int, accessFlags := 18, slot := 3, constantValue := 0 }, { name := "plural", type := (.object "java/lang/String"), accessFlags := 18, slot := 4, constantValue := 0 }, { name := "max", type := .long, accessFlags := 18, slot := 5, constantValue := 0 }, { name := "$VALUES", type := (.array (.object "com/example/membership/membership/BloomShape$Cell")), accessFlags := 4122, slot := 2, constantValue := 0 }]
  methods := #[k6m0]
  instanceTypes := #[(.object "java/lang/String"), .int, .int, .int, (.object "java/lang/String"), .long]
  staticTypes := #[(.object "com/example/membership/membership/BloomShape$Cell"), (.object "com/example/membership/membership/BloomShape$Cell"), (.array (.object "com/example/membership/membership/BloomShape$Cell"))]
  resolved := Array.replicate 86 none
  statics := some 0 }

def pool7 : Array CpInfo := pool [(1, u "java/lang/Cloneable"), (0, .class_ 1), (0, u "java/lang/Object"), (0, .class_ 3)] 3

/-- java/lang/Cloneable -/
def k7 : Class := { plain "java/lang/Cloneable" (some 0) with
  accessFlags := 1537
  interfaces := #[]
  cf := some (fileOf pool7 2 #[] #[] 1537 4 #[] #[])
  fields := #[]
  methods := #[]
  instanceTypes := #[]
  staticTypes := #[]
  resolved := Array.replicate 8 none
  statics := none }

/-- the primitive byte -/
def k8 : Class := { plain "byte" none with kind := .primitive 'B', accessFlags := 0x411 }
/-- [B -/
def k9 : Class := { plain "[B" (some 0) with kind := .array 8 .byte, interfaces := #[7, 4], accessFlags := 1041 }

/-- the primitive int -/
def k10 : Class := { plain "int" none with kind := .primitive 'I', accessFlags := 0x411 }
/-- [I -/
def k11 : Class := { plain "[I" (some 0) with kind := .array 10 .int, interfaces := #[7, 4], accessFlags := 1041 }

def heap : Heap := #[{ cls := 6, slots := #[.ref 1, .ref 2, .null], vm := .statics 6 },
  { cls := 6, slots := #[.null, .int 0, .int 0, .int 1, .null, .long 0], vm := .none },
  { cls := 6, slots := #[.null, .int 1, .int 0, .int 4, .null, .long 0], vm := .none }]
def classes : Array Class := #[k0, k1, k2, k3, k4, k5, k6, k7, k8, k9, k10, k11]
def interned : List (Array UInt16 × Addr) := []
def slotsUsed : Nat := 15
def theMethod : MethodId := ⟨1, 1⟩
def args0 : Array Value := #[.int 5, .int 7]
def aboutOver (below : List Frame) : State where
  vm := { classes := classes, interned := interned.toArray }
  heap := heap
  slotsUsed := slotsUsed
  threads := #[{ frames := .invoking theMethod args0 :: below }]
def below0 : List Frame := [.native { method := ⟨0, 0⟩, args := #[] }]
def about1 : State := aboutOver below0
def p0 : Program := .bare "" "" ""
def e0 : Env := launch0.env 0 0 0
theorem w_frames : about1.frames = Frame.invoking theMethod args0 :: below0 := rfl
set_option maxRecDepth 65536 in
theorem w_args : argsFit about1.vm theMethod args0 = true := by decide +kernel
set_option maxRecDepth 65536 in
theorem w_heap : heapFits about1 = true := by decide +kernel
set_option maxRecDepth 65536 in
theorem w_runnable : about1.curStatus? = some .runnable := by decide +kernel
set_option maxRecDepth 65536 in
theorem w_alone : about1.alone = true := by decide +kernel
set_option maxRecDepth 65536 in
theorem w_named : about1.methodNamed? x = some theMethod := by decide +kernel
set_option maxRecDepth 65536 in
theorem w_hears : about1.hears theMethod below0 = true := by decide +kernel
set_option maxRecDepth 65536 in
theorem w_ripe : about1.ripe theMethod args0 below0 = true := by decide +kernel
theorem w_running : about1.status = .running := rfl
set_option maxRecDepth 65536 in
theorem w_room : about1.hasRoom e0.platform room_1 = true :=
  launch0.hasRoom_least _ room_1 (by decide +kernel) (by decide +kernel) (by decide +kernel) (by decide +kernel) (by decide +kernel) (by decide +kernel)
theorem allAtoms_all (ts : List Jvm.Cond) (a : Array Jvm.Value) (st : Jvm.State) : (allAtoms ts).before a st = ts.all (fun c => c.before a st) := by
  induction ts with
  | nil => rfl
  | cons c t ih =>
    show (Jvm.Cond.and c (allAtoms t)).before a st = _
    rw [Jvm.Cond.before_and, ih, List.all_cons]
def words1 : List Jvm.Cond := Jvm.Cond.code x code maxLocals ret :: tables_1
/-- a 'code' word, met by the world's own term for the bytes: nothing is compared byte by byte -/
theorem code_word {y : MethodName} {bytes : ByteArray} {mx : Nat} {rt : Option FieldType} {a : Array Value} {s : State} {m : MethodId} {meth : Method} {c : Code} (h1 : s.methodNamed? y = some m) (h2 : s.vm.method? m = some meth) (h3 : meth.code = some c) (h4 : c.code = bytes)
    (h5 : (c.maxLocals == mx && c.exceptionTable.isEmpty && decide (c.maxStack ≤ mostOperands) && decide (meth.sig.returnType = rt) && !meth.locks && decide (parseMethodDescriptor y.desc = some meth.sig)) = true) : (Jvm.Cond.code y bytes mx rt).before a s = true := by
  simp only [Bool.and_eq_true, beq_iff_eq, Bool.not_eq_true', decide_eq_true_eq] at h5
  obtain ⟨⟨⟨⟨⟨g1, g2⟩, g3⟩, g4⟩, g5⟩, g6⟩ := h5
  simp [Cond.before, Cond.holds, Cond.value, h1, h2, h3, h4, g1, g2, g3, g4, g5, g6]
def isCode : Jvm.Cond → Bool
  | .code _ _ _ _ => true
  | _ => false
theorem all_split {L : List Jvm.Cond} {P : Jvm.Cond → Bool} (h1 : L.all (fun c => isCode c || P c) = true) (h2 : ∀ c ∈ L.filter isCode, P c = true) : L.all P = true := by
  refine List.all_eq_true.mpr fun c hc => ?_
  have h := List.all_eq_true.mp h1 c hc
  rcases Bool.eq_false_or_eq_true (isCode c) with hi | hi
  · exact h2 c (List.mem_filter.mpr ⟨hc, hi⟩)
  · simpa [hi] using h
set_option maxRecDepth 65536 in
theorem w_c0 : (Jvm.Cond.code x code maxLocals ret).before args0 about1 = true := code_word (m := ⟨1, 1⟩) (meth := k1m1) (c := k1c1) (by decide +kernel) rfl rfl rfl (by decide +kernel)
set_option maxRecDepth 65536 in
theorem w_c1 : (Jvm.Cond.code ({ cls := "com/example/membership/membership/BloomShape$Cell", name := "cellsIn", desc := "(I)J" } : Jvm.MethodName) prog_4_method_6_code (2 : Nat) (Option.some Jvm.ClassFile.FieldType.long)).before args0 about1 = true := code_word (m := ⟨6, 0⟩) (meth := k6m0) (c := k6c0) (by decide +kernel) rfl rfl rfl (by decide +kernel)
def codes1 : List Jvm.Cond := [Jvm.Cond.code x code maxLocals ret, Jvm.Cond.code ({ cls := "com/example/membership/membership/BloomShape$Cell", name := "cellsIn", desc := "(I)J" } : Jvm.MethodName) prog_4_method_6_code (2 : Nat) (Option.some Jvm.ClassFile.FieldType.long)]
set_option maxRecDepth 65536 in
theorem codes_eq : words1.filter isCode = codes1 := rfl
theorem w_codes : ∀ c ∈ words1.filter isCode, c.before args0 about1 = true := by
  rw [codes_eq]
  intro c hc
  simp only [codes1, List.mem_cons, List.not_mem_nil, or_false] at hc
  rcases hc with rfl | rfl
  · exact w_c0
  · exact w_c1
set_option maxRecDepth 65536 in
theorem w_t1 : words1.all (fun c => isCode c || c.before args0 about1) = true := by decide +kernel
theorem w_tables : (allAtoms (Jvm.Cond.code x code maxLocals ret :: tables_1)).before args0 about1 = true := by
  rw [allAtoms_all]
  show words1.all (fun c => c.before args0 about1) = true
  refine all_split ?_ w_codes
  rw [w_t1]
set_option maxRecDepth 65536 in
theorem w_case : (Jvm.Cond.and given_1 narrow_1).before args0 about1 = true := by decide +kernel
theorem w_applies : (headSpec (Jvm.Cond.code x code maxLocals ret :: tables_1) room_1).applies x e0.platform about1 = true :=
  (Spec.applies_iff w_frames).mpr ⟨w_running, w_runnable, w_alone, w_named, w_hears, w_ripe, w_room, w_tables⟩
theorem atStart : AtStart classFile x code maxLocals ret World_1 tables_1 room_1 Calls_1 rest_1 Pre_1 launch0 p0 e0 about1 theMethod args0 below0 :=
  ⟨lists_1, trivial, launch0.admits_env _ _ _, launch0.least_env, fairChoices_fair.cas, fairChoices_fair.clock, w_frames, w_args, w_heap, w_applies, trivial, trivial, w_case⟩
end start1
theorem witness_1 : WitnessClaimed_1 := ⟨start1.p0, start1.e0, start1.about1, start1.theMethod, start1.args0, start1.below0, start1.atStart⟩
end Jvm.Pilot.@@N@@
