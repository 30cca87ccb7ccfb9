import JvmDerived
import JvmDerived.Pilot.@@N@@Statement
import JvmDerived.Pilot.@@N@@Code
set_option linter.unusedVariables false
set_option linter.unusedSimpArgs false
@@BLOCK:NumsL.lean.txt@@
namespace Jvm.Pilot.@@N@@
open Jvm Jvm.ClassFile Sem Op Lib Jvm.Free Jvm.Stand Jvm.LawKit Jvm.RoadKit Bundle Jvm.Pilot.@@N@@.Jvm.D
theorem own_eqL {x y : Int64} (h : x = y) : lcmpW x y = 0 := by rw [lcW]; exact (lc_eq x y).2 h
theorem own_neL {x y : Int64} (h : ¬ x = y) : ¬ lcmpW x y = 0 := by rw [lcW]; exact fun q => h ((lc_eq x y).1 q)
theorem own_ltL {x y : Int64} (h : x < y) : lcmpW x y < 0 := by rw [lcW]; exact (lc_lt x y).2 h
theorem own_nltL {x y : Int64} (h : ¬ x < y) : ¬ lcmpW x y < 0 := by rw [lcW]; exact fun q => h ((lc_lt x y).1 q)
theorem own_gtL {x y : Int64} (h : y < x) : 0 < lcmpW x y := by rw [lcW]; exact (lc_gt x y).2 h
theorem own_ns_exa {Z : State} {h : Heap} {a : Addr} {C : String} (E : Exa Z h a C) : ∀ cell : Cell, h[a]? = some cell → cell.vm.isStatics = false := by
  obtain ⟨c, k, h1, -, -, h4, -⟩ := E
  intro cell hc; cases h1.symm.trans hc; exact h4
theorem own_ns1 {h : Heap} {a : Addr} (p : ∀ cell : Cell, h[a]? = some cell → cell.vm.isStatics = false) : ∀ x ∈ [a], ∀ cell : Cell, h[x]? = some cell → cell.vm.isStatics = false := by
  intro x hx; cases List.mem_singleton.mp hx; exact p
theorem own_ns2 {h : Heap} {a b : Addr} (p : ∀ cell : Cell, h[a]? = some cell → cell.vm.isStatics = false) (q : ∀ cell : Cell, h[b]? = some cell → cell.vm.isStatics = false) : ∀ x ∈ [a, b], ∀ cell : Cell, h[x]? = some cell → cell.vm.isStatics = false := by
  intro x hx; simp only [List.mem_cons, List.not_mem_nil, or_false] at hx; rcases hx with rfl | rfl <;> first | exact p | exact q
theorem own_sta_keep {Z : State} {h h' : Heap} {ws : List Addr} {C n d : String} {v : Value} (F : Sta Z h C n d v) (K : Keep h h' ws) (hn : ∀ x ∈ ws, ∀ cell : Cell, h[x]? = some cell → cell.vm.isStatics = false) : Sta Z h' C n d v := by
  obtain ⟨cf, i, k, f, st, cell, h1, h2, h3, h4, h5, h6, r⟩ := F
  exact ⟨cf, i, k, f, st, cell, h1, h2, h3, h4, K.2.1 _ _ h5 (fun q => by rw [hn _ q _ h5] at h6; cases h6), h6, r⟩
theorem own_sta_keep0 {Z : State} {h h' : Heap} {C n d : String} {v : Value} (F : Sta Z h C n d v) (K : Keep h h' []) : Sta Z h' C n d v := by
  obtain ⟨cf, i, k, f, st, cell, h1, h2, h3, h4, h5, r⟩ := F
  exact ⟨cf, i, k, f, st, cell, h1, h2, h3, h4, K.2.1 _ _ h5 List.not_mem_nil, r⟩
theorem own_ngtL {x y : Int64} (h : ¬ y < x) : ¬ 0 < lcmpW x y := by rw [lcW]; exact fun q => h ((lc_gt x y).1 q)
theorem pn_0 : plainName "com/example/careful_quorum/carefulquorum/storage/EntryTypeFitsPinLaw" = true := by first | (simp [plainName, overriddenIn]; done) | decide +kernel
theorem d1_0 : decode method_2_code 0 = .ok (.iload_n 0, 1) := by decide +kernel
theorem d1_1 : decode method_2_code 1 = .ok (.ifCond .ne 7, 3) := by decide +kernel
theorem d1_4 : decode method_2_code 4 = .ok (.getstatic 7, 3) := by decide +kernel
theorem d1_7 : decode method_2_code 7 = .ok (.areturn, 1) := by decide +kernel
theorem d1_8 : decode method_2_code 8 = .ok (.iload_n 0, 1) := by decide +kernel
theorem d1_9 : decode method_2_code 9 = .ok (.iconst 1, 1) := by decide +kernel
theorem d1_10 : decode method_2_code 10 = .ok (.if_icmp .ne 7, 3) := by decide +kernel
theorem d1_13 : decode method_2_code 13 = .ok (.getstatic 13, 3) := by decide +kernel
theorem d1_16 : decode method_2_code 16 = .ok (.areturn, 1) := by decide +kernel
theorem d1_17 : decode method_2_code 17 = .ok (.iload_n 0, 1) := by decide +kernel
theorem d1_18 : decode method_2_code 18 = .ok (.iconst 2, 1) := by decide +kernel
theorem d1_19 : decode method_2_code 19 = .ok (.if_icmp .ne 7, 3) := by decide +kernel
theorem d1_22 : decode method_2_code 22 = .ok (.getstatic 16, 3) := by decide +kernel
theorem d1_25 : decode method_2_code 25 = .ok (.areturn, 1) := by decide +kernel
theorem d1_26 : decode method_2_code 26 = .ok (.iload_n 0, 1) := by decide +kernel
theorem d1_27 : decode method_2_code 27 = .ok (.iconst 3, 1) := by decide +kernel
theorem d1_28 : decode method_2_code 28 = .ok (.if_icmp .ne 7, 3) := by decide +kernel
theorem d1_31 : decode method_2_code 31 = .ok (.getstatic 19, 3) := by decide +kernel
theorem d1_34 : decode method_2_code 34 = .ok (.areturn, 1) := by decide +kernel
theorem d1_35 : decode method_2_code 35 = .ok (.getstatic 22, 3) := by decide +kernel
theorem d1_38 : decode method_2_code 38 = .ok (.areturn, 1) := by decide +kernel
theorem ef_1 (m : MethodId) (x0 : Int32) : entryFrame m #[(.int x0)] 1 = mkF m 0 #[.val (.int x0)] [] := by first | (simp [entryFrame, mkF, argsToLocals, Value.category]; done) | rfl
def f1 (p0 : Int32) (s_MESSAGE : Addr) (s_NEW_TERM : Addr) (s_SESSION_OPEN : Addr) (s_SESSION_CLOSE : Addr) (s_TIMER_FIRED : Addr) : Addr := (if p0 = (0 : Int32) then s_MESSAGE else (if p0 = (1 : Int32) then s_NEW_TERM else (if p0 = (2 : Int32) then s_SESSION_OPEN else (if p0 = (3 : Int32) then s_SESSION_CLOSE else s_TIMER_FIRED))))
def Q1 (Z : State) (p0 : Int32) (s_MESSAGE : Addr) (s_NEW_TERM : Addr) (s_SESSION_OPEN : Addr) (s_SESSION_CLOSE : Addr) (s_TIMER_FIRED : Addr) (h0 : Heap) (n0 : Nat) (v : Option Value) (h : Heap) (L : List Loc) : Prop := v = some (.ref (f1 p0 s_MESSAGE s_NEW_TERM s_SESSION_OPEN s_SESSION_CLOSE s_TIMER_FIRED)) ∧ Fr n0 L ∧ h = h0
set_option maxRecDepth 65536 in
set_option maxHeartbeats 40000000 in
theorem rm1 (l : Launch) (Z : State) (ar0 : Array Value) (hw : ∀ d ∈ tables_1, d.before ar0 Z = true) (ws : List Jvm.Cond) (p0 : Int32) (s_MESSAGE : Addr) (s_NEW_TERM : Addr) (s_SESSION_OPEN : Addr) (s_SESSION_CLOSE : Addr) (s_TIMER_FIRED : Addr) (h0 : Heap) (n0 : Nat) (Z0 : n0 ≤ h0.size) (S_MESSAGE : Sta Z h0 "com/example/careful_quorum/carefulquorum/storage/EntryType" "MESSAGE" "Lcom/example/careful_quorum/carefulquorum/storage/EntryType;" (.ref s_MESSAGE)) (S_NEW_TERM : Sta Z h0 "com/example/careful_quorum/carefulquorum/storage/EntryType" "NEW_TERM" "Lcom/example/careful_quorum/carefulquorum/storage/EntryType;" (.ref s_NEW_TERM)) (S_SESSION_OPEN : Sta Z h0 "com/example/careful_quorum/carefulquorum/storage/EntryType" "SESSION_OPEN" "Lcom/example/careful_quorum/carefulquorum/storage/EntryType;" (.ref s_SESSION_OPEN)) (S_SESSION_CLOSE : Sta Z h0 "com/example/careful_quorum/carefulquorum/storage/EntryType" "SESSION_CLOSE" "Lcom/example/careful_quorum/carefulquorum/storage/EntryType;" (.ref s_SESSION_CLOSE)) (S_TIMER_FIRED : Sta Z h0 "com/example/careful_quorum/carefulquorum/storage/EntryType" "TIMER_FIRED" "Lcom/example/careful_quorum/carefulquorum/storage/EntryType;" (.ref s_TIMER_FIRED)) :
    MetFree l (⟨"com/example/careful_quorum/carefulquorum/storage/EntryTypeFitsPinLaw", "pick", "(I)Lcom/example/careful_quorum/carefulquorum/storage/EntryType;"⟩ : MethodName) (head1 (Jvm.Cond.code (⟨"com/example/careful_quorum/carefulquorum/storage/EntryTypeFitsPinLaw", "pick", "(I)Lcom/example/careful_quorum/carefulquorum/storage/EntryType;"⟩ : MethodName) method_2_code 1 (some (.object "com/example/careful_quorum/carefulquorum/storage/EntryType")) :: ws) ({ frames := 0, cells := 0, slots := 0, locals := 0 } : Room)) (fun a U => a = #[(.int p0)] ∧ Z.Warmed39 U.vm ∧ U.heap = h0) (fun _ _ _ _ _ => True) (fun _ U o U' => ∃ v L, o = .returned v ∧ Q1 Z p0 s_MESSAGE s_NEW_TERM s_SESSION_OPEN s_SESSION_CLOSE s_TIMER_FIRED h0 n0 v U'.heap L ∧ FrameEnd U o U' L ({ frames := 0, cells := 0, slots := 0, locals := 0 } : Room).cells ({ frames := 0, cells := 0, slots := 0, locals := 0 } : Room).slots) := by
  refine MetFree.of_bodySF (plainFor_of_name pn_0) hisR ?_
  intro p e s m args below meth c s₁ Bd hml0 hP hK
  obtain ⟨rfl, hZ, hh⟩ := hP
  have hx := Bd.exec
  have hby := Bd.bytes
  have hml : c.maxLocals = 1 := hml0
  have hown : s.vm.findClass "com/example/careful_quorum/carefulquorum/storage/EntryTypeFitsPinLaw" = some m.cls := findClass_of_methodNamed Bd.named
  have hnm := (name_of_methodNamed Bd.named Bd.method).1
  have X0 : Stand p l e ({ frames := 0, cells := 0, slots := 0, locals := 0 } : Room) s m #[(.int p0)] below meth c s₁ [] 0 0 := Stand.of_body Bd
  have e0 : s₁.heap = h0 := by rw [← hh, Bd.state]; rfl
  have N0 := Fr.nil n0
  have pre0 : ∀ t, Steps p.tables e below (s₁.setTop (mkF m 0 #[.val (.int p0)] [])) t → Steps p.tables e below (s₁.setTop (entryFrame m #[(.int p0)] 1)) t := fun t k => castTop (ef_1 m p0) k
  have pre1 : ∀ t, Steps p.tables e below (s₁.setTop (mkF m 1 #[.val (.int p0)] [(.int p0)])) t → Steps p.tables e below (s₁.setTop (entryFrame m #[(.int p0)] 1)) t := by
    intro t k
    refine pre0 t ?_
    show Steps p.tables e below (s₁.setTop (mkF m 0 #[.val (.int p0)] [])) _
    refine XS.iloadN X0.here hx rfl (hb hby d1_0) rfl ?_
    show Steps p.tables e below (s₁.setTop (mkF m 1 #[.val (.int p0)] [(.int p0)])) _
    exact k
  by_cases hc1_2 : p0 = (0 : Int32)
  · have pre3 : ∀ t, Steps p.tables e below (s₁.setTop (mkF m 4 #[.val (.int p0)] [])) t → Steps p.tables e below (s₁.setTop (entryFrame m #[(.int p0)] 1)) t := by
      intro t k
      refine pre1 t ?_
      show Steps p.tables e below (s₁.setTop (mkF m 1 #[.val (.int p0)] [(.int p0)])) _
      refine XS.ifNo X0.here hx rfl (hb hby d1_1) rfl ((if0 _ _).trans (teq hc1_2).2) ?_
      show Steps p.tables e below (s₁.setTop (mkF m 4 #[.val (.int p0)] [])) _
      exact k
    obtain ⟨T4, X4, e4, st4⟩ := getS2 X0 hx hZ hown (host := "") (Or.inl (hw _ (List.mem_of_getElem? (i := 5) rfl))) Via.refl e0 S_MESSAGE (g := (mkF m 4 #[.val (.int p0)] [])) rfl (hb hby d1_4)
    have pre5 : ∀ t, Steps p.tables e below (T4.setTop (mkF m 7 #[.val (.int p0)] [(.ref s_MESSAGE)])) t → Steps p.tables e below (s₁.setTop (entryFrame m #[(.int p0)] 1)) t := fun t k => pre3 t (st4 t k)
    obtain ⟨fs, hr, hrun, hended, hW, hsame⟩ := X4.leave (v := some (.ref s_MESSAGE)) (fun h => by rw [Bd.returns] at h; cases h)
    refine ⟨_, _, pre5 _ ?_, hrun, hended, _, _, rfl, ?_, ⟨_, rfl⟩, hW, hsame.mono (by decide) (by decide)⟩
    · show Steps p.tables e below (T4.setTop (mkF m 7 #[.val (.int p0)] [(.ref s_MESSAGE)])) _
      exact retOut X4 hx Bd.returns rfl (Or.inr (Or.inr (Or.inr (Or.inr ⟨rfl, rfl, rfl⟩)))) (hb hby d1_7) hr
    · show Q1 Z p0 s_MESSAGE s_NEW_TERM s_SESSION_OPEN s_SESSION_CLOSE s_TIMER_FIRED h0 n0 _ T4.heap _
      rw [e4]
      exact ⟨by unfold f1; rw [if_pos hc1_2], N0, rfl⟩
  · have pre6 : ∀ t, Steps p.tables e below (s₁.setTop (mkF m 10 #[.val (.int p0)] [(.int (1 : Int32)), (.int p0)])) t → Steps p.tables e below (s₁.setTop (entryFrame m #[(.int p0)] 1)) t := by
      intro t k
      refine pre1 t ?_
      show Steps p.tables e below (s₁.setTop (mkF m 1 #[.val (.int p0)] [(.int p0)])) _
      refine XS.ifYes X0.here hx rfl (pc0 := 1) (pc' := 8) rfl (hb hby d1_1) rfl ((if0 _ _).trans (feq hc1_2).2) (by decide) (by decide) ?_
      show Steps p.tables e below (s₁.setTop (mkF m 8 #[.val (.int p0)] [])) _
      refine XS.iloadN X0.here hx rfl (hb hby d1_8) rfl ?_
      show Steps p.tables e below (s₁.setTop (mkF m 9 #[.val (.int p0)] [(.int p0)])) _
      refine XS.iconst X0.here hx rfl (hb hby d1_9) ?_
      show Steps p.tables e below (s₁.setTop (mkF m 10 #[.val (.int p0)] [(.int (1 : Int32)), (.int p0)])) _
      exact k
    by_cases hc10_7 : p0 = (1 : Int32)
    · have pre8 : ∀ t, Steps p.tables e below (s₁.setTop (mkF m 13 #[.val (.int p0)] [])) t → Steps p.tables e below (s₁.setTop (entryFrame m #[(.int p0)] 1)) t := by
        intro t k
        refine pre6 t ?_
        show Steps p.tables e below (s₁.setTop (mkF m 10 #[.val (.int p0)] [(.int (1 : Int32)), (.int p0)])) _
        refine XS.icmpNo X0.here hx rfl (hb hby d1_10) rfl (teq hc10_7).2 ?_
        show Steps p.tables e below (s₁.setTop (mkF m 13 #[.val (.int p0)] [])) _
        exact k
      obtain ⟨T9, X9, e9, st9⟩ := getS2 X0 hx hZ hown (host := "") (Or.inl (hw _ (List.mem_of_getElem? (i := 23) rfl))) Via.refl e0 S_NEW_TERM (g := (mkF m 13 #[.val (.int p0)] [])) rfl (hb hby d1_13)
      have pre10 : ∀ t, Steps p.tables e below (T9.setTop (mkF m 16 #[.val (.int p0)] [(.ref s_NEW_TERM)])) t → Steps p.tables e below (s₁.setTop (entryFrame m #[(.int p0)] 1)) t := fun t k => pre8 t (st9 t k)
      obtain ⟨fs, hr, hrun, hended, hW, hsame⟩ := X9.leave (v := some (.ref s_NEW_TERM)) (fun h => by rw [Bd.returns] at h; cases h)
      refine ⟨_, _, pre10 _ ?_, hrun, hended, _, _, rfl, ?_, ⟨_, rfl⟩, hW, hsame.mono (by decide) (by decide)⟩
      · show Steps p.tables e below (T9.setTop (mkF m 16 #[.val (.int p0)] [(.ref s_NEW_TERM)])) _
        exact retOut X9 hx Bd.returns rfl (Or.inr (Or.inr (Or.inr (Or.inr ⟨rfl, rfl, rfl⟩)))) (hb hby d1_16) hr
      · show Q1 Z p0 s_MESSAGE s_NEW_TERM s_SESSION_OPEN s_SESSION_CLOSE s_TIMER_FIRED h0 n0 _ T9.heap _
        rw [e9]
        exact ⟨by unfold f1; rw [if_neg hc1_2, if_pos hc10_7], N0, rfl⟩
    · have pre11 : ∀ t, Steps p.tables e below (s₁.setTop (mkF m 19 #[.val (.int p0)] [(.int (2 : Int32)), (.int p0)])) t → Steps p.tables e below (s₁.setTop (entryFrame m #[(.int p0)] 1)) t := by
        intro t k
        refine pre6 t ?_
        show Steps p.tables e below (s₁.setTop (mkF m 10 #[.val (.int p0)] [(.int (1 : Int32)), (.int p0)])) _
        refine XS.icmpYes X0.here hx rfl (pc0 := 10) (pc' := 17) rfl (hb hby d1_10) rfl (feq hc10_7).2 (by decide) (by decide) ?_
        show Steps p.tables e below (s₁.setTop (mkF m 17 #[.val (.int p0)] [])) _
        refine XS.iloadN X0.here hx rfl (hb hby d1_17) rfl ?_
        show Steps p.tables e below (s₁.setTop (mkF m 18 #[.val (.int p0)] [(.int p0)])) _
        refine XS.iconst X0.here hx rfl (hb hby d1_18) ?_
        show Steps p.tables e below (s₁.setTop (mkF m 19 #[.val (.int p0)] [(.int (2 : Int32)), (.int p0)])) _
        exact k
      by_cases hc19_12 : p0 = (2 : Int32)
      · have pre13 : ∀ t, Steps p.tables e below (s₁.setTop (mkF m 22 #[.val (.int p0)] [])) t → Steps p.tables e below (s₁.setTop (entryFrame m #[(.int p0)] 1)) t := by
          intro t k
          refine pre11 t ?_
          show Steps p.tables e below (s₁.setTop (mkF m 19 #[.val (.int p0)] [(.int (2 : Int32)), (.int p0)])) _
          refine XS.icmpNo X0.here hx rfl (hb hby d1_19) rfl (teq hc19_12).2 ?_
          show Steps p.tables e below (s₁.setTop (mkF m 22 #[.val (.int p0)] [])) _
          exact k
        obtain ⟨T14, X14, e14, st14⟩ := getS2 X0 hx hZ hown (host := "") (Or.inl (hw _ (List.mem_of_getElem? (i := 29) rfl))) Via.refl e0 S_SESSION_OPEN (g := (mkF m 22 #[.val (.int p0)] [])) rfl (hb hby d1_22)
        have pre15 : ∀ t, Steps p.tables e below (T14.setTop (mkF m 25 #[.val (.int p0)] [(.ref s_SESSION_OPEN)])) t → Steps p.tables e below (s₁.setTop (entryFrame m #[(.int p0)] 1)) t := fun t k => pre13 t (st14 t k)
        obtain ⟨fs, hr, hrun, hended, hW, hsame⟩ := X14.leave (v := some (.ref s_SESSION_OPEN)) (fun h => by rw [Bd.returns] at h; cases h)
        refine ⟨_, _, pre15 _ ?_, hrun, hended, _, _, rfl, ?_, ⟨_, rfl⟩, hW, hsame.mono (by decide) (by decide)⟩
        · show Steps p.tables e below (T14.setTop (mkF m 25 #[.val (.int p0)] [(.ref s_SESSION_OPEN)])) _
          exact retOut X14 hx Bd.returns rfl (Or.inr (Or.inr (Or.inr (Or.inr ⟨rfl, rfl, rfl⟩)))) (hb hby d1_25) hr
        · show Q1 Z p0 s_MESSAGE s_NEW_TERM s_SESSION_OPEN s_SESSION_CLOSE s_TIMER_FIRED h0 n0 _ T14.heap _
          rw [e14]
          exact ⟨by unfold f1; rw [if_neg hc1_2, if_neg hc10_7, if_pos hc19_12], N0, rfl⟩
      · have pre16 : ∀ t, Steps p.tables e below (s₁.setTop (mkF m 28 #[.val (.int p0)] [(.int (3 : Int32)), (.int p0)])) t → Steps p.tables e below (s₁.setTop (entryFrame m #[(.int p0)] 1)) t := by
          intro t k
          refine pre11 t ?_
          show Steps p.tables e below (s₁.setTop (mkF m 19 #[.val (.int p0)] [(.int (2 : Int32)), (.int p0)])) _
          refine XS.icmpYes X0.here hx rfl (pc0 := 19) (pc' := 26) rfl (hb hby d1_19) rfl (feq hc19_12).2 (by decide) (by decide) ?_
          show Steps p.tables e below (s₁.setTop (mkF m 26 #[.val (.int p0)] [])) _
          refine XS.iloadN X0.here hx rfl (hb hby d1_26) rfl ?_
          show Steps p.tables e below (s₁.setTop (mkF m 27 #[.val (.int p0)] [(.int p0)])) _
          refine XS.iconst X0.here hx rfl (hb hby d1_27) ?_
          show Steps p.tables e below (s₁.setTop (mkF m 28 #[.val (.int p0)] [(.int (3 : Int32)), (.int p0)])) _
          exact k
        by_cases hc28_17 : p0 = (3 : Int32)
        · have pre18 : ∀ t, Steps p.tables e below (s₁.setTop (mkF m 31 #[.val (.int p0)] [])) t → Steps p.tables e below (s₁.setTop (entryFrame m #[(.int p0)] 1)) t := by
            intro t k
            refine pre16 t ?_
            show Steps p.tables e below (s₁.setTop (mkF m 28 #[.val (.int p0)] [(.int (3 : Int32)), (.int p0)])) _
            refine XS.icmpNo X0.here hx rfl (hb hby d1_28) rfl (teq hc28_17).2 ?_
            show Steps p.tables e below (s₁.setTop (mkF m 31 #[.val (.int p0)] [])) _
            exact k
          obtain ⟨T19, X19, e19, st19⟩ := getS2 X0 hx hZ hown (host := "") (Or.inl (hw _ (List.mem_of_getElem? (i := 27) rfl))) Via.refl e0 S_SESSION_CLOSE (g := (mkF m 31 #[.val (.int p0)] [])) rfl (hb hby d1_31)
          have pre20 : ∀ t, Steps p.tables e below (T19.setTop (mkF m 34 #[.val (.int p0)] [(.ref s_SESSION_CLOSE)])) t → Steps p.tables e below (s₁.setTop (entryFrame m #[(.int p0)] 1)) t := fun t k => pre18 t (st19 t k)
          obtain ⟨fs, hr, hrun, hended, hW, hsame⟩ := X19.leave (v := some (.ref s_SESSION_CLOSE)) (fun h => by rw [Bd.returns] at h; cases h)
          refine ⟨_, _, pre20 _ ?_, hrun, hended, _, _, rfl, ?_, ⟨_, rfl⟩, hW, hsame.mono (by decide) (by decide)⟩
          · show Steps p.tables e below (T19.setTop (mkF m 34 #[.val (.int p0)] [(.ref s_SESSION_CLOSE)])) _
            exact retOut X19 hx Bd.returns rfl (Or.inr (Or.inr (Or.inr (Or.inr ⟨rfl, rfl, rfl⟩)))) (hb hby d1_34) hr
          · show Q1 Z p0 s_MESSAGE s_NEW_TERM s_SESSION_OPEN s_SESSION_CLOSE s_TIMER_FIRED h0 n0 _ T19.heap _
            rw [e19]
            exact ⟨by unfold f1; rw [if_neg hc1_2, if_neg hc10_7, if_neg hc19_12, if_pos hc28_17], N0, rfl⟩
        · have pre21 : ∀ t, Steps p.tables e below (s₁.setTop (mkF m 35 #[.val (.int p0)] [])) t → Steps p.tables e below (s₁.setTop (entryFrame m #[(.int p0)] 1)) t := by
            intro t k
            refine pre16 t ?_
            show Steps p.tables e below (s₁.setTop (mkF m 28 #[.val (.int p0)] [(.int (3 : Int32)), (.int p0)])) _
            refine XS.icmpYes X0.here hx rfl (pc0 := 28) (pc' := 35) rfl (hb hby d1_28) rfl (feq hc28_17).2 (by decide) (by decide) ?_
            show Steps p.tables e below (s₁.setTop (mkF m 35 #[.val (.int p0)] [])) _
            exact k
          obtain ⟨T22, X22, e22, st22⟩ := getS2 X0 hx hZ hown (host := "") (Or.inl (hw _ (List.mem_of_getElem? (i := 25) rfl))) Via.refl e0 S_TIMER_FIRED (g := (mkF m 35 #[.val (.int p0)] [])) rfl (hb hby d1_35)
          have pre23 : ∀ t, Steps p.tables e below (T22.setTop (mkF m 38 #[.val (.int p0)] [(.ref s_TIMER_FIRED)])) t → Steps p.tables e below (s₁.setTop (entryFrame m #[(.int p0)] 1)) t := fun t k => pre21 t (st22 t k)
          obtain ⟨fs, hr, hrun, hended, hW, hsame⟩ := X22.leave (v := some (.ref s_TIMER_FIRED)) (fun h => by rw [Bd.returns] at h; cases h)
          refine ⟨_, _, pre23 _ ?_, hrun, hended, _, _, rfl, ?_, ⟨_, rfl⟩, hW, hsame.mono (by decide) (by decide)⟩
          · show Steps p.tables e below (T22.setTop (mkF m 38 #[.val (.int p0)] [(.ref s_TIMER_FIRED)])) _
            exact retOut X22 hx Bd.returns rfl (Or.inr (Or.inr (Or.inr (Or.inr ⟨rfl, rfl, rfl⟩)))) (hb hby d1_38) hr
          · show Q1 Z p0 s_MESSAGE s_NEW_TERM s_SESSION_OPEN s_SESSION_CLOSE s_TIMER_FIRED h0 n0 _ T22.heap _
            rw [e22]
            exact ⟨by unfold f1; rw [if_neg hc1_2, if_neg hc10_7, if_neg hc19_12, if_neg hc28_17], N0, rfl⟩
theorem pn_1 : plainName "com/example/careful_quorum/carefulquorum/storage/EntryType" = true := by first | (simp [plainName, overriddenIn]; done) | decide +kernel
theorem d2_0 : decode prog_91_method_5_code 0 = .ok (.aload_n 0, 1) := by decide +kernel
theorem d2_1 : decode prog_91_method_5_code 1 = .ok (.getfield 46, 3) := by decide +kernel
theorem d2_4 : decode prog_91_method_5_code 4 = .ok (.ifCond .eq 19, 3) := by decide +kernel
theorem d2_7 : decode prog_91_method_5_code 7 = .ok (.iload_n 1, 1) := by decide +kernel
theorem d2_8 : decode prog_91_method_5_code 8 = .ok (.aload_n 0, 1) := by decide +kernel
theorem d2_9 : decode prog_91_method_5_code 9 = .ok (.getfield 42, 3) := by decide +kernel
theorem d2_12 : decode prog_91_method_5_code 12 = .ok (.if_icmp .lt 7, 3) := by decide +kernel
theorem d2_15 : decode prog_91_method_5_code 15 = .ok (.iconst 1, 1) := by decide +kernel
theorem d2_16 : decode prog_91_method_5_code 16 = .ok (.goto 20, 3) := by decide +kernel
theorem d2_19 : decode prog_91_method_5_code 19 = .ok (.iconst 0, 1) := by decide +kernel
theorem d2_20 : decode prog_91_method_5_code 20 = .ok (.goto 16, 3) := by decide +kernel
theorem d2_23 : decode prog_91_method_5_code 23 = .ok (.iload_n 1, 1) := by decide +kernel
theorem d2_24 : decode prog_91_method_5_code 24 = .ok (.aload_n 0, 1) := by decide +kernel
theorem d2_25 : decode prog_91_method_5_code 25 = .ok (.getfield 42, 3) := by decide +kernel
theorem d2_28 : decode prog_91_method_5_code 28 = .ok (.if_icmp .ne 7, 3) := by decide +kernel
theorem d2_31 : decode prog_91_method_5_code 31 = .ok (.iconst 1, 1) := by decide +kernel
theorem d2_32 : decode prog_91_method_5_code 32 = .ok (.goto 4, 3) := by decide +kernel
theorem d2_35 : decode prog_91_method_5_code 35 = .ok (.iconst 0, 1) := by decide +kernel
theorem d2_36 : decode prog_91_method_5_code 36 = .ok (.ireturn, 1) := by decide +kernel
theorem ef_2 (m : MethodId) (x0 : Addr) (x1 : Int32) : entryFrame m #[(.ref x0), (.int x1)] 2 = mkF m 0 #[.val (.ref x0), .val (.int x1)] [] := by first | (simp [entryFrame, mkF, argsToLocals, Value.category]; done) | rfl
def f2 (p1 : Int32) (w_withPayload_a0 : Int32) (w_fieldBytes_a0 : Int32) : Int32 := (if w_withPayload_a0 = (0 : Int32) then (if p1 = w_fieldBytes_a0 then (1 : Int32) else (0 : Int32)) else (if p1 < w_fieldBytes_a0 then (0 : Int32) else (1 : Int32)))
def Q2 (Z : State) (a0 : Addr) (p1 : Int32) (w_withPayload_a0 : Int32) (w_fieldBytes_a0 : Int32) (h0 : Heap) (n0 : Nat) (v : Option Value) (h : Heap) (L : List Loc) : Prop := v = some (.int (f2 p1 w_withPayload_a0 w_fieldBytes_a0)) ∧ Fr n0 L ∧ h = h0
set_option maxRecDepth 65536 in
set_option maxHeartbeats 40000000 in
theorem rm2 (l : Launch) (Z : State) (ar0 : Array Value) (hw : ∀ d ∈ tables_1, d.before ar0 Z = true) (ws : List Jvm.Cond) (a0 : Addr) (p1 : Int32) (w_withPayload_a0 : Int32) (w_fieldBytes_a0 : Int32) (h0 : Heap) (n0 : Nat) (Z0 : n0 ≤ h0.size) (F_withPayload_a0 : Fld Z h0 a0 "com/example/careful_quorum/carefulquorum/storage/EntryType" "withPayload" "Z" (.int w_withPayload_a0)) (F_fieldBytes_a0 : Fld Z h0 a0 "com/example/careful_quorum/carefulquorum/storage/EntryType" "fieldBytes" "I" (.int w_fieldBytes_a0)) :
    MetFree l (⟨"com/example/careful_quorum/carefulquorum/storage/EntryType", "fits", "(I)Z"⟩ : MethodName) (head1 (Jvm.Cond.code (⟨"com/example/careful_quorum/carefulquorum/storage/EntryType", "fits", "(I)Z"⟩ : MethodName) prog_91_method_5_code 2 (some .boolean) :: ws) ({ frames := 0, cells := 0, slots := 0, locals := 0 } : Room)) (fun a U => a = #[(.ref a0), (.int p1)] ∧ Z.Warmed39 U.vm ∧ U.heap = h0) (fun _ _ _ _ _ => True) (fun _ U o U' => ∃ v L, o = .returned v ∧ Q2 Z a0 p1 w_withPayload_a0 w_fieldBytes_a0 h0 n0 v U'.heap L ∧ FrameEnd U o U' L ({ frames := 0, cells := 0, slots := 0, locals := 0 } : Room).cells ({ frames := 0, cells := 0, slots := 0, locals := 0 } : Room).slots) := by
  refine MetFree.of_bodySF (plainFor_of_name pn_1) hisR ?_
  intro p e s m args below meth c s₁ Bd hml0 hP hK
  obtain ⟨rfl, hZ, hh⟩ := hP
  have hx := Bd.exec
  have hby := Bd.bytes
  have hml : c.maxLocals = 2 := hml0
  have hown : s.vm.findClass "com/example/careful_quorum/carefulquorum/storage/EntryType" = some m.cls := findClass_of_methodNamed Bd.named
  have hnm := (name_of_methodNamed Bd.named Bd.method).1
  have X0 : Stand p l e ({ frames := 0, cells := 0, slots := 0, locals := 0 } : Room) s m #[(.ref a0), (.int p1)] below meth c s₁ [] 0 0 := Stand.of_body Bd
  have e0 : s₁.heap = h0 := by rw [← hh, Bd.state]; rfl
  have N0 := Fr.nil n0
  have pre0 : ∀ t, Steps p.tables e below (s₁.setTop (mkF m 0 #[.val (.ref a0), .val (.int p1)] [])) t → Steps p.tables e below (s₁.setTop (entryFrame m #[(.ref a0), (.int p1)] 2)) t := fun t k => castTop (ef_2 m a0 p1) k
  have pre24 : ∀ t, Steps p.tables e below (s₁.setTop (mkF m 1 #[.val (.ref a0), .val (.int p1)] [(.ref a0)])) t → Steps p.tables e below (s₁.setTop (entryFrame m #[(.ref a0), (.int p1)] 2)) t := by
    intro t k
    refine pre0 t ?_
    show Steps p.tables e below (s₁.setTop (mkF m 0 #[.val (.ref a0), .val (.int p1)] [])) _
    refine XS.aloadN X0.here hx rfl (hb hby d2_0) rfl rfl ?_
    show Steps p.tables e below (s₁.setTop (mkF m 1 #[.val (.ref a0), .val (.int p1)] [(.ref a0)])) _
    exact k
  obtain ⟨T25, X25, e25, st25⟩ := getF X0 hx hZ hown (host := "") (Or.inl (hw _ (List.mem_of_getElem? (i := 13) rfl))) Via.refl e0 F_withPayload_a0 (g := (mkF m 1 #[.val (.ref a0), .val (.int p1)] [(.ref a0)])) rfl rfl (hb hby d2_1)
  have pre26 : ∀ t, Steps p.tables e below (T25.setTop (mkF m 4 #[.val (.ref a0), .val (.int p1)] [(.int w_withPayload_a0)])) t → Steps p.tables e below (s₁.setTop (entryFrame m #[(.ref a0), (.int p1)] 2)) t := fun t k => pre24 t (st25 t k)
  by_cases hc4_27 : w_withPayload_a0 = (0 : Int32)
  · have pre28 : ∀ t, Steps p.tables e below (T25.setTop (mkF m 25 #[.val (.ref a0), .val (.int p1)] [(.ref a0), (.int p1)])) t → Steps p.tables e below (s₁.setTop (entryFrame m #[(.ref a0), (.int p1)] 2)) t := by
      intro t k
      refine pre26 t ?_
      show Steps p.tables e below (T25.setTop (mkF m 4 #[.val (.ref a0), .val (.int p1)] [(.int w_withPayload_a0)])) _
      refine XS.ifYes X25.here hx rfl (pc0 := 4) (pc' := 23) rfl (hb hby d2_4) rfl ((if0 _ _).trans (teq hc4_27).1) (by decide) (by decide) ?_
      show Steps p.tables e below (T25.setTop (mkF m 23 #[.val (.ref a0), .val (.int p1)] [])) _
      refine XS.iloadN X25.here hx rfl (hb hby d2_23) rfl ?_
      show Steps p.tables e below (T25.setTop (mkF m 24 #[.val (.ref a0), .val (.int p1)] [(.int p1)])) _
      refine XS.aloadN X25.here hx rfl (hb hby d2_24) rfl rfl ?_
      show Steps p.tables e below (T25.setTop (mkF m 25 #[.val (.ref a0), .val (.int p1)] [(.ref a0), (.int p1)])) _
      exact k
    obtain ⟨T29, X29, e29, st29⟩ := getF X25 hx hZ hown (host := "") (Or.inl (hw _ (List.mem_of_getElem? (i := 15) rfl))) Via.refl e25 F_fieldBytes_a0 (g := (mkF m 25 #[.val (.ref a0), .val (.int p1)] [(.ref a0), (.int p1)])) rfl rfl (hb hby d2_25)
    have pre30 : ∀ t, Steps p.tables e below (T29.setTop (mkF m 28 #[.val (.ref a0), .val (.int p1)] [(.int w_fieldBytes_a0), (.int p1)])) t → Steps p.tables e below (s₁.setTop (entryFrame m #[(.ref a0), (.int p1)] 2)) t := fun t k => pre28 t (st29 t k)
    by_cases hc28_31 : p1 = w_fieldBytes_a0
    · obtain ⟨fs, hr, hrun, hended, hW, hsame⟩ := X29.leave (v := some (.int (1 : Int32))) (fun h => by rw [Bd.returns] at h; cases h)
      refine ⟨_, _, pre30 _ ?_, hrun, hended, _, _, rfl, ?_, ⟨_, rfl⟩, hW, hsame.mono (by decide) (by decide)⟩
      · show Steps p.tables e below (T29.setTop (mkF m 28 #[.val (.ref a0), .val (.int p1)] [(.int w_fieldBytes_a0), (.int p1)])) _
        refine XS.icmpNo X29.here hx rfl (hb hby d2_28) rfl (teq hc28_31).2 ?_
        show Steps p.tables e below (T29.setTop (mkF m 31 #[.val (.ref a0), .val (.int p1)] [])) _
        refine XS.iconst X29.here hx rfl (hb hby d2_31) ?_
        show Steps p.tables e below (T29.setTop (mkF m 32 #[.val (.ref a0), .val (.int p1)] [(.int (1 : Int32))])) _
        refine XS.goto X29.here hx rfl (pc0 := 32) (pc' := 36) rfl (hb hby d2_32) (by decide) (by decide) ?_
        show Steps p.tables e below (T29.setTop (mkF m 36 #[.val (.ref a0), .val (.int p1)] [(.int (1 : Int32))])) _
        exact retN X29 hx (t := .boolean) Bd.returns (by simp) (hb hby d2_36) hr
      · show Q2 Z a0 p1 w_withPayload_a0 w_fieldBytes_a0 h0 n0 _ T29.heap _
        rw [e29]
        exact ⟨by unfold f2; rw [if_pos hc4_27, if_pos hc28_31], N0, rfl⟩
    · obtain ⟨fs, hr, hrun, hended, hW, hsame⟩ := X29.leave (v := some (.int (0 : Int32))) (fun h => by rw [Bd.returns] at h; cases h)
      refine ⟨_, _, pre30 _ ?_, hrun, hended, _, _, rfl, ?_, ⟨_, rfl⟩, hW, hsame.mono (by decide) (by decide)⟩
      · show Steps p.tables e below (T29.setTop (mkF m 28 #[.val (.ref a0), .val (.int p1)] [(.int w_fieldBytes_a0), (.int p1)])) _
        refine XS.icmpYes X29.here hx rfl (pc0 := 28) (pc' := 35) rfl (hb hby d2_28) rfl (feq hc28_31).2 (by decide) (by decide) ?_
        show Steps p.tables e below (T29.setTop (mkF m 35 #[.val (.ref a0), .val (.int p1)] [])) _
        refine XS.iconst X29.here hx rfl (hb hby d2_35) ?_
        show Steps p.tables e below (T29.setTop (mkF m 36 #[.val (.ref a0), .val (.int p1)] [(.int (0 : Int32))])) _
        exact retN X29 hx (t := .boolean) Bd.returns (by simp) (hb hby d2_36) hr
      · show Q2 Z a0 p1 w_withPayload_a0 w_fieldBytes_a0 h0 n0 _ T29.heap _
        rw [e29]
        exact ⟨by unfold f2; rw [if_pos hc4_27, if_neg hc28_31], N0, rfl⟩
  · have pre32 : ∀ t, Steps p.tables e below (T25.setTop (mkF m 9 #[.val (.ref a0), .val (.int p1)] [(.ref a0), (.int p1)])) t → Steps p.tables e below (s₁.setTop (entryFrame m #[(.ref a0), (.int p1)] 2)) t := by
      intro t k
      refine pre26 t ?_
      show Steps p.tables e below (T25.setTop (mkF m 4 #[.val (.ref a0), .val (.int p1)] [(.int w_withPayload_a0)])) _
      refine XS.ifNo X25.here hx rfl (hb hby d2_4) rfl ((if0 _ _).trans (feq hc4_27).1) ?_
      show Steps p.tables e below (T25.setTop (mkF m 7 #[.val (.ref a0), .val (.int p1)] [])) _
      refine XS.iloadN X25.here hx rfl (hb hby d2_7) rfl ?_
      show Steps p.tables e below (T25.setTop (mkF m 8 #[.val (.ref a0), .val (.int p1)] [(.int p1)])) _
      refine XS.aloadN X25.here hx rfl (hb hby d2_8) rfl rfl ?_
      show Steps p.tables e below (T25.setTop (mkF m 9 #[.val (.ref a0), .val (.int p1)] [(.ref a0), (.int p1)])) _
      exact k
    obtain ⟨T33, X33, e33, st33⟩ := getF X25 hx hZ hown (host := "") (Or.inl (hw _ (List.mem_of_getElem? (i := 15) rfl))) Via.refl e25 F_fieldBytes_a0 (g := (mkF m 9 #[.val (.ref a0), .val (.int p1)] [(.ref a0), (.int p1)])) rfl rfl (hb hby d2_9)
    have pre34 : ∀ t, Steps p.tables e below (T33.setTop (mkF m 12 #[.val (.ref a0), .val (.int p1)] [(.int w_fieldBytes_a0), (.int p1)])) t → Steps p.tables e below (s₁.setTop (entryFrame m #[(.ref a0), (.int p1)] 2)) t := fun t k => pre32 t (st33 t k)
    by_cases hc12_35 : p1 < w_fieldBytes_a0
    · obtain ⟨fs, hr, hrun, hended, hW, hsame⟩ := X33.leave (v := some (.int (0 : Int32))) (fun h => by rw [Bd.returns] at h; cases h)
      refine ⟨_, _, pre34 _ ?_, hrun, hended, _, _, rfl, ?_, ⟨_, rfl⟩, hW, hsame.mono (by decide) (by decide)⟩
      · show Steps p.tables e below (T33.setTop (mkF m 12 #[.val (.ref a0), .val (.int p1)] [(.int w_fieldBytes_a0), (.int p1)])) _
        refine XS.icmpYes X33.here hx rfl (pc0 := 12) (pc' := 19) rfl (hb hby d2_12) rfl (tlt hc12_35).1 (by decide) (by decide) ?_
        show Steps p.tables e below (T33.setTop (mkF m 19 #[.val (.ref a0), .val (.int p1)] [])) _
        refine XS.iconst X33.here hx rfl (hb hby d2_19) ?_
        show Steps p.tables e below (T33.setTop (mkF m 20 #[.val (.ref a0), .val (.int p1)] [(.int (0 : Int32))])) _
        refine XS.goto X33.here hx rfl (pc0 := 20) (pc' := 36) rfl (hb hby d2_20) (by decide) (by decide) ?_
        show Steps p.tables e below (T33.setTop (mkF m 36 #[.val (.ref a0), .val (.int p1)] [(.int (0 : Int32))])) _
        exact retN X33 hx (t := .boolean) Bd.returns (by simp) (hb hby d2_36) hr
      · show Q2 Z a0 p1 w_withPayload_a0 w_fieldBytes_a0 h0 n0 _ T33.heap _
        rw [e33]
        exact ⟨by unfold f2; rw [if_neg hc4_27, if_pos hc12_35], N0, rfl⟩
    · obtain ⟨fs, hr, hrun, hended, hW, hsame⟩ := X33.leave (v := some (.int (1 : Int32))) (fun h => by rw [Bd.returns] at h; cases h)
      refine ⟨_, _, pre34 _ ?_, hrun, hended, _, _, rfl, ?_, ⟨_, rfl⟩, hW, hsame.mono (by decide) (by decide)⟩
      · show Steps p.tables e below (T33.setTop (mkF m 12 #[.val (.ref a0), .val (.int p1)] [(.int w_fieldBytes_a0), (.int p1)])) _
        refine XS.icmpNo X33.here hx rfl (hb hby d2_12) rfl (flt hc12_35).1 ?_
        show Steps p.tables e below (T33.setTop (mkF m 15 #[.val (.ref a0), .val (.int p1)] [])) _
        refine XS.iconst X33.here hx rfl (hb hby d2_15) ?_
        show Steps p.tables e below (T33.setTop (mkF m 16 #[.val (.ref a0), .val (.int p1)] [(.int (1 : Int32))])) _
        refine XS.goto X33.here hx rfl (pc0 := 16) (pc' := 36) rfl (hb hby d2_16) (by decide) (by decide) ?_
        show Steps p.tables e below (T33.setTop (mkF m 36 #[.val (.ref a0), .val (.int p1)] [(.int (1 : Int32))])) _
        exact retN X33 hx (t := .boolean) Bd.returns (by simp) (hb hby d2_36) hr
      · show Q2 Z a0 p1 w_withPayload_a0 w_fieldBytes_a0 h0 n0 _ T33.heap _
        rw [e33]
        exact ⟨by unfold f2; rw [if_neg hc4_27, if_neg hc12_35], N0, rfl⟩
theorem d3_0 : decode method_4_code 0 = .ok (.iload_n 0, 1) := by decide +kernel
theorem d3_1 : decode method_4_code 1 = .ok (.ifCond .ne 15, 3) := by decide +kernel
theorem d3_4 : decode method_4_code 4 = .ok (.iload_n 1, 1) := by decide +kernel
theorem d3_5 : decode method_4_code 5 = .ok (.bipush 24, 2) := by decide +kernel
theorem d3_7 : decode method_4_code 7 = .ok (.if_icmp .lt 7, 3) := by decide +kernel
theorem d3_10 : decode method_4_code 10 = .ok (.iconst 1, 1) := by decide +kernel
theorem d3_11 : decode method_4_code 11 = .ok (.goto 4, 3) := by decide +kernel
theorem d3_14 : decode method_4_code 14 = .ok (.iconst 0, 1) := by decide +kernel
theorem d3_15 : decode method_4_code 15 = .ok (.ireturn, 1) := by decide +kernel
theorem d3_16 : decode method_4_code 16 = .ok (.iload_n 0, 1) := by decide +kernel
theorem d3_17 : decode method_4_code 17 = .ok (.iconst 1, 1) := by decide +kernel
theorem d3_18 : decode method_4_code 18 = .ok (.if_icmp .ne 15, 3) := by decide +kernel
theorem d3_21 : decode method_4_code 21 = .ok (.iload_n 1, 1) := by decide +kernel
theorem d3_22 : decode method_4_code 22 = .ok (.bipush 8, 2) := by decide +kernel
theorem d3_24 : decode method_4_code 24 = .ok (.if_icmp .ne 7, 3) := by decide +kernel
theorem d3_27 : decode method_4_code 27 = .ok (.iconst 1, 1) := by decide +kernel
theorem d3_28 : decode method_4_code 28 = .ok (.goto 4, 3) := by decide +kernel
theorem d3_31 : decode method_4_code 31 = .ok (.iconst 0, 1) := by decide +kernel
theorem d3_32 : decode method_4_code 32 = .ok (.ireturn, 1) := by decide +kernel
theorem d3_33 : decode method_4_code 33 = .ok (.iload_n 0, 1) := by decide +kernel
theorem d3_34 : decode method_4_code 34 = .ok (.iconst 2, 1) := by decide +kernel
theorem d3_35 : decode method_4_code 35 = .ok (.if_icmp .ne 13, 3) := by decide +kernel
theorem d3_38 : decode method_4_code 38 = .ok (.iload_n 1, 1) := by decide +kernel
theorem d3_39 : decode method_4_code 39 = .ok (.ifCond .ne 7, 3) := by decide +kernel
theorem d3_42 : decode method_4_code 42 = .ok (.iconst 1, 1) := by decide +kernel
theorem d3_43 : decode method_4_code 43 = .ok (.goto 4, 3) := by decide +kernel
theorem d3_46 : decode method_4_code 46 = .ok (.iconst 0, 1) := by decide +kernel
theorem d3_47 : decode method_4_code 47 = .ok (.ireturn, 1) := by decide +kernel
theorem d3_48 : decode method_4_code 48 = .ok (.iload_n 0, 1) := by decide +kernel
theorem d3_49 : decode method_4_code 49 = .ok (.iconst 3, 1) := by decide +kernel
theorem d3_50 : decode method_4_code 50 = .ok (.if_icmp .ne 15, 3) := by decide +kernel
theorem d3_53 : decode method_4_code 53 = .ok (.iload_n 1, 1) := by decide +kernel
theorem d3_54 : decode method_4_code 54 = .ok (.bipush 9, 2) := by decide +kernel
theorem d3_56 : decode method_4_code 56 = .ok (.if_icmp .ne 7, 3) := by decide +kernel
theorem d3_59 : decode method_4_code 59 = .ok (.iconst 1, 1) := by decide +kernel
theorem d3_60 : decode method_4_code 60 = .ok (.goto 4, 3) := by decide +kernel
theorem d3_63 : decode method_4_code 63 = .ok (.iconst 0, 1) := by decide +kernel
theorem d3_64 : decode method_4_code 64 = .ok (.ireturn, 1) := by decide +kernel
theorem d3_65 : decode method_4_code 65 = .ok (.iload_n 1, 1) := by decide +kernel
theorem d3_66 : decode method_4_code 66 = .ok (.bipush 24, 2) := by decide +kernel
theorem d3_68 : decode method_4_code 68 = .ok (.if_icmp .ne 7, 3) := by decide +kernel
theorem d3_71 : decode method_4_code 71 = .ok (.iconst 1, 1) := by decide +kernel
theorem d3_72 : decode method_4_code 72 = .ok (.goto 4, 3) := by decide +kernel
theorem d3_75 : decode method_4_code 75 = .ok (.iconst 0, 1) := by decide +kernel
theorem d3_76 : decode method_4_code 76 = .ok (.ireturn, 1) := by decide +kernel
theorem ef_3 (m : MethodId) (x0 : Int32) (x1 : Int32) : entryFrame m #[(.int x0), (.int x1)] 2 = mkF m 0 #[.val (.int x0), .val (.int x1)] [] := by first | (simp [entryFrame, mkF, argsToLocals, Value.category]; done) | rfl
def f3 (p0 : Int32) (p1 : Int32) : Int32 := (if p0 = (0 : Int32) then (if p1 < (24 : Int32) then (0 : Int32) else (1 : Int32)) else (if p0 = (1 : Int32) then (if p1 = (8 : Int32) then (1 : Int32) else (0 : Int32)) else (if p0 = (2 : Int32) then (if p1 = (0 : Int32) then (1 : Int32) else (0 : Int32)) else (if p0 = (3 : Int32) then (if p1 = (9 : Int32) then (1 : Int32) else (0 : Int32)) else (if p1 = (24 : Int32) then (1 : Int32) else (0 : Int32))))))
def Q3 (Z : State) (p0 : Int32) (p1 : Int32) (h0 : Heap) (n0 : Nat) (v : Option Value) (h : Heap) (L : List Loc) : Prop := v = some (.int (f3 p0 p1)) ∧ Fr n0 L ∧ h = h0
set_option maxRecDepth 65536 in
set_option maxHeartbeats 40000000 in
theorem rm3 (l : Launch) (Z : State) (ar0 : Array Value) (hw : ∀ d ∈ tables_1, d.before ar0 Z = true) (ws : List Jvm.Cond) (p0 : Int32) (p1 : Int32) (h0 : Heap) (n0 : Nat) (Z0 : n0 ≤ h0.size) :
    MetFree l (⟨"com/example/careful_quorum/carefulquorum/storage/EntryTypeFitsPinLaw", "expected", "(II)Z"⟩ : MethodName) (head1 (Jvm.Cond.code (⟨"com/example/careful_quorum/carefulquorum/storage/EntryTypeFitsPinLaw", "expected", "(II)Z"⟩ : MethodName) method_4_code 2 (some .boolean) :: ws) ({ frames := 0, cells := 0, slots := 0, locals := 0 } : Room)) (fun a U => a = #[(.int p0), (.int p1)] ∧ Z.Warmed39 U.vm ∧ U.heap = h0) (fun _ _ _ _ _ => True) (fun _ U o U' => ∃ v L, o = .returned v ∧ Q3 Z p0 p1 h0 n0 v U'.heap L ∧ FrameEnd U o U' L ({ frames := 0, cells := 0, slots := 0, locals := 0 } : Room).cells ({ frames := 0, cells := 0, slots := 0, locals := 0 } : Room).slots) := by
  refine MetFree.of_bodySF (plainFor_of_name pn_0) hisR ?_
  intro p e s m args below meth c s₁ Bd hml0 hP hK
  obtain ⟨rfl, hZ, hh⟩ := hP
  have hx := Bd.exec
  have hby := Bd.bytes
  have hml : c.maxLocals = 2 := hml0
  have hown : s.vm.findClass "com/example/careful_quorum/carefulquorum/storage/EntryTypeFitsPinLaw" = some m.cls := findClass_of_methodNamed Bd.named
  have hnm := (name_of_methodNamed Bd.named Bd.method).1
  have X0 : Stand p l e ({ frames := 0, cells := 0, slots := 0, locals := 0 } : Room) s m #[(.int p0), (.int p1)] below meth c s₁ [] 0 0 := Stand.of_body Bd
  have e0 : s₁.heap = h0 := by rw [← hh, Bd.state]; rfl
  have N0 := Fr.nil n0
  have pre0 : ∀ t, Steps p.tables e below (s₁.setTop (mkF m 0 #[.val (.int p0), .val (.int p1)] [])) t → Steps p.tables e below (s₁.setTop (entryFrame m #[(.int p0), (.int p1)] 2)) t := fun t k => castTop (ef_3 m p0 p1) k
  have pre36 : ∀ t, Steps p.tables e below (s₁.setTop (mkF m 1 #[.val (.int p0), .val (.int p1)] [(.int p0)])) t → Steps p.tables e below (s₁.setTop (entryFrame m #[(.int p0), (.int p1)] 2)) t := by
    intro t k
    refine pre0 t ?_
    show Steps p.tables e below (s₁.setTop (mkF m 0 #[.val (.int p0), .val (.int p1)] [])) _
    refine XS.iloadN X0.here hx rfl (hb hby d3_0) rfl ?_
    show Steps p.tables e below (s₁.setTop (mkF m 1 #[.val (.int p0), .val (.int p1)] [(.int p0)])) _
    exact k
  by_cases hc1_37 : p0 = (0 : Int32)
  · have pre38 : ∀ t, Steps p.tables e below (s₁.setTop (mkF m 7 #[.val (.int p0), .val (.int p1)] [(.int (24 : Int32)), (.int p1)])) t → Steps p.tables e below (s₁.setTop (entryFrame m #[(.int p0), (.int p1)] 2)) t := by
      intro t k
      refine pre36 t ?_
      show Steps p.tables e below (s₁.setTop (mkF m 1 #[.val (.int p0), .val (.int p1)] [(.int p0)])) _
      refine XS.ifNo X0.here hx rfl (hb hby d3_1) rfl ((if0 _ _).trans (teq hc1_37).2) ?_
      show Steps p.tables e below (s₁.setTop (mkF m 4 #[.val (.int p0), .val (.int p1)] [])) _
      refine XS.iloadN X0.here hx rfl (hb hby d3_4) rfl ?_
      show Steps p.tables e below (s₁.setTop (mkF m 5 #[.val (.int p0), .val (.int p1)] [(.int p1)])) _
      refine XS.bipush X0.here hx rfl (hb hby d3_5) ?_
      show Steps p.tables e below (s₁.setTop (mkF m 7 #[.val (.int p0), .val (.int p1)] [(.int (24 : Int32)), (.int p1)])) _
      exact k
    by_cases hc7_39 : p1 < (24 : Int32)
    · obtain ⟨fs, hr, hrun, hended, hW, hsame⟩ := X0.leave (v := some (.int (0 : Int32))) (fun h => by rw [Bd.returns] at h; cases h)
      refine ⟨_, _, pre38 _ ?_, hrun, hended, _, _, rfl, ?_, ⟨_, rfl⟩, hW, hsame.mono (by decide) (by decide)⟩
      · show Steps p.tables e below (s₁.setTop (mkF m 7 #[.val (.int p0), .val (.int p1)] [(.int (24 : Int32)), (.int p1)])) _
        refine XS.icmpYes X0.here hx rfl (pc0 := 7) (pc' := 14) rfl (hb hby d3_7) rfl (tlt hc7_39).1 (by decide) (by decide) ?_
        show Steps p.tables e below (s₁.setTop (mkF m 14 #[.val (.int p0), .val (.int p1)] [])) _
        refine XS.iconst X0.here hx rfl (hb hby d3_14) ?_
        show Steps p.tables e below (s₁.setTop (mkF m 15 #[.val (.int p0), .val (.int p1)] [(.int (0 : Int32))])) _
        exact retN X0 hx (t := .boolean) Bd.returns (by simp) (hb hby d3_15) hr
      · show Q3 Z p0 p1 h0 n0 _ s₁.heap _
        rw [e0]
        exact ⟨by unfold f3; rw [if_pos hc1_37, if_pos hc7_39], N0, rfl⟩
    · obtain ⟨fs, hr, hrun, hended, hW, hsame⟩ := X0.leave (v := some (.int (1 : Int32))) (fun h => by rw [Bd.returns] at h; cases h)
      refine ⟨_, _, pre38 _ ?_, hrun, hended, _, _, rfl, ?_, ⟨_, rfl⟩, hW, hsame.mono (by decide) (by decide)⟩
      · show Steps p.tables e below (s₁.setTop (mkF m 7 #[.val (.int p0), .val (.int p1)] [(.int (24 : Int32)), (.int p1)])) _
        refine XS.icmpNo X0.here hx rfl (hb hby d3_7) rfl (flt hc7_39).1 ?_
        show Steps p.tables e below (s₁.setTop (mkF m 10 #[.val (.int p0), .val (.int p1)] [])) _
        refine XS.iconst X0.here hx rfl (hb hby d3_10) ?_
        show Steps p.tables e below (s₁.setTop (mkF m 11 #[.val (.int p0), .val (.int p1)] [(.int (1 : Int32))])) _
        refine XS.goto X0.here hx rfl (pc0 := 11) (pc' := 15) rfl (hb hby d3_11) (by decide) (by decide) ?_
        show Steps p.tables e below (s₁.setTop (mkF m 15 #[.val (.int p0), .val (.int p1)] [(.int (1 : Int32))])) _
        exact retN X0 hx (t := .boolean) Bd.returns (by simp) (hb hby d3_15) hr
      · show Q3 Z p0 p1 h0 n0 _ s₁.heap _
        rw [e0]
        exact ⟨by unfold f3; rw [if_pos hc1_37, if_neg hc7_39], N0, rfl⟩
  · have pre40 : ∀ t, Steps p.tables e below (s₁.setTop (mkF m 18 #[.val (.int p0), .val (.int p1)] [(.int (1 : Int32)), (.int p0)])) t → Steps p.tables e below (s₁.setTop (entryFrame m #[(.int p0), (.int p1)] 2)) t := by
      intro t k
      refine pre36 t ?_
      show Steps p.tables e below (s₁.setTop (mkF m 1 #[.val (.int p0), .val (.int p1)] [(.int p0)])) _
      refine XS.ifYes X0.here hx rfl (pc0 := 1) (pc' := 16) rfl (hb hby d3_1) rfl ((if0 _ _).trans (feq hc1_37).2) (by decide) (by decide) ?_
      show Steps p.tables e below (s₁.setTop (mkF m 16 #[.val (.int p0), .val (.int p1)] [])) _
      refine XS.iloadN X0.here hx rfl (hb hby d3_16) rfl ?_
      show Steps p.tables e below (s₁.setTop (mkF m 17 #[.val (.int p0), .val (.int p1)] [(.int p0)])) _
      refine XS.iconst X0.here hx rfl (hb hby d3_17) ?_
      show Steps p.tables e below (s₁.setTop (mkF m 18 #[.val (.int p0), .val (.int p1)] [(.int (1 : Int32)), (.int p0)])) _
      exact k
    by_cases hc18_41 : p0 = (1 : Int32)
    · have pre42 : ∀ t, Steps p.tables e below (s₁.setTop (mkF m 24 #[.val (.int p0), .val (.int p1)] [(.int (8 : Int32)), (.int p1)])) t → Steps p.tables e below (s₁.setTop (entryFrame m #[(.int p0), (.int p1)] 2)) t := by
        intro t k
        refine pre40 t ?_
        show Steps p.tables e below (s₁.setTop (mkF m 18 #[.val (.int p0), .val (.int p1)] [(.int (1 : Int32)), (.int p0)])) _
        refine XS.icmpNo X0.here hx rfl (hb hby d3_18) rfl (teq hc18_41).2 ?_
        show Steps p.tables e below (s₁.setTop (mkF m 21 #[.val (.int p0), .val (.int p1)] [])) _
        refine XS.iloadN X0.here hx rfl (hb hby d3_21) rfl ?_
        show Steps p.tables e below (s₁.setTop (mkF m 22 #[.val (.int p0), .val (.int p1)] [(.int p1)])) _
        refine XS.bipush X0.here hx rfl (hb hby d3_22) ?_
        show Steps p.tables e below (s₁.setTop (mkF m 24 #[.val (.int p0), .val (.int p1)] [(.int (8 : Int32)), (.int p1)])) _
        exact k
      by_cases hc24_43 : p1 = (8 : Int32)
      · obtain ⟨fs, hr, hrun, hended, hW, hsame⟩ := X0.leave (v := some (.int (1 : Int32))) (fun h => by rw [Bd.returns] at h; cases h)
        refine ⟨_, _, pre42 _ ?_, hrun, hended, _, _, rfl, ?_, ⟨_, rfl⟩, hW, hsame.mono (by decide) (by decide)⟩
        · show Steps p.tables e below (s₁.setTop (mkF m 24 #[.val (.int p0), .val (.int p1)] [(.int (8 : Int32)), (.int p1)])) _
          refine XS.icmpNo X0.here hx rfl (hb hby d3_24) rfl (teq hc24_43).2 ?_
          show Steps p.tables e below (s₁.setTop (mkF m 27 #[.val (.int p0), .val (.int p1)] [])) _
          refine XS.iconst X0.here hx rfl (hb hby d3_27) ?_
          show Steps p.tables e below (s₁.setTop (mkF m 28 #[.val (.int p0), .val (.int p1)] [(.int (1 : Int32))])) _
          refine XS.goto X0.here hx rfl (pc0 := 28) (pc' := 32) rfl (hb hby d3_28) (by decide) (by decide) ?_
          show Steps p.tables e below (s₁.setTop (mkF m 32 #[.val (.int p0), .val (.int p1)] [(.int (1 : Int32))])) _
          exact retN X0 hx (t := .boolean) Bd.returns (by simp) (hb hby d3_32) hr
        · show Q3 Z p0 p1 h0 n0 _ s₁.heap _
          rw [e0]
          exact ⟨by unfold f3; rw [if_neg hc1_37, if_pos hc18_41, if_pos hc24_43], N0, rfl⟩
      · obtain ⟨fs, hr, hrun, hended, hW, hsame⟩ := X0.leave (v := some (.int (0 : Int32))) (fun h => by rw [Bd.returns] at h; cases h)
        refine ⟨_, _, pre42 _ ?_, hrun, hended, _, _, rfl, ?_, ⟨_, rfl⟩, hW, hsame.mono (by decide) (by decide)⟩
        · show Steps p.tables e below (s₁.setTop (mkF m 24 #[.val (.int p0), .val (.int p1)] [(.int (8 : Int32)), (.int p1)])) _
          refine XS.icmpYes X0.here hx rfl (pc0 := 24) (pc' := 31) rfl (hb hby d3_24) rfl (feq hc24_43).2 (by decide) (by decide) ?_
          show Steps p.tables e below (s₁.setTop (mkF m 31 #[.val (.int p0), .val (.int p1)] [])) _
          refine XS.iconst X0.here hx rfl (hb hby d3_31) ?_
          show Steps p.tables e below (s₁.setTop (mkF m 32 #[.val (.int p0), .val (.int p1)] [(.int (0 : Int32))])) _
          exact retN X0 hx (t := .boolean) Bd.returns (by simp) (hb hby d3_32) hr
        · show Q3 Z p0 p1 h0 n0 _ s₁.heap _
          rw [e0]
          exact ⟨by unfold f3; rw [if_neg hc1_37, if_pos hc18_41, if_neg hc24_43], N0, rfl⟩
    · have pre44 : ∀ t, Steps p.tables e below (s₁.setTop (mkF m 35 #[.val (.int p0), .val (.int p1)] [(.int (2 : Int32)), (.int p0)])) t → Steps p.tables e below (s₁.setTop (entryFrame m #[(.int p0), (.int p1)] 2)) t := by
        intro t k
        refine pre40 t ?_
        show Steps p.tables e below (s₁.setTop (mkF m 18 #[.val (.int p0), .val (.int p1)] [(.int (1 : Int32)), (.int p0)])) _
        refine XS.icmpYes X0.here hx rfl (pc0 := 18) (pc' := 33) rfl (hb hby d3_18) rfl (feq hc18_41).2 (by decide) (by decide) ?_
        show Steps p.tables e below (s₁.setTop (mkF m 33 #[.val (.int p0), .val (.int p1)] [])) _
        refine XS.iloadN X0.here hx rfl (hb hby d3_33) rfl ?_
        show Steps p.tables e below (s₁.setTop (mkF m 34 #[.val (.int p0), .val (.int p1)] [(.int p0)])) _
        refine XS.iconst X0.here hx rfl (hb hby d3_34) ?_
        show Steps p.tables e below (s₁.setTop (mkF m 35 #[.val (.int p0), .val (.int p1)] [(.int (2 : Int32)), (.int p0)])) _
        exact k
      by_cases hc35_45 : p0 = (2 : Int32)
      · have pre46 : ∀ t, Steps p.tables e below (s₁.setTop (mkF m 39 #[.val (.int p0), .val (.int p1)] [(.int p1)])) t → Steps p.tables e below (s₁.setTop (entryFrame m #[(.int p0), (.int p1)] 2)) t := by
          intro t k
          refine pre44 t ?_
          show Steps p.tables e below (s₁.setTop (mkF m 35 #[.val (.int p0), .val (.int p1)] [(.int (2 : Int32)), (.int p0)])) _
          refine XS.icmpNo X0.here hx rfl (hb hby d3_35) rfl (teq hc35_45).2 ?_
          show Steps p.tables e below (s₁.setTop (mkF m 38 #[.val (.int p0), .val (.int p1)] [])) _
          refine XS.iloadN X0.here hx rfl (hb hby d3_38) rfl ?_
          show Steps p.tables e below (s₁.setTop (mkF m 39 #[.val (.int p0), .val (.int p1)] [(.int p1)])) _
          exact k
        by_cases hc39_47 : p1 = (0 : Int32)
        · obtain ⟨fs, hr, hrun, hended, hW, hsame⟩ := X0.leave (v := some (.int (1 : Int32))) (fun h => by rw [Bd.returns] at h; cases h)
          refine ⟨_, _, pre46 _ ?_, hrun, hended, _, _, rfl, ?_, ⟨_, rfl⟩, hW, hsame.mono (by decide) (by decide)⟩
          · show Steps p.tables e below (s₁.setTop (mkF m 39 #[.val (.int p0), .val (.int p1)] [(.int p1)])) _
            refine XS.ifNo X0.here hx rfl (hb hby d3_39) rfl ((if0 _ _).trans (teq hc39_47).2) ?_
            show Steps p.tables e below (s₁.setTop (mkF m 42 #[.val (.int p0), .val (.int p1)] [])) _
            refine XS.iconst X0.here hx rfl (hb hby d3_42) ?_
            show Steps p.tables e below (s₁.setTop (mkF m 43 #[.val (.int p0), .val (.int p1)] [(.int (1 : Int32))])) _
            refine XS.goto X0.here hx rfl (pc0 := 43) (pc' := 47) rfl (hb hby d3_43) (by decide) (by decide) ?_
            show Steps p.tables e below (s₁.setTop (mkF m 47 #[.val (.int p0), .val (.int p1)] [(.int (1 : Int32))])) _
            exact retN X0 hx (t := .boolean) Bd.returns (by simp) (hb hby d3_47) hr
          · show Q3 Z p0 p1 h0 n0 _ s₁.heap _
            rw [e0]
            exact ⟨by unfold f3; rw [if_neg hc1_37, if_neg hc18_41, if_pos hc35_45, if_pos hc39_47], N0, rfl⟩
        · obtain ⟨fs, hr, hrun, hended, hW, hsame⟩ := X0.leave (v := some (.int (0 : Int32))) (fun h => by rw [Bd.returns] at h; cases h)
          refine ⟨_, _, pre46 _ ?_, hrun, hended, _, _, rfl, ?_, ⟨_, rfl⟩, hW, hsame.mono (by decide) (by decide)⟩
          · show Steps p.tables e below (s₁.setTop (mkF m 39 #[.val (.int p0), .val (.int p1)] [(.int p1)])) _
            refine XS.ifYes X0.here hx rfl (pc0 := 39) (pc' := 46) rfl (hb hby d3_39) rfl ((if0 _ _).trans (feq hc39_47).2) (by decide) (by decide) ?_
            show Steps p.tables e below (s₁.setTop (mkF m 46 #[.val (.int p0), .val (.int p1)] [])) _
            refine XS.iconst X0.here hx rfl (hb hby d3_46) ?_
            show Steps p.tables e below (s₁.setTop (mkF m 47 #[.val (.int p0), .val (.int p1)] [(.int (0 : Int32))])) _
            exact retN X0 hx (t := .boolean) Bd.returns (by simp) (hb hby d3_47) hr
          · show Q3 Z p0 p1 h0 n0 _ s₁.heap _
            rw [e0]
            exact ⟨by unfold f3; rw [if_neg hc1_37, if_neg hc18_41, if_pos hc35_45, if_neg hc39_47], N0, rfl⟩
      · have pre48 : ∀ t, Steps p.tables e below (s₁.setTop (mkF m 50 #[.val (.int p0), .val (.int p1)] [(.int (3 : Int32)), (.int p0)])) t → Steps p.tables e below (s₁.setTop (entryFrame m #[(.int p0), (.int p1)] 2)) t := by
          intro t k
          refine pre44 t ?_
          show Steps p.tables e below (s₁.setTop (mkF m 35 #[.val (.int p0), .val (.int p1)] [(.int (2 : Int32)), (.int p0)])) _
          refine XS.icmpYes X0.here hx rfl (pc0 := 35) (pc' := 48) rfl (hb hby d3_35) rfl (feq hc35_45).2 (by decide) (by decide) ?_
          show Steps p.tables e below (s₁.setTop (mkF m 48 #[.val (.int p0), .val (.int p1)] [])) _
          refine XS.iloadN X0.here hx rfl (hb hby d3_48) rfl ?_
          show Steps p.tables e below (s₁.setTop (mkF m 49 #[.val (.int p0), .val (.int p1)] [(.int p0)])) _
          refine XS.iconst X0.here hx rfl (hb hby d3_49) ?_
          show Steps p.tables e below (s₁.setTop (mkF m 50 #[.val (.int p0), .val (.int p1)] [(.int (3 : Int32)), (.int p0)])) _
          exact k
        by_cases hc50_49 : p0 = (3 : Int32)
        · have pre50 : ∀ t, Steps p.tables e below (s₁.setTop (mkF m 56 #[.val (.int p0), .val (.int p1)] [(.int (9 : Int32)), (.int p1)])) t → Steps p.tables e below (s₁.setTop (entryFrame m #[(.int p0), (.int p1)] 2)) t := by
            intro t k
            refine pre48 t ?_
            show Steps p.tables e below (s₁.setTop (mkF m 50 #[.val (.int p0), .val (.int p1)] [(.int (3 : Int32)), (.int p0)])) _
            refine XS.icmpNo X0.here hx rfl (hb hby d3_50) rfl (teq hc50_49).2 ?_
            show Steps p.tables e below (s₁.setTop (mkF m 53 #[.val (.int p0), .val (.int p1)] [])) _
            refine XS.iloadN X0.here hx rfl (hb hby d3_53) rfl ?_
            show Steps p.tables e below (s₁.setTop (mkF m 54 #[.val (.int p0), .val (.int p1)] [(.int p1)])) _
            refine XS.bipush X0.here hx rfl (hb hby d3_54) ?_
            show Steps p.tables e below (s₁.setTop (mkF m 56 #[.val (.int p0), .val (.int p1)] [(.int (9 : Int32)), (.int p1)])) _
            exact k
          by_cases hc56_51 : p1 = (9 : Int32)
          · obtain ⟨fs, hr, hrun, hended, hW, hsame⟩ := X0.leave (v := some (.int (1 : Int32))) (fun h => by rw [Bd.returns] at h; cases h)
            refine ⟨_, _, pre50 _ ?_, hrun, hended, _, _, rfl, ?_, ⟨_, rfl⟩, hW, hsame.mono (by decide) (by decide)⟩
            · show Steps p.tables e below (s₁.setTop (mkF m 56 #[.val (.int p0), .val (.int p1)] [(.int (9 : Int32)), (.int p1)])) _
              refine XS.icmpNo X0.here hx rfl (hb hby d3_56) rfl (teq hc56_51).2 ?_
              show Steps p.tables e below (s₁.setTop (mkF m 59 #[.val (.int p0), .val (.int p1)] [])) _
              refine XS.iconst X0.here hx rfl (hb hby d3_59) ?_
              show Steps p.tables e below (s₁.setTop (mkF m 60 #[.val (.int p0), .val (.int p1)] [(.int (1 : Int32))])) _
              refine XS.goto X0.here hx rfl (pc0 := 60) (pc' := 64) rfl (hb hby d3_60) (by decide) (by decide) ?_
              show Steps p.tables e below (s₁.setTop (mkF m 64 #[.val (.int p0), .val (.int p1)] [(.int (1 : Int32))])) _
              exact retN X0 hx (t := .boolean) Bd.returns (by simp) (hb hby d3_64) hr
            · show Q3 Z p0 p1 h0 n0 _ s₁.heap _
              rw [e0]
              exact ⟨by unfold f3; rw [if_neg hc1_37, if_neg hc18_41, if_neg hc35_45, if_pos hc50_49, if_pos hc56_51], N0, rfl⟩
          · obtain ⟨fs, hr, hrun, hended, hW, hsame⟩ := X0.leave (v := some (.int (0 : Int32))) (fun h => by rw [Bd.returns] at h; cases h)
            refine ⟨_, _, pre50 _ ?_, hrun, hended, _, _, rfl, ?_, ⟨_, rfl⟩, hW, hsame.mono (by decide) (by decide)⟩
            · show Steps p.tables e below (s₁.setTop (mkF m 56 #[.val (.int p0), .val (.int p1)] [(.int (9 : Int32)), (.int p1)])) _
              refine XS.icmpYes X0.here hx rfl (pc0 := 56) (pc' := 63) rfl (hb hby d3_56) rfl (feq hc56_51).2 (by decide) (by decide) ?_
              show Steps p.tables e below (s₁.setTop (mkF m 63 #[.val (.int p0), .val (.int p1)] [])) _
              refine XS.iconst X0.here hx rfl (hb hby d3_63) ?_
              show Steps p.tables e below (s₁.setTop (mkF m 64 #[.val (.int p0), .val (.int p1)] [(.int (0 : Int32))])) _
              exact retN X0 hx (t := .boolean) Bd.returns (by simp) (hb hby d3_64) hr
            · show Q3 Z p0 p1 h0 n0 _ s₁.heap _
              rw [e0]
              exact ⟨by unfold f3; rw [if_neg hc1_37, if_neg hc18_41, if_neg hc35_45, if_pos hc50_49, if_neg hc56_51], N0, rfl⟩
        · have pre52 : ∀ t, Steps p.tables e below (s₁.setTop (mkF m 68 #[.val (.int p0), .val (.int p1)] [(.int (24 : Int32)), (.int p1)])) t → Steps p.tables e below (s₁.setTop (entryFrame m #[(.int p0), (.int p1)] 2)) t := by
            intro t k
            refine pre48 t ?_
            show Steps p.tables e below (s₁.setTop (mkF m 50 #[.val (.int p0), .val (.int p1)] [(.int (3 : Int32)), (.int p0)])) _
            refine XS.icmpYes X0.here hx rfl (pc0 := 50) (pc' := 65) rfl (hb hby d3_50) rfl (feq hc50_49).2 (by decide) (by decide) ?_
            show Steps p.tables e below (s₁.setTop (mkF m 65 #[.val (.int p0), .val (.int p1)] [])) _
            refine XS.iloadN X0.here hx rfl (hb hby d3_65) rfl ?_
            show Steps p.tables e below (s₁.setTop (mkF m 66 #[.val (.int p0), .val (.int p1)] [(.int p1)])) _
            refine XS.bipush X0.here hx rfl (hb hby d3_66) ?_
            show Steps p.tables e below (s₁.setTop (mkF m 68 #[.val (.int p0), .val (.int p1)] [(.int (24 : Int32)), (.int p1)])) _
            exact k
          by_cases hc68_53 : p1 = (24 : Int32)
          · obtain ⟨fs, hr, hrun, hended, hW, hsame⟩ := X0.leave (v := some (.int (1 : Int32))) (fun h => by rw [Bd.returns] at h; cases h)
            refine ⟨_, _, pre52 _ ?_, hrun, hended, _, _, rfl, ?_, ⟨_, rfl⟩, hW, hsame.mono (by decide) (by decide)⟩
            · show Steps p.tables e below (s₁.setTop (mkF m 68 #[.val (.int p0), .val (.int p1)] [(.int (24 : Int32)), (.int p1)])) _
              refine XS.icmpNo X0.here hx rfl (hb hby d3_68) rfl (teq hc68_53).2 ?_
              show Steps p.tables e below (s₁.setTop (mkF m 71 #[.val (.int p0), .val (.int p1)] [])) _
              refine XS.iconst X0.here hx rfl (hb hby d3_71) ?_
              show Steps p.tables e below (s₁.setTop (mkF m 72 #[.val (.int p0), .val (.int p1)] [(.int (1 : Int32))])) _
              refine XS.goto X0.here hx rfl (pc0 := 72) (pc' := 76) rfl (hb hby d3_72) (by decide) (by decide) ?_
              show Steps p.tables e below (s₁.setTop (mkF m 76 #[.val (.int p0), .val (.int p1)] [(.int (1 : Int32))])) _
              exact retN X0 hx (t := .boolean) Bd.returns (by simp) (hb hby d3_76) hr
            · show Q3 Z p0 p1 h0 n0 _ s₁.heap _
              rw [e0]
              exact ⟨by unfold f3; rw [if_neg hc1_37, if_neg hc18_41, if_neg hc35_45, if_neg hc50_49, if_pos hc68_53], N0, rfl⟩
          · obtain ⟨fs, hr, hrun, hended, hW, hsame⟩ := X0.leave (v := some (.int (0 : Int32))) (fun h => by rw [Bd.returns] at h; cases h)
            refine ⟨_, _, pre52 _ ?_, hrun, hended, _, _, rfl, ?_, ⟨_, rfl⟩, hW, hsame.mono (by decide) (by decide)⟩
            · show Steps p.tables e below (s₁.setTop (mkF m 68 #[.val (.int p0), .val (.int p1)] [(.int (24 : Int32)), (.int p1)])) _
              refine XS.icmpYes X0.here hx rfl (pc0 := 68) (pc' := 75) rfl (hb hby d3_68) rfl (feq hc68_53).2 (by decide) (by decide) ?_
              show Steps p.tables e below (s₁.setTop (mkF m 75 #[.val (.int p0), .val (.int p1)] [])) _
              refine XS.iconst X0.here hx rfl (hb hby d3_75) ?_
              show Steps p.tables e below (s₁.setTop (mkF m 76 #[.val (.int p0), .val (.int p1)] [(.int (0 : Int32))])) _
              exact retN X0 hx (t := .boolean) Bd.returns (by simp) (hb hby d3_76) hr
            · show Q3 Z p0 p1 h0 n0 _ s₁.heap _
              rw [e0]
              exact ⟨by unfold f3; rw [if_neg hc1_37, if_neg hc18_41, if_neg hc35_45, if_neg hc50_49, if_neg hc68_53], N0, rfl⟩
theorem d4_0 : decode method_3_code 0 = .ok (.iload_n 0, 1) := by decide +kernel
theorem d4_1 : decode method_3_code 1 = .ok (.ifCond .ne 6, 3) := by decide +kernel
theorem d4_4 : decode method_3_code 4 = .ok (.bipush 24, 2) := by decide +kernel
theorem d4_6 : decode method_3_code 6 = .ok (.ireturn, 1) := by decide +kernel
theorem d4_7 : decode method_3_code 7 = .ok (.iload_n 0, 1) := by decide +kernel
theorem d4_8 : decode method_3_code 8 = .ok (.iconst 1, 1) := by decide +kernel
theorem d4_9 : decode method_3_code 9 = .ok (.if_icmp .ne 6, 3) := by decide +kernel
theorem d4_12 : decode method_3_code 12 = .ok (.bipush 8, 2) := by decide +kernel
theorem d4_14 : decode method_3_code 14 = .ok (.ireturn, 1) := by decide +kernel
theorem d4_15 : decode method_3_code 15 = .ok (.iload_n 0, 1) := by decide +kernel
theorem d4_16 : decode method_3_code 16 = .ok (.iconst 2, 1) := by decide +kernel
theorem d4_17 : decode method_3_code 17 = .ok (.if_icmp .ne 5, 3) := by decide +kernel
theorem d4_20 : decode method_3_code 20 = .ok (.iconst 0, 1) := by decide +kernel
theorem d4_21 : decode method_3_code 21 = .ok (.ireturn, 1) := by decide +kernel
theorem d4_22 : decode method_3_code 22 = .ok (.iload_n 0, 1) := by decide +kernel
theorem d4_23 : decode method_3_code 23 = .ok (.iconst 3, 1) := by decide +kernel
theorem d4_24 : decode method_3_code 24 = .ok (.if_icmp .ne 6, 3) := by decide +kernel
theorem d4_27 : decode method_3_code 27 = .ok (.bipush 9, 2) := by decide +kernel
theorem d4_29 : decode method_3_code 29 = .ok (.ireturn, 1) := by decide +kernel
theorem d4_30 : decode method_3_code 30 = .ok (.bipush 24, 2) := by decide +kernel
theorem d4_32 : decode method_3_code 32 = .ok (.ireturn, 1) := by decide +kernel
theorem ef_4 (m : MethodId) (x0 : Int32) : entryFrame m #[(.int x0)] 1 = mkF m 0 #[.val (.int x0)] [] := by first | (simp [entryFrame, mkF, argsToLocals, Value.category]; done) | rfl
def f4 (p0 : Int32) : Int32 := (if p0 = (0 : Int32) then (24 : Int32) else (if p0 = (1 : Int32) then (8 : Int32) else (if p0 = (2 : Int32) then (0 : Int32) else (if p0 = (3 : Int32) then (9 : Int32) else (24 : Int32)))))
def Q4 (Z : State) (p0 : Int32) (h0 : Heap) (n0 : Nat) (v : Option Value) (h : Heap) (L : List Loc) : Prop := v = some (.int (f4 p0)) ∧ Fr n0 L ∧ h = h0
set_option maxRecDepth 65536 in
set_option maxHeartbeats 40000000 in
theorem rm4 (l : Launch) (Z : State) (ar0 : Array Value) (hw : ∀ d ∈ tables_1, d.before ar0 Z = true) (ws : List Jvm.Cond) (p0 : Int32) (h0 : Heap) (n0 : Nat) (Z0 : n0 ≤ h0.size) :
    MetFree l (⟨"com/example/careful_quorum/carefulquorum/storage/EntryTypeFitsPinLaw", "base", "(I)I"⟩ : MethodName) (head1 (Jvm.Cond.code (⟨"com/example/careful_quorum/carefulquorum/storage/EntryTypeFitsPinLaw", "base", "(I)I"⟩ : MethodName) method_3_code 1 (some .int) :: ws) ({ frames := 0, cells := 0, slots := 0, locals := 0 } : Room)) (fun a U => a = #[(.int p0)] ∧ Z.Warmed39 U.vm ∧ U.heap = h0) (fun _ _ _ _ _ => True) (fun _ U o U' => ∃ v L, o = .returned v ∧ Q4 Z p0 h0 n0 v U'.heap L ∧ FrameEnd U o U' L ({ frames := 0, cells := 0, slots := 0, locals := 0 } : Room).cells ({ frames := 0, cells := 0, slots := 0, locals := 0 } : Room).slots) := by
  refine MetFree.of_bodySF (plainFor_of_name pn_0) hisR ?_
  intro p e s m args below meth c s₁ Bd hml0 hP hK
  obtain ⟨rfl, hZ, hh⟩ := hP
  have hx := Bd.exec
  have hby := Bd.bytes
  have hml : c.maxLocals = 1 := hml0
  have hown : s.vm.findClass "com/example/careful_quorum/carefulquorum/storage/EntryTypeFitsPinLaw" = some m.cls := findClass_of_methodNamed Bd.named
  have hnm := (name_of_methodNamed Bd.named Bd.method).1
  have X0 : Stand p l e ({ frames := 0, cells := 0, slots := 0, locals := 0 } : Room) s m #[(.int p0)] below meth c s₁ [] 0 0 := Stand.of_body Bd
  have e0 : s₁.heap = h0 := by rw [← hh, Bd.state]; rfl
  have N0 := Fr.nil n0
  have pre0 : ∀ t, Steps p.tables e below (s₁.setTop (mkF m 0 #[.val (.int p0)] [])) t → Steps p.tables e below (s₁.setTop (entryFrame m #[(.int p0)] 1)) t := fun t k => castTop (ef_4 m p0) k
  have pre54 : ∀ t, Steps p.tables e below (s₁.setTop (mkF m 1 #[.val (.int p0)] [(.int p0)])) t → Steps p.tables e below (s₁.setTop (entryFrame m #[(.int p0)] 1)) t := by
    intro t k
    refine pre0 t ?_
    show Steps p.tables e below (s₁.setTop (mkF m 0 #[.val (.int p0)] [])) _
    refine XS.iloadN X0.here hx rfl (hb hby d4_0) rfl ?_
    show Steps p.tables e below (s₁.setTop (mkF m 1 #[.val (.int p0)] [(.int p0)])) _
    exact k
  by_cases hc1_55 : p0 = (0 : Int32)
  · obtain ⟨fs, hr, hrun, hended, hW, hsame⟩ := X0.leave (v := some (.int (24 : Int32))) (fun h => by rw [Bd.returns] at h; cases h)
    refine ⟨_, _, pre54 _ ?_, hrun, hended, _, _, rfl, ?_, ⟨_, rfl⟩, hW, hsame.mono (by decide) (by decide)⟩
    · show Steps p.tables e below (s₁.setTop (mkF m 1 #[.val (.int p0)] [(.int p0)])) _
      refine XS.ifNo X0.here hx rfl (hb hby d4_1) rfl ((if0 _ _).trans (teq hc1_55).2) ?_
      show Steps p.tables e below (s₁.setTop (mkF m 4 #[.val (.int p0)] [])) _
      refine XS.bipush X0.here hx rfl (hb hby d4_4) ?_
      show Steps p.tables e below (s₁.setTop (mkF m 6 #[.val (.int p0)] [(.int (24 : Int32))])) _
      exact retOut X0 hx Bd.returns rfl (Or.inl ⟨rfl, Or.inl rfl, _, rfl⟩) (hb hby d4_6) hr
    · show Q4 Z p0 h0 n0 _ s₁.heap _
      rw [e0]
      exact ⟨by unfold f4; rw [if_pos hc1_55], N0, rfl⟩
  · have pre56 : ∀ t, Steps p.tables e below (s₁.setTop (mkF m 9 #[.val (.int p0)] [(.int (1 : Int32)), (.int p0)])) t → Steps p.tables e below (s₁.setTop (entryFrame m #[(.int p0)] 1)) t := by
      intro t k
      refine pre54 t ?_
      show Steps p.tables e below (s₁.setTop (mkF m 1 #[.val (.int p0)] [(.int p0)])) _
      refine XS.ifYes X0.here hx rfl (pc0 := 1) (pc' := 7) rfl (hb hby d4_1) rfl ((if0 _ _).trans (feq hc1_55).2) (by decide) (by decide) ?_
      show Steps p.tables e below (s₁.setTop (mkF m 7 #[.val (.int p0)] [])) _
      refine XS.iloadN X0.here hx rfl (hb hby d4_7) rfl ?_
      show Steps p.tables e below (s₁.setTop (mkF m 8 #[.val (.int p0)] [(.int p0)])) _
      refine XS.iconst X0.here hx rfl (hb hby d4_8) ?_
      show Steps p.tables e below (s₁.setTop (mkF m 9 #[.val (.int p0)] [(.int (1 : Int32)), (.int p0)])) _
      exact k
    by_cases hc9_57 : p0 = (1 : Int32)
    · obtain ⟨fs, hr, hrun, hended, hW, hsame⟩ := X0.leave (v := some (.int (8 : Int32))) (fun h => by rw [Bd.returns] at h; cases h)
      refine ⟨_, _, pre56 _ ?_, hrun, hended, _, _, rfl, ?_, ⟨_, rfl⟩, hW, hsame.mono (by decide) (by decide)⟩
      · show Steps p.tables e below (s₁.setTop (mkF m 9 #[.val (.int p0)] [(.int (1 : Int32)), (.int p0)])) _
        refine XS.icmpNo X0.here hx rfl (hb hby d4_9) rfl (teq hc9_57).2 ?_
        show Steps p.tables e below (s₁.setTop (mkF m 12 #[.val (.int p0)] [])) _
        refine XS.bipush X0.here hx rfl (hb hby d4_12) ?_
        show Steps p.tables e below (s₁.setTop (mkF m 14 #[.val (.int p0)] [(.int (8 : Int32))])) _
        exact retOut X0 hx Bd.returns rfl (Or.inl ⟨rfl, Or.inl rfl, _, rfl⟩) (hb hby d4_14) hr
      · show Q4 Z p0 h0 n0 _ s₁.heap _
        rw [e0]
        exact ⟨by unfold f4; rw [if_neg hc1_55, if_pos hc9_57], N0, rfl⟩
    · have pre58 : ∀ t, Steps p.tables e below (s₁.setTop (mkF m 17 #[.val (.int p0)] [(.int (2 : Int32)), (.int p0)])) t → Steps p.tables e below (s₁.setTop (entryFrame m #[(.int p0)] 1)) t := by
        intro t k
        refine pre56 t ?_
        show Steps p.tables e below (s₁.setTop (mkF m 9 #[.val (.int p0)] [(.int (1 : Int32)), (.int p0)])) _
        refine XS.icmpYes X0.here hx rfl (pc0 := 9) (pc' := 15) rfl (hb hby d4_9) rfl (feq hc9_57).2 (by decide) (by decide) ?_
        show Steps p.tables e below (s₁.setTop (mkF m 15 #[.val (.int p0)] [])) _
        refine XS.iloadN X0.here hx rfl (hb hby d4_15) rfl ?_
        show Steps p.tables e below (s₁.setTop (mkF m 16 #[.val (.int p0)] [(.int p0)])) _
        refine XS.iconst X0.here hx rfl (hb hby d4_16) ?_
        show Steps p.tables e below (s₁.setTop (mkF m 17 #[.val (.int p0)] [(.int (2 : Int32)), (.int p0)])) _
        exact k
      by_cases hc17_59 : p0 = (2 : Int32)
      · obtain ⟨fs, hr, hrun, hended, hW, hsame⟩ := X0.leave (v := some (.int (0 : Int32))) (fun h => by rw [Bd.returns] at h; cases h)
        refine ⟨_, _, pre58 _ ?_, hrun, hended, _, _, rfl, ?_, ⟨_, rfl⟩, hW, hsame.mono (by decide) (by decide)⟩
        · show Steps p.tables e below (s₁.setTop (mkF m 17 #[.val (.int p0)] [(.int (2 : Int32)), (.int p0)])) _
          refine XS.icmpNo X0.here hx rfl (hb hby d4_17) rfl (teq hc17_59).2 ?_
          show Steps p.tables e below (s₁.setTop (mkF m 20 #[.val (.int p0)] [])) _
          refine XS.iconst X0.here hx rfl (hb hby d4_20) ?_
          show Steps p.tables e below (s₁.setTop (mkF m 21 #[.val (.int p0)] [(.int (0 : Int32))])) _
          exact retOut X0 hx Bd.returns rfl (Or.inl ⟨rfl, Or.inl rfl, _, rfl⟩) (hb hby d4_21) hr
        · show Q4 Z p0 h0 n0 _ s₁.heap _
          rw [e0]
          exact ⟨by unfold f4; rw [if_neg hc1_55, if_neg hc9_57, if_pos hc17_59], N0, rfl⟩
      · have pre60 : ∀ t, Steps p.tables e below (s₁.setTop (mkF m 24 #[.val (.int p0)] [(.int (3 : Int32)), (.int p0)])) t → Steps p.tables e below (s₁.setTop (entryFrame m #[(.int p0)] 1)) t := by
          intro t k
          refine pre58 t ?_
          show Steps p.tables e below (s₁.setTop (mkF m 17 #[.val (.int p0)] [(.int (2 : Int32)), (.int p0)])) _
          refine XS.icmpYes X0.here hx rfl (pc0 := 17) (pc' := 22) rfl (hb hby d4_17) rfl (feq hc17_59).2 (by decide) (by decide) ?_
          show Steps p.tables e below (s₁.setTop (mkF m 22 #[.val (.int p0)] [])) _
          refine XS.iloadN X0.here hx rfl (hb hby d4_22) rfl ?_
          show Steps p.tables e below (s₁.setTop (mkF m 23 #[.val (.int p0)] [(.int p0)])) _
          refine XS.iconst X0.here hx rfl (hb hby d4_23) ?_
          show Steps p.tables e below (s₁.setTop (mkF m 24 #[.val (.int p0)] [(.int (3 : Int32)), (.int p0)])) _
          exact k
        by_cases hc24_61 : p0 = (3 : Int32)
        · obtain ⟨fs, hr, hrun, hended, hW, hsame⟩ := X0.leave (v := some (.int (9 : Int32))) (fun h => by rw [Bd.returns] at h; cases h)
          refine ⟨_, _, pre60 _ ?_, hrun, hended, _, _, rfl, ?_, ⟨_, rfl⟩, hW, hsame.mono (by decide) (by decide)⟩
          · show Steps p.tables e below (s₁.setTop (mkF m 24 #[.val (.int p0)] [(.int (3 : Int32)), (.int p0)])) _
            refine XS.icmpNo X0.here hx rfl (hb hby d4_24) rfl (teq hc24_61).2 ?_
            show Steps p.tables e below (s₁.setTop (mkF m 27 #[.val (.int p0)] [])) _
            refine XS.bipush X0.here hx rfl (hb hby d4_27) ?_
            show Steps p.tables e below (s₁.setTop (mkF m 29 #[.val (.int p0)] [(.int (9 : Int32))])) _
            exact retOut X0 hx Bd.returns rfl (Or.inl ⟨rfl, Or.inl rfl, _, rfl⟩) (hb hby d4_29) hr
          · show Q4 Z p0 h0 n0 _ s₁.heap _
            rw [e0]
            exact ⟨by unfold f4; rw [if_neg hc1_55, if_neg hc9_57, if_neg hc17_59, if_pos hc24_61], N0, rfl⟩
        · obtain ⟨fs, hr, hrun, hended, hW, hsame⟩ := X0.leave (v := some (.int (24 : Int32))) (fun h => by rw [Bd.returns] at h; cases h)
          refine ⟨_, _, pre60 _ ?_, hrun, hended, _, _, rfl, ?_, ⟨_, rfl⟩, hW, hsame.mono (by decide) (by decide)⟩
          · show Steps p.tables e below (s₁.setTop (mkF m 24 #[.val (.int p0)] [(.int (3 : Int32)), (.int p0)])) _
            refine XS.icmpYes X0.here hx rfl (pc0 := 24) (pc' := 30) rfl (hb hby d4_24) rfl (feq hc24_61).2 (by decide) (by decide) ?_
            show Steps p.tables e below (s₁.setTop (mkF m 30 #[.val (.int p0)] [])) _
            refine XS.bipush X0.here hx rfl (hb hby d4_30) ?_
            show Steps p.tables e below (s₁.setTop (mkF m 32 #[.val (.int p0)] [(.int (24 : Int32))])) _
            exact retOut X0 hx Bd.returns rfl (Or.inl ⟨rfl, Or.inl rfl, _, rfl⟩) (hb hby d4_32) hr
          · show Q4 Z p0 h0 n0 _ s₁.heap _
            rw [e0]
            exact ⟨by unfold f4; rw [if_neg hc1_55, if_neg hc9_57, if_neg hc17_59, if_neg hc24_61], N0, rfl⟩
theorem own_eqI {a : Term} {k : Int32} {args : Array Value} {first s : State} {o : Option Outcome} {idx : List Nat} (h : (Cond.eq a (.int k)).value args first o s idx = some true) : a.eval args first o idx s = some (.int k) := by
  simp only [Cond.value, Term.eval] at h
  cases ha : a.eval args first o idx s with
  | none => simp [ha] at h
  | some x => cases x <;> simp [ha] at h ⊢; exact h
theorem own_eqJ {a : Term} {k : Int64} {args : Array Value} {first s : State} {o : Option Outcome} {idx : List Nat} (h : (Cond.eq a (.long k)).value args first o s idx = some true) : a.eval args first o idx s = some (.long k) := by
  simp only [Cond.value, Term.eval] at h
  cases ha : a.eval args first o idx s with
  | none => simp [ha] at h
  | some x => cases x <;> simp [ha] at h ⊢; exact h
theorem pd_0 : parseMethodDescriptor "(I)I" = some ⟨[.int], some .int⟩ := by decide +kernel
theorem pd_1 : parseMethodDescriptor "(I)Lcom/example/careful_quorum/carefulquorum/storage/EntryType;" = some ⟨[.int], some (.object "com/example/careful_quorum/carefulquorum/storage/EntryType")⟩ := by decide +kernel
theorem pd_2 : parseMethodDescriptor "(I)Z" = some ⟨[.int], some .boolean⟩ := by decide +kernel
theorem pd_3 : parseMethodDescriptor "(II)Z" = some ⟨[.int, .int], some .boolean⟩ := by decide +kernel
theorem ef_0 (m : MethodId) (x0 : Int32) (x1 : Int32) (x2 : Int32) : entryFrame m #[(.int x0), (.int x1), (.int x2)] maxLocals = mkF m 0 #[.val (.int x0), .val (.int x1), .val (.int x2), .unset, .unset, .unset] [] := by first | (simp [entryFrame, mkF, argsToLocals, Value.category, maxLocals]; done) | rfl
def Q0 (Z : State) (p0 : Int32) (p1 : Int32) (p2 : Int32) (s_MESSAGE : Addr) (s_NEW_TERM : Addr) (s_SESSION_OPEN : Addr) (s_SESSION_CLOSE : Addr) (s_TIMER_FIRED : Addr) (h0 : Heap) (n0 : Nat) (v : Option Value) (h : Heap) (L : List Loc) : Prop := v = some (.int 1) ∧ Fr n0 L
theorem own_leaf1 {p0 : Int32} {p1 : Int32} {p2 : Int32} {v63 : Int32} {v72 : Int32} (hv63 : v63 = ((p0 &&& (2147483647 : Int32)) % (5 : Int32))) (hv72 : v72 = (if (p2 &&& (1 : Int32)) = (0 : Int32) then p1 else ((f4 v63) + (p1 % (3 : Int32))))) (hf78 : v63 = (0 : Int32)) (hc46_87 : ¬ ((f2 v72 (1 : Int32) (24 : Int32)) = (f3 v63 v72))) : False := by
  simp_all [f2, f3]
theorem own_leaf2 {p0 : Int32} {p1 : Int32} {p2 : Int32} {v63 : Int32} {v72 : Int32} (hv63 : v63 = ((p0 &&& (2147483647 : Int32)) % (5 : Int32))) (hv72 : v72 = (if (p2 &&& (1 : Int32)) = (0 : Int32) then p1 else ((f4 v63) + (p1 % (3 : Int32))))) (hf78 : ¬ (v63 = (0 : Int32))) (hf89 : v63 = (1 : Int32)) (hc46_98 : ¬ ((f2 v72 (0 : Int32) (8 : Int32)) = (f3 v63 v72))) : False := by
  simp_all [f2, f3]
theorem own_leaf3 {p0 : Int32} {p1 : Int32} {p2 : Int32} {v63 : Int32} {v72 : Int32} (hv63 : v63 = ((p0 &&& (2147483647 : Int32)) % (5 : Int32))) (hv72 : v72 = (if (p2 &&& (1 : Int32)) = (0 : Int32) then p1 else ((f4 v63) + (p1 % (3 : Int32))))) (hf78 : ¬ (v63 = (0 : Int32))) (hf89 : ¬ (v63 = (1 : Int32))) (hf100 : v63 = (2 : Int32)) (hc46_109 : ¬ ((f2 v72 (0 : Int32) (0 : Int32)) = (f3 v63 v72))) : False := by
  simp_all [f2, f3]
theorem own_leaf4 {p0 : Int32} {p1 : Int32} {p2 : Int32} {v63 : Int32} {v72 : Int32} (hv63 : v63 = ((p0 &&& (2147483647 : Int32)) % (5 : Int32))) (hv72 : v72 = (if (p2 &&& (1 : Int32)) = (0 : Int32) then p1 else ((f4 v63) + (p1 % (3 : Int32))))) (hf78 : ¬ (v63 = (0 : Int32))) (hf89 : ¬ (v63 = (1 : Int32))) (hf100 : ¬ (v63 = (2 : Int32))) (hf111 : v63 = (3 : Int32)) (hc46_120 : ¬ ((f2 v72 (0 : Int32) (9 : Int32)) = (f3 v63 v72))) : False := by
  simp_all [f2, f3]
theorem own_leaf5 {p0 : Int32} {p1 : Int32} {p2 : Int32} {v63 : Int32} {v72 : Int32} (hv63 : v63 = ((p0 &&& (2147483647 : Int32)) % (5 : Int32))) (hv72 : v72 = (if (p2 &&& (1 : Int32)) = (0 : Int32) then p1 else ((f4 v63) + (p1 % (3 : Int32))))) (hf78 : ¬ (v63 = (0 : Int32))) (hf89 : ¬ (v63 = (1 : Int32))) (hf100 : ¬ (v63 = (2 : Int32))) (hf111 : ¬ (v63 = (3 : Int32))) (hc46_130 : ¬ ((f2 v72 (0 : Int32) (24 : Int32)) = (f3 v63 v72))) : False := by
  simp_all [f2, f3]
set_option maxRecDepth 65536 in
set_option maxHeartbeats 40000000 in
theorem rm0 (l : Launch) (Z : State) (ar0 : Array Value) (hw : ∀ d ∈ tables_1, d.before ar0 Z = true) (ws : List Jvm.Cond) (p0 : Int32) (p1 : Int32) (p2 : Int32) (s_MESSAGE : Addr) (s_NEW_TERM : Addr) (s_SESSION_OPEN : Addr) (s_SESSION_CLOSE : Addr) (s_TIMER_FIRED : Addr) (h0 : Heap) (n0 : Nat) (Z0 : n0 ≤ h0.size) (S_MESSAGE : Sta Z h0 "com/example/careful_quorum/carefulquorum/storage/EntryType" "MESSAGE" "Lcom/example/careful_quorum/carefulquorum/storage/EntryType;" (.ref s_MESSAGE)) (S_NEW_TERM : Sta Z h0 "com/example/careful_quorum/carefulquorum/storage/EntryType" "NEW_TERM" "Lcom/example/careful_quorum/carefulquorum/storage/EntryType;" (.ref s_NEW_TERM)) (S_SESSION_OPEN : Sta Z h0 "com/example/careful_quorum/carefulquorum/storage/EntryType" "SESSION_OPEN" "Lcom/example/careful_quorum/carefulquorum/storage/EntryType;" (.ref s_SESSION_OPEN)) (S_SESSION_CLOSE : Sta Z h0 "com/example/careful_quorum/carefulquorum/storage/EntryType" "SESSION_CLOSE" "Lcom/example/careful_quorum/carefulquorum/storage/EntryType;" (.ref s_SESSION_CLOSE)) (S_TIMER_FIRED : Sta Z h0 "com/example/careful_quorum/carefulquorum/storage/EntryType" "TIMER_FIRED" "Lcom/example/careful_quorum/carefulquorum/storage/EntryType;" (.ref s_TIMER_FIRED)) (E_s_MESSAGE : Exa Z h0 s_MESSAGE "com/example/careful_quorum/carefulquorum/storage/EntryType") (F_withPayload_s_MESSAGE : Fld Z h0 s_MESSAGE "com/example/careful_quorum/carefulquorum/storage/EntryType" "withPayload" "Z" (.int (1 : Int32))) (F_fieldBytes_s_MESSAGE : Fld Z h0 s_MESSAGE "com/example/careful_quorum/carefulquorum/storage/EntryType" "fieldBytes" "I" (.int (24 : Int32))) (E_s_NEW_TERM : Exa Z h0 s_NEW_TERM "com/example/careful_quorum/carefulquorum/storage/EntryType") (F_withPayload_s_NEW_TERM : Fld Z h0 s_NEW_TERM "com/example/careful_quorum/carefulquorum/storage/EntryType" "withPayload" "Z" (.int (0 : Int32))) (F_fieldBytes_s_NEW_TERM : Fld Z h0 s_NEW_TERM "com/example/careful_quorum/carefulquorum/storage/EntryType" "fieldBytes" "I" (.int (8 : Int32))) (E_s_SESSION_OPEN : Exa Z h0 s_SESSION_OPEN "com/example/careful_quorum/carefulquorum/storage/EntryType") (F_withPayload_s_SESSION_OPEN : Fld Z h0 s_SESSION_OPEN "com/example/careful_quorum/carefulquorum/storage/EntryType" "withPayload" "Z" (.int (0 : Int32))) (F_fieldBytes_s_SESSION_OPEN : Fld Z h0 s_SESSION_OPEN "com/example/careful_quorum/carefulquorum/storage/EntryType" "fieldBytes" "I" (.int (0 : Int32))) (E_s_SESSION_CLOSE : Exa Z h0 s_SESSION_CLOSE "com/example/careful_quorum/carefulquorum/storage/EntryType") (F_withPayload_s_SESSION_CLOSE : Fld Z h0 s_SESSION_CLOSE "com/example/careful_quorum/carefulquorum/storage/EntryType" "withPayload" "Z" (.int (0 : Int32))) (F_fieldBytes_s_SESSION_CLOSE : Fld Z h0 s_SESSION_CLOSE "com/example/careful_quorum/carefulquorum/storage/EntryType" "fieldBytes" "I" (.int (9 : Int32))) (E_s_TIMER_FIRED : Exa Z h0 s_TIMER_FIRED "com/example/careful_quorum/carefulquorum/storage/EntryType") (F_withPayload_s_TIMER_FIRED : Fld Z h0 s_TIMER_FIRED "com/example/careful_quorum/carefulquorum/storage/EntryType" "withPayload" "Z" (.int (0 : Int32))) (F_fieldBytes_s_TIMER_FIRED : Fld Z h0 s_TIMER_FIRED "com/example/careful_quorum/carefulquorum/storage/EntryType" "fieldBytes" "I" (.int (24 : Int32))) :
    MetFree l x (head1 (Jvm.Cond.code x code maxLocals ret :: ws) room_1) (fun a U => a = #[(.int p0), (.int p1), (.int p2)] ∧ Z.Warmed39 U.vm ∧ U.heap = h0) (fun _ _ _ _ _ => True) (fun _ U o U' => ∃ v L, o = .returned v ∧ Q0 Z p0 p1 p2 s_MESSAGE s_NEW_TERM s_SESSION_OPEN s_SESSION_CLOSE s_TIMER_FIRED h0 n0 v U'.heap L ∧ FrameEnd U o U' L room_1.cells room_1.slots) := by
  refine MetFree.of_bodySF (plainFor_of_name pn_0) hisR ?_
  intro p e s m args below meth c s₁ Bd hml0 hP hK
  obtain ⟨rfl, hZ, hh⟩ := hP
  have hx := Bd.exec
  have hby := Bd.bytes
  have hml : c.maxLocals = 6 := hml0
  have hown : s.vm.findClass "com/example/careful_quorum/carefulquorum/storage/EntryTypeFitsPinLaw" = some m.cls := findClass_of_methodNamed Bd.named
  have hnm := (name_of_methodNamed Bd.named Bd.method).1
  have X0 : Stand p l e room_1 s m #[(.int p0), (.int p1), (.int p2)] below meth c s₁ [] 0 0 := Stand.of_body Bd
  have e0 : s₁.heap = h0 := by rw [← hh, Bd.state]; rfl
  have N0 := Fr.nil n0
  have pre0 : ∀ t, Steps p.tables e below (s₁.setTop (mkF m 0 #[.val (.int p0), .val (.int p1), .val (.int p2), .unset, .unset, .unset] [])) t → Steps p.tables e below (s₁.setTop (entryFrame m #[(.int p0), (.int p1), (.int p2)] maxLocals)) t := fun t k => castTop (ef_0 m p0 p1 p2) k
  have pre62 : ∀ t, Steps p.tables e below (s₁.setTop (mkF m 6 #[.val (.int p0), .val (.int p1), .val (.int p2), .unset, .unset, .unset] [(.int ((p0 &&& (2147483647 : Int32)) % (5 : Int32)))])) t → Steps p.tables e below (s₁.setTop (entryFrame m #[(.int p0), (.int p1), (.int p2)] maxLocals)) t := by
    intro t k
    refine pre0 t ?_
    show Steps p.tables e below (s₁.setTop (mkF m 0 #[.val (.int p0), .val (.int p1), .val (.int p2), .unset, .unset, .unset] [])) _
    refine XS.iloadN X0.here hx rfl (hb hby at_0) rfl ?_
    show Steps p.tables e below (s₁.setTop (mkF m 1 #[.val (.int p0), .val (.int p1), .val (.int p2), .unset, .unset, .unset] [(.int p0)])) _
    refine X0.ldcInt hx hown (mvT hZ (hw _ (List.mem_of_getElem? (i := 0) rfl))) (g := (mkF m 1 #[.val (.int p0), .val (.int p1), .val (.int p2), .unset, .unset, .unset] [(.int p0)])) rfl (hb hby at_1) _ ?_
    show Steps p.tables e below (s₁.setTop (mkF m 3 #[.val (.int p0), .val (.int p1), .val (.int p2), .unset, .unset, .unset] [(.int (2147483647 : Int32)), (.int p0)])) _
    refine XS.iand X0.here hx rfl (hb hby at_3) rfl ?_
    show Steps p.tables e below (s₁.setTop (mkF m 4 #[.val (.int p0), .val (.int p1), .val (.int p2), .unset, .unset, .unset] [(.int (p0 &&& (2147483647 : Int32)))])) _
    refine XS.iconst X0.here hx rfl (hb hby at_4) ?_
    show Steps p.tables e below (s₁.setTop (mkF m 5 #[.val (.int p0), .val (.int p1), .val (.int p2), .unset, .unset, .unset] [(.int (5 : Int32)), (.int (p0 &&& (2147483647 : Int32)))])) _
    refine iremM X0 hx rfl (hb hby at_5) rfl (by decide) ?_
    show Steps p.tables e below (s₁.setTop (mkF m 6 #[.val (.int p0), .val (.int p1), .val (.int p2), .unset, .unset, .unset] [(.int ((p0 &&& (2147483647 : Int32)) % (5 : Int32)))])) _
    exact k
  obtain ⟨v63, hv63⟩ : ∃ z : Int32, z = ((p0 &&& (2147483647 : Int32)) % (5 : Int32)) := ⟨_, rfl⟩
  have pre64 : ∀ t, Steps p.tables e below (s₁.setTop (mkF m 6 #[.val (.int p0), .val (.int p1), .val (.int p2), .unset, .unset, .unset] [(.int v63)])) t → Steps p.tables e below (s₁.setTop (entryFrame m #[(.int p0), (.int p1), (.int p2)] maxLocals)) t := by rw [hv63]; exact pre62
  have pre65 : ∀ t, Steps p.tables e below (s₁.setTop (mkF m 10 #[.val (.int p0), .val (.int p1), .val (.int p2), .val (.int v63), .unset, .unset] [(.int (p2 &&& (1 : Int32)))])) t → Steps p.tables e below (s₁.setTop (entryFrame m #[(.int p0), (.int p1), (.int p2)] maxLocals)) t := by
    intro t k
    refine pre64 t ?_
    show Steps p.tables e below (s₁.setTop (mkF m 6 #[.val (.int p0), .val (.int p1), .val (.int p2), .unset, .unset, .unset] [(.int v63)])) _
    refine XS.istoreN X0.here hx rfl (hb hby at_6) rfl (l' := #[.val (.int p0), .val (.int p1), .val (.int p2), .val (.int v63), .unset, .unset]) rfl ?_
    show Steps p.tables e below (s₁.setTop (mkF m 7 #[.val (.int p0), .val (.int p1), .val (.int p2), .val (.int v63), .unset, .unset] [])) _
    refine XS.iloadN X0.here hx rfl (hb hby at_7) rfl ?_
    show Steps p.tables e below (s₁.setTop (mkF m 8 #[.val (.int p0), .val (.int p1), .val (.int p2), .val (.int v63), .unset, .unset] [(.int p2)])) _
    refine XS.iconst X0.here hx rfl (hb hby at_8) ?_
    show Steps p.tables e below (s₁.setTop (mkF m 9 #[.val (.int p0), .val (.int p1), .val (.int p2), .val (.int v63), .unset, .unset] [(.int (1 : Int32)), (.int p2)])) _
    refine XS.iand X0.here hx rfl (hb hby at_9) rfl ?_
    show Steps p.tables e below (s₁.setTop (mkF m 10 #[.val (.int p0), .val (.int p1), .val (.int p2), .val (.int v63), .unset, .unset] [(.int (p2 &&& (1 : Int32)))])) _
    exact k
  obtain ⟨T74, L74, v72, X74, N74, e74, pre73, hv72⟩ : ∃ (T74 : State) (L74 : List Loc) (v72 : Int32), Stand p l e room_1 s m #[(.int p0), (.int p1), (.int p2)] below meth c T74 L74 0 0 ∧ Fr n0 L74 ∧ T74.heap = h0 ∧ (∀ t, Steps p.tables e below (T74.setTop (mkF m 25 #[.val (.int p0), .val (.int p1), .val (.int p2), .val (.int v63), .unset, .unset] [(.int v72)])) t → Steps p.tables e below (s₁.setTop (entryFrame m #[(.int p0), (.int p1), (.int p2)] maxLocals)) t) ∧ v72 = (if (p2 &&& (1 : Int32)) = (0 : Int32) then p1 else ((f4 v63) + (p1 % (3 : Int32)))) := by
    by_cases hc10_66 : (p2 &&& (1 : Int32)) = (0 : Int32)
    · have pre67 : ∀ t, Steps p.tables e below (s₁.setTop (mkF m 25 #[.val (.int p0), .val (.int p1), .val (.int p2), .val (.int v63), .unset, .unset] [(.int p1)])) t → Steps p.tables e below (s₁.setTop (entryFrame m #[(.int p0), (.int p1), (.int p2)] maxLocals)) t := by
        intro t k
        refine pre65 t ?_
        show Steps p.tables e below (s₁.setTop (mkF m 10 #[.val (.int p0), .val (.int p1), .val (.int p2), .val (.int v63), .unset, .unset] [(.int (p2 &&& (1 : Int32)))])) _
        refine XS.ifNo X0.here hx rfl (hb hby at_10) rfl ((if0 _ _).trans (teq hc10_66).2) ?_
        show Steps p.tables e below (s₁.setTop (mkF m 13 #[.val (.int p0), .val (.int p1), .val (.int p2), .val (.int v63), .unset, .unset] [])) _
        refine XS.iloadN X0.here hx rfl (hb hby at_13) rfl ?_
        show Steps p.tables e below (s₁.setTop (mkF m 14 #[.val (.int p0), .val (.int p1), .val (.int p2), .val (.int v63), .unset, .unset] [(.int p1)])) _
        refine XS.goto X0.here hx rfl (pc0 := 14) (pc' := 25) rfl (hb hby at_14) (by decide) (by decide) ?_
        show Steps p.tables e below (s₁.setTop (mkF m 25 #[.val (.int p0), .val (.int p1), .val (.int p2), .val (.int v63), .unset, .unset] [(.int p1)])) _
        exact k
      exact ⟨s₁, _, p1, X0, N0, e0, pre67, by rw [if_pos hc10_66]⟩
    · have pre68 : ∀ t, Steps p.tables e below (s₁.setTop (mkF m 18 #[.val (.int p0), .val (.int p1), .val (.int p2), .val (.int v63), .unset, .unset] [(.int v63)])) t → Steps p.tables e below (s₁.setTop (entryFrame m #[(.int p0), (.int p1), (.int p2)] maxLocals)) t := by
        intro t k
        refine pre65 t ?_
        show Steps p.tables e below (s₁.setTop (mkF m 10 #[.val (.int p0), .val (.int p1), .val (.int p2), .val (.int v63), .unset, .unset] [(.int (p2 &&& (1 : Int32)))])) _
        refine XS.ifYes X0.here hx rfl (pc0 := 10) (pc' := 17) rfl (hb hby at_10) rfl ((if0 _ _).trans (feq hc10_66).2) (by decide) (by decide) ?_
        show Steps p.tables e below (s₁.setTop (mkF m 17 #[.val (.int p0), .val (.int p1), .val (.int p2), .val (.int v63), .unset, .unset] [])) _
        refine XS.iloadN X0.here hx rfl (hb hby at_17) rfl ?_
        show Steps p.tables e below (s₁.setTop (mkF m 18 #[.val (.int p0), .val (.int p1), .val (.int p2), .val (.int v63), .unset, .unset] [(.int v63)])) _
        exact k
      obtain ⟨_, _, ⟨T69, L69, k69, n69⟩, -, X69, ⟨Lc69, hQ69, l69, y69, z69⟩, st69⟩ := Jvm.LawKit.callS X0 hx (y := (⟨"com/example/careful_quorum/carefulquorum/storage/EntryTypeFitsPinLaw", "base", "(I)I"⟩ : MethodName)) hown (mvT hZ (hw _ (List.mem_of_getElem? (i := 20) rfl))) (mvT hZ (hw _ (List.mem_of_getElem? (i := 21) rfl))) (mvT hZ (hw _ (List.mem_of_getElem? (i := 3) rfl))) (mvT hZ (hw _ (List.mem_of_getElem? (i := 22) rfl))) (by decide) (backOf (W := 0) (rm4 l Z ar0 hw [] v63 h0 n0 Z0) hZ (hw _ (List.mem_of_getElem? (i := 22) rfl)) (hw _ (List.mem_of_getElem? (i := 3) rfl)) (by decide) (by decide)) (g := (mkF m 18 #[.val (.int p0), .val (.int p1), .val (.int p2), .val (.int v63), .unset, .unset] [(.int v63)])) rfl (by rw [hml]; rfl) (argsL := [(.int v63)]) (rest := []) (lenOf pd_0 rfl) rfl (by show 2 * 0 + _ ≤ _; exact Nat.le_of_eq rfl) (hb hby at_18) (fun _ _ => ⟨rfl, e0, (by decide : 0 + 0 ≤ _), (by decide : 0 + 0 ≤ _)⟩)
      dsimp only [Pt.U, Pt.locs, Pt.cells, Pt.slots] at X69 l69 y69 z69 st69 hQ69
      subst l69 y69 z69
      obtain ⟨rfl, N69q, e69⟩ := hQ69
      have N69 := Fr.app N0 N69q
      have pre70 : ∀ t, Steps p.tables e below (T69.setTop (mkF m 21 #[.val (.int p0), .val (.int p1), .val (.int p2), .val (.int v63), .unset, .unset] [(.int (f4 v63))])) t → Steps p.tables e below (s₁.setTop (entryFrame m #[(.int p0), (.int p1), (.int p2)] maxLocals)) t := fun t k => pre68 t (st69 t k)
      have pre71 : ∀ t, Steps p.tables e below (T69.setTop (mkF m 25 #[.val (.int p0), .val (.int p1), .val (.int p2), .val (.int v63), .unset, .unset] [(.int ((f4 v63) + (p1 % (3 : Int32))))])) t → Steps p.tables e below (s₁.setTop (entryFrame m #[(.int p0), (.int p1), (.int p2)] maxLocals)) t := by
        intro t k
        refine pre70 t ?_
        show Steps p.tables e below (T69.setTop (mkF m 21 #[.val (.int p0), .val (.int p1), .val (.int p2), .val (.int v63), .unset, .unset] [(.int (f4 v63))])) _
        refine XS.iloadN X69.here hx rfl (hb hby at_21) rfl ?_
        show Steps p.tables e below (T69.setTop (mkF m 22 #[.val (.int p0), .val (.int p1), .val (.int p2), .val (.int v63), .unset, .unset] [(.int p1), (.int (f4 v63))])) _
        refine XS.iconst X69.here hx rfl (hb hby at_22) ?_
        show Steps p.tables e below (T69.setTop (mkF m 23 #[.val (.int p0), .val (.int p1), .val (.int p2), .val (.int v63), .unset, .unset] [(.int (3 : Int32)), (.int p1), (.int (f4 v63))])) _
        refine iremM X69 hx rfl (hb hby at_23) rfl (by decide) ?_
        show Steps p.tables e below (T69.setTop (mkF m 24 #[.val (.int p0), .val (.int p1), .val (.int p2), .val (.int v63), .unset, .unset] [(.int (p1 % (3 : Int32))), (.int (f4 v63))])) _
        refine XS.iadd X69.here hx rfl (hb hby at_24) rfl ?_
        show Steps p.tables e below (T69.setTop (mkF m 25 #[.val (.int p0), .val (.int p1), .val (.int p2), .val (.int v63), .unset, .unset] [(.int ((f4 v63) + (p1 % (3 : Int32))))])) _
        exact k
      exact ⟨T69, _, ((f4 v63) + (p1 % (3 : Int32))), X69, N69, e69, pre71, by rw [if_neg hc10_66]⟩
  have pre75 : ∀ t, Steps p.tables e below (T74.setTop (mkF m 28 #[.val (.int p0), .val (.int p1), .val (.int p2), .val (.int v63), .val (.int v72), .unset] [(.int v63)])) t → Steps p.tables e below (s₁.setTop (entryFrame m #[(.int p0), (.int p1), (.int p2)] maxLocals)) t := by
    intro t k
    refine pre73 t ?_
    show Steps p.tables e below (T74.setTop (mkF m 25 #[.val (.int p0), .val (.int p1), .val (.int p2), .val (.int v63), .unset, .unset] [(.int v72)])) _
    refine XS.istore X74.here hx rfl (hb hby at_25) rfl (l' := #[.val (.int p0), .val (.int p1), .val (.int p2), .val (.int v63), .val (.int v72), .unset]) rfl ?_
    show Steps p.tables e below (T74.setTop (mkF m 27 #[.val (.int p0), .val (.int p1), .val (.int p2), .val (.int v63), .val (.int v72), .unset] [])) _
    refine XS.iloadN X74.here hx rfl (hb hby at_27) rfl ?_
    show Steps p.tables e below (T74.setTop (mkF m 28 #[.val (.int p0), .val (.int p1), .val (.int p2), .val (.int v63), .val (.int v72), .unset] [(.int v63)])) _
    exact k
  obtain ⟨_, _, ⟨T76, L76, k76, n76⟩, -, X76, ⟨Lc76, hQ76, l76, y76, z76⟩, st76⟩ := Jvm.LawKit.callS X74 hx (y := (⟨"com/example/careful_quorum/carefulquorum/storage/EntryTypeFitsPinLaw", "pick", "(I)Lcom/example/careful_quorum/carefulquorum/storage/EntryType;"⟩ : MethodName)) hown (mvT hZ (hw _ (List.mem_of_getElem? (i := 1) rfl))) (mvT hZ (hw _ (List.mem_of_getElem? (i := 2) rfl))) (mvT hZ (hw _ (List.mem_of_getElem? (i := 3) rfl))) (mvT hZ (hw _ (List.mem_of_getElem? (i := 4) rfl))) (by decide) (backOf (W := 0) (rm1 l Z ar0 hw [] v63 s_MESSAGE s_NEW_TERM s_SESSION_OPEN s_SESSION_CLOSE s_TIMER_FIRED h0 n0 Z0 S_MESSAGE S_NEW_TERM S_SESSION_OPEN S_SESSION_CLOSE S_TIMER_FIRED) hZ (hw _ (List.mem_of_getElem? (i := 4) rfl)) (hw _ (List.mem_of_getElem? (i := 3) rfl)) (by decide) (by decide)) (g := (mkF m 28 #[.val (.int p0), .val (.int p1), .val (.int p2), .val (.int v63), .val (.int v72), .unset] [(.int v63)])) rfl (by rw [hml]; rfl) (argsL := [(.int v63)]) (rest := []) (lenOf pd_1 rfl) rfl (by show 2 * 0 + _ ≤ _; exact Nat.le_of_eq rfl) (hb hby at_28) (fun _ _ => ⟨rfl, e74, (by decide : 0 + 0 ≤ _), (by decide : 0 + 0 ≤ _)⟩)
  dsimp only [Pt.U, Pt.locs, Pt.cells, Pt.slots] at X76 l76 y76 z76 st76 hQ76
  subst l76 y76 z76
  obtain ⟨rfl, N76q, e76⟩ := hQ76
  have N76 := Fr.app N74 N76q
  have pre77 : ∀ t, Steps p.tables e below (T76.setTop (mkF m 31 #[.val (.int p0), .val (.int p1), .val (.int p2), .val (.int v63), .val (.int v72), .unset] [(.ref (f1 v63 s_MESSAGE s_NEW_TERM s_SESSION_OPEN s_SESSION_CLOSE s_TIMER_FIRED))])) t → Steps p.tables e below (s₁.setTop (entryFrame m #[(.int p0), (.int p1), (.int p2)] maxLocals)) t := fun t k => pre75 t (st76 t k)
  by_cases hf78 : v63 = (0 : Int32)
  · have hq79 : (f1 v63 s_MESSAGE s_NEW_TERM s_SESSION_OPEN s_SESSION_CLOSE s_TIMER_FIRED) = s_MESSAGE := by unfold f1; rw [if_pos hf78]
    have pre80 : ∀ t, Steps p.tables e below (T76.setTop (mkF m 31 #[.val (.int p0), .val (.int p1), .val (.int p2), .val (.int v63), .val (.int v72), .unset] [(.ref s_MESSAGE)])) t → Steps p.tables e below (s₁.setTop (entryFrame m #[(.int p0), (.int p1), (.int p2)] maxLocals)) t := by rw [hq79] at pre77; exact pre77
    have pre81 : ∀ t, Steps p.tables e below (T76.setTop (mkF m 37 #[.val (.int p0), .val (.int p1), .val (.int p2), .val (.int v63), .val (.int v72), .val (.ref s_MESSAGE)] [(.int v72), (.ref s_MESSAGE)])) t → Steps p.tables e below (s₁.setTop (entryFrame m #[(.int p0), (.int p1), (.int p2)] maxLocals)) t := by
      intro t k
      refine pre80 t ?_
      show Steps p.tables e below (T76.setTop (mkF m 31 #[.val (.int p0), .val (.int p1), .val (.int p2), .val (.int v63), .val (.int v72), .unset] [(.ref s_MESSAGE)])) _
      refine XS.astore X76.here hx rfl (hb hby at_31) rfl rfl (l' := #[.val (.int p0), .val (.int p1), .val (.int p2), .val (.int v63), .val (.int v72), .val (.ref s_MESSAGE)]) rfl ?_
      show Steps p.tables e below (T76.setTop (mkF m 33 #[.val (.int p0), .val (.int p1), .val (.int p2), .val (.int v63), .val (.int v72), .val (.ref s_MESSAGE)] [])) _
      refine XS.aload X76.here hx rfl (hb hby at_33) rfl rfl ?_
      show Steps p.tables e below (T76.setTop (mkF m 35 #[.val (.int p0), .val (.int p1), .val (.int p2), .val (.int v63), .val (.int v72), .val (.ref s_MESSAGE)] [(.ref s_MESSAGE)])) _
      refine XS.iload X76.here hx rfl (hb hby at_35) rfl ?_
      show Steps p.tables e below (T76.setTop (mkF m 37 #[.val (.int p0), .val (.int p1), .val (.int p2), .val (.int v63), .val (.int v72), .val (.ref s_MESSAGE)] [(.int v72), (.ref s_MESSAGE)])) _
      exact k
    obtain ⟨cq82, kq82, q82a, q82b, q82c⟩ := isOf hZ e76 E_s_MESSAGE
    obtain ⟨_, _, ⟨T82, L82, k82, n82⟩, -, X82, ⟨Lc82, hQ82, l82, y82, z82⟩, st82⟩ := X76.virtualBack hx (y := (⟨"com/example/careful_quorum/carefulquorum/storage/EntryType", "fits", "(I)Z"⟩ : MethodName)) (z := (⟨"com/example/careful_quorum/carefulquorum/storage/EntryType", "fits", "(I)Z"⟩ : MethodName)) hown (mvT hZ (hw _ (List.mem_of_getElem? (i := 8) rfl))) (mvT hZ (hw _ (List.mem_of_getElem? (i := 9) rfl))) (notFace_of_selects (args := #[]) (mvT hZ (hw _ (List.mem_of_getElem? (i := 11) rfl)))) (mvT hZ (hw _ (List.mem_of_getElem? (i := 11) rfl))) (mvT hZ (hw _ (List.mem_of_getElem? (i := 10) rfl))) (by decide) (backOf (W := 0) (rm2 l Z ar0 hw [] s_MESSAGE v72 (1 : Int32) (24 : Int32) h0 n0 Z0 F_withPayload_s_MESSAGE F_fieldBytes_s_MESSAGE) hZ (hw _ (List.mem_of_getElem? (i := 12) rfl)) (hw _ (List.mem_of_getElem? (i := 6) rfl)) (by decide) (by decide)) q82a q82c (g := (mkF m 37 #[.val (.int p0), .val (.int p1), .val (.int p2), .val (.int v63), .val (.int v72), .val (.ref s_MESSAGE)] [(.int v72), (.ref s_MESSAGE)])) rfl (by rw [hml]; rfl) (Steps.refl _) (argsL := [(.int v72)]) (rest := []) (lenOf pd_2 rfl) rfl (by show 2 * 0 + _ ≤ _; exact Nat.le_of_eq rfl) (hb hby at_37) (fun _ _ => ⟨rfl, e76, (by decide : 0 + 0 ≤ _), (by decide : 0 + 0 ≤ _)⟩)
    dsimp only [Pt.U, Pt.locs, Pt.cells, Pt.slots] at X82 l82 y82 z82 st82 hQ82
    subst l82 y82 z82
    obtain ⟨rfl, N82q, e82⟩ := hQ82
    have N82 := Fr.app N76 N82q
    have pre83 : ∀ t, Steps p.tables e below (T82.setTop (mkF m 40 #[.val (.int p0), .val (.int p1), .val (.int p2), .val (.int v63), .val (.int v72), .val (.ref s_MESSAGE)] [(.int (f2 v72 (1 : Int32) (24 : Int32)))])) t → Steps p.tables e below (s₁.setTop (entryFrame m #[(.int p0), (.int p1), (.int p2)] maxLocals)) t := fun t k => pre81 t (st82.trans k)
    have pre84 : ∀ t, Steps p.tables e below (T82.setTop (mkF m 43 #[.val (.int p0), .val (.int p1), .val (.int p2), .val (.int v63), .val (.int v72), .val (.ref s_MESSAGE)] [(.int v72), (.int v63), (.int (f2 v72 (1 : Int32) (24 : Int32)))])) t → Steps p.tables e below (s₁.setTop (entryFrame m #[(.int p0), (.int p1), (.int p2)] maxLocals)) t := by
      intro t k
      refine pre83 t ?_
      show Steps p.tables e below (T82.setTop (mkF m 40 #[.val (.int p0), .val (.int p1), .val (.int p2), .val (.int v63), .val (.int v72), .val (.ref s_MESSAGE)] [(.int (f2 v72 (1 : Int32) (24 : Int32)))])) _
      refine XS.iloadN X82.here hx rfl (hb hby at_40) rfl ?_
      show Steps p.tables e below (T82.setTop (mkF m 41 #[.val (.int p0), .val (.int p1), .val (.int p2), .val (.int v63), .val (.int v72), .val (.ref s_MESSAGE)] [(.int v63), (.int (f2 v72 (1 : Int32) (24 : Int32)))])) _
      refine XS.iload X82.here hx rfl (hb hby at_41) rfl ?_
      show Steps p.tables e below (T82.setTop (mkF m 43 #[.val (.int p0), .val (.int p1), .val (.int p2), .val (.int v63), .val (.int v72), .val (.ref s_MESSAGE)] [(.int v72), (.int v63), (.int (f2 v72 (1 : Int32) (24 : Int32)))])) _
      exact k
    obtain ⟨_, _, ⟨T85, L85, k85, n85⟩, -, X85, ⟨Lc85, hQ85, l85, y85, z85⟩, st85⟩ := Jvm.LawKit.callS X82 hx (y := (⟨"com/example/careful_quorum/carefulquorum/storage/EntryTypeFitsPinLaw", "expected", "(II)Z"⟩ : MethodName)) hown (mvT hZ (hw _ (List.mem_of_getElem? (i := 17) rfl))) (mvT hZ (hw _ (List.mem_of_getElem? (i := 18) rfl))) (mvT hZ (hw _ (List.mem_of_getElem? (i := 3) rfl))) (mvT hZ (hw _ (List.mem_of_getElem? (i := 19) rfl))) (by decide) (backOf (W := 1) (rm3 l Z ar0 hw [] v63 v72 h0 n0 Z0) hZ (hw _ (List.mem_of_getElem? (i := 19) rfl)) (hw _ (List.mem_of_getElem? (i := 3) rfl)) (by decide) (by decide)) (g := (mkF m 43 #[.val (.int p0), .val (.int p1), .val (.int p2), .val (.int v63), .val (.int v72), .val (.ref s_MESSAGE)] [(.int v72), (.int v63), (.int (f2 v72 (1 : Int32) (24 : Int32)))])) rfl (by rw [hml]; rfl) (argsL := [(.int v63), (.int v72)]) (rest := [(.int (f2 v72 (1 : Int32) (24 : Int32)))]) (lenOf pd_3 rfl) rfl (by show 2 * 0 + _ ≤ _; exact Nat.le_of_eq rfl) (hb hby at_43) (fun _ _ => ⟨rfl, e82, (by decide : 0 + 0 ≤ _), (by decide : 0 + 0 ≤ _)⟩)
    dsimp only [Pt.U, Pt.locs, Pt.cells, Pt.slots] at X85 l85 y85 z85 st85 hQ85
    subst l85 y85 z85
    obtain ⟨rfl, N85q, e85⟩ := hQ85
    have N85 := Fr.app N82 N85q
    have pre86 : ∀ t, Steps p.tables e below (T85.setTop (mkF m 46 #[.val (.int p0), .val (.int p1), .val (.int p2), .val (.int v63), .val (.int v72), .val (.ref s_MESSAGE)] [(.int (f3 v63 v72)), (.int (f2 v72 (1 : Int32) (24 : Int32)))])) t → Steps p.tables e below (s₁.setTop (entryFrame m #[(.int p0), (.int p1), (.int p2)] maxLocals)) t := fun t k => pre84 t (st85 t k)
    by_cases hc46_87 : (f2 v72 (1 : Int32) (24 : Int32)) = (f3 v63 v72)
    · obtain ⟨fs, hr, hrun, hended, hW, hsame⟩ := X85.leave (v := some (.int (1 : Int32))) (fun h => by rw [Bd.returns] at h; cases h)
      refine ⟨_, _, pre86 _ ?_, hrun, hended, _, _, rfl, ?_, ⟨_, rfl⟩, hW, hsame.mono (by decide) (by decide)⟩
      · show Steps p.tables e below (T85.setTop (mkF m 46 #[.val (.int p0), .val (.int p1), .val (.int p2), .val (.int v63), .val (.int v72), .val (.ref s_MESSAGE)] [(.int (f3 v63 v72)), (.int (f2 v72 (1 : Int32) (24 : Int32)))])) _
        refine XS.icmpNo X85.here hx rfl (hb hby at_46) rfl (teq hc46_87).2 ?_
        show Steps p.tables e below (T85.setTop (mkF m 49 #[.val (.int p0), .val (.int p1), .val (.int p2), .val (.int v63), .val (.int v72), .val (.ref s_MESSAGE)] [])) _
        refine XS.iconst X85.here hx rfl (hb hby at_49) ?_
        show Steps p.tables e below (T85.setTop (mkF m 50 #[.val (.int p0), .val (.int p1), .val (.int p2), .val (.int v63), .val (.int v72), .val (.ref s_MESSAGE)] [(.int (1 : Int32))])) _
        refine XS.goto X85.here hx rfl (pc0 := 50) (pc' := 54) rfl (hb hby at_50) (by decide) (by decide) ?_
        show Steps p.tables e below (T85.setTop (mkF m 54 #[.val (.int p0), .val (.int p1), .val (.int p2), .val (.int v63), .val (.int v72), .val (.ref s_MESSAGE)] [(.int (1 : Int32))])) _
        exact retN X85 hx (t := .boolean) Bd.returns (by simp) (hb hby at_54) hr
      · show Q0 Z p0 p1 p2 s_MESSAGE s_NEW_TERM s_SESSION_OPEN s_SESSION_CLOSE s_TIMER_FIRED h0 n0 _ T85.heap _
        rw [e85]
        exact ⟨rfl, N85⟩
    · have pre88 : ∀ t, Steps p.tables e below (T85.setTop (mkF m 54 #[.val (.int p0), .val (.int p1), .val (.int p2), .val (.int v63), .val (.int v72), .val (.ref s_MESSAGE)] [(.int (0 : Int32))])) t → Steps p.tables e below (s₁.setTop (entryFrame m #[(.int p0), (.int p1), (.int p2)] maxLocals)) t := by
        intro t k
        refine pre86 t ?_
        show Steps p.tables e below (T85.setTop (mkF m 46 #[.val (.int p0), .val (.int p1), .val (.int p2), .val (.int v63), .val (.int v72), .val (.ref s_MESSAGE)] [(.int (f3 v63 v72)), (.int (f2 v72 (1 : Int32) (24 : Int32)))])) _
        refine XS.icmpYes X85.here hx rfl (pc0 := 46) (pc' := 53) rfl (hb hby at_46) rfl (feq hc46_87).2 (by decide) (by decide) ?_
        show Steps p.tables e below (T85.setTop (mkF m 53 #[.val (.int p0), .val (.int p1), .val (.int p2), .val (.int v63), .val (.int v72), .val (.ref s_MESSAGE)] [])) _
        refine XS.iconst X85.here hx rfl (hb hby at_53) ?_
        show Steps p.tables e below (T85.setTop (mkF m 54 #[.val (.int p0), .val (.int p1), .val (.int p2), .val (.int v63), .val (.int v72), .val (.ref s_MESSAGE)] [(.int (0 : Int32))])) _
        exact k
      exact (own_leaf1 hv63 hv72 hf78 hc46_87).elim
  · by_cases hf89 : v63 = (1 : Int32)
    · have hq90 : (f1 v63 s_MESSAGE s_NEW_TERM s_SESSION_OPEN s_SESSION_CLOSE s_TIMER_FIRED) = s_NEW_TERM := by unfold f1; rw [if_neg hf78, if_pos hf89]
      have pre91 : ∀ t, Steps p.tables e below (T76.setTop (mkF m 31 #[.val (.int p0), .val (.int p1), .val (.int p2), .val (.int v63), .val (.int v72), .unset] [(.ref s_NEW_TERM)])) t → Steps p.tables e below (s₁.setTop (entryFrame m #[(.int p0), (.int p1), (.int p2)] maxLocals)) t := by rw [hq90] at pre77; exact pre77
      have pre92 : ∀ t, Steps p.tables e below (T76.setTop (mkF m 37 #[.val (.int p0), .val (.int p1), .val (.int p2), .val (.int v63), .val (.int v72), .val (.ref s_NEW_TERM)] [(.int v72), (.ref s_NEW_TERM)])) t → Steps p.tables e below (s₁.setTop (entryFrame m #[(.int p0), (.int p1), (.int p2)] maxLocals)) t := by
        intro t k
        refine pre91 t ?_
        show Steps p.tables e below (T76.setTop (mkF m 31 #[.val (.int p0), .val (.int p1), .val (.int p2), .val (.int v63), .val (.int v72), .unset] [(.ref s_NEW_TERM)])) _
        refine XS.astore X76.here hx rfl (hb hby at_31) rfl rfl (l' := #[.val (.int p0), .val (.int p1), .val (.int p2), .val (.int v63), .val (.int v72), .val (.ref s_NEW_TERM)]) rfl ?_
        show Steps p.tables e below (T76.setTop (mkF m 33 #[.val (.int p0), .val (.int p1), .val (.int p2), .val (.int v63), .val (.int v72), .val (.ref s_NEW_TERM)] [])) _
        refine XS.aload X76.here hx rfl (hb hby at_33) rfl rfl ?_
        show Steps p.tables e below (T76.setTop (mkF m 35 #[.val (.int p0), .val (.int p1), .val (.int p2), .val (.int v63), .val (.int v72), .val (.ref s_NEW_TERM)] [(.ref s_NEW_TERM)])) _
        refine XS.iload X76.here hx rfl (hb hby at_35) rfl ?_
        show Steps p.tables e below (T76.setTop (mkF m 37 #[.val (.int p0), .val (.int p1), .val (.int p2), .val (.int v63), .val (.int v72), .val (.ref s_NEW_TERM)] [(.int v72), (.ref s_NEW_TERM)])) _
        exact k
      obtain ⟨cq93, kq93, q93a, q93b, q93c⟩ := isOf hZ e76 E_s_NEW_TERM
      obtain ⟨_, _, ⟨T93, L93, k93, n93⟩, -, X93, ⟨Lc93, hQ93, l93, y93, z93⟩, st93⟩ := X76.virtualBack hx (y := (⟨"com/example/careful_quorum/carefulquorum/storage/EntryType", "fits", "(I)Z"⟩ : MethodName)) (z := (⟨"com/example/careful_quorum/carefulquorum/storage/EntryType", "fits", "(I)Z"⟩ : MethodName)) hown (mvT hZ (hw _ (List.mem_of_getElem? (i := 8) rfl))) (mvT hZ (hw _ (List.mem_of_getElem? (i := 9) rfl))) (notFace_of_selects (args := #[]) (mvT hZ (hw _ (List.mem_of_getElem? (i := 11) rfl)))) (mvT hZ (hw _ (List.mem_of_getElem? (i := 11) rfl))) (mvT hZ (hw _ (List.mem_of_getElem? (i := 10) rfl))) (by decide) (backOf (W := 0) (rm2 l Z ar0 hw [] s_NEW_TERM v72 (0 : Int32) (8 : Int32) h0 n0 Z0 F_withPayload_s_NEW_TERM F_fieldBytes_s_NEW_TERM) hZ (hw _ (List.mem_of_getElem? (i := 12) rfl)) (hw _ (List.mem_of_getElem? (i := 6) rfl)) (by decide) (by decide)) q93a q93c (g := (mkF m 37 #[.val (.int p0), .val (.int p1), .val (.int p2), .val (.int v63), .val (.int v72), .val (.ref s_NEW_TERM)] [(.int v72), (.ref s_NEW_TERM)])) rfl (by rw [hml]; rfl) (Steps.refl _) (argsL := [(.int v72)]) (rest := []) (lenOf pd_2 rfl) rfl (by show 2 * 0 + _ ≤ _; exact Nat.le_of_eq rfl) (hb hby at_37) (fun _ _ => ⟨rfl, e76, (by decide : 0 + 0 ≤ _), (by decide : 0 + 0 ≤ _)⟩)
      dsimp only [Pt.U, Pt.locs, Pt.cells, Pt.slots] at X93 l93 y93 z93 st93 hQ93
      subst l93 y93 z93
      obtain ⟨rfl, N93q, e93⟩ := hQ93
      have N93 := Fr.app N76 N93q
      have pre94 : ∀ t, Steps p.tables e below (T93.setTop (mkF m 40 #[.val (.int p0), .val (.int p1), .val (.int p2), .val (.int v63), .val (.int v72), .val (.ref s_NEW_TERM)] [(.int (f2 v72 (0 : Int32) (8 : Int32)))])) t → Steps p.tables e below (s₁.setTop (entryFrame m #[(.int p0), (.int p1), (.int p2)] maxLocals)) t := fun t k => pre92 t (st93.trans k)
      have pre95 : ∀ t, Steps p.tables e below (T93.setTop (mkF m 43 #[.val (.int p0), .val (.int p1), .val (.int p2), .val (.int v63), .val (.int v72), .val (.ref s_NEW_TERM)] [(.int v72), (.int v63), (.int (f2 v72 (0 : Int32) (8 : Int32)))])) t → Steps p.tables e below (s₁.setTop (entryFrame m #[(.int p0), (.int p1), (.int p2)] maxLocals)) t := by
        intro t k
        refine pre94 t ?_
        show Steps p.tables e below (T93.setTop (mkF m 40 #[.val (.int p0), .val (.int p1), .val (.int p2), .val (.int v63), .val (.int v72), .val (.ref s_NEW_TERM)] [(.int (f2 v72 (0 : Int32) (8 : Int32)))])) _
        refine XS.iloadN X93.here hx rfl (hb hby at_40) rfl ?_
        show Steps p.tables e below (T93.setTop (mkF m 41 #[.val (.int p0), .val (.int p1), .val (.int p2), .val (.int v63), .val (.int v72), .val (.ref s_NEW_TERM)] [(.int v63), (.int (f2 v72 (0 : Int32) (8 : Int32)))])) _
        refine XS.iload X93.here hx rfl (hb hby at_41) rfl ?_
        show Steps p.tables e below (T93.setTop (mkF m 43 #[.val (.int p0), .val (.int p1), .val (.int p2), .val (.int v63), .val (.int v72), .val (.ref s_NEW_TERM)] [(.int v72), (.int v63), (.int (f2 v72 (0 : Int32) (8 : Int32)))])) _
        exact k
      obtain ⟨_, _, ⟨T96, L96, k96, n96⟩, -, X96, ⟨Lc96, hQ96, l96, y96, z96⟩, st96⟩ := Jvm.LawKit.callS X93 hx (y := (⟨"com/example/careful_quorum/carefulquorum/storage/EntryTypeFitsPinLaw", "expected", "(II)Z"⟩ : MethodName)) hown (mvT hZ (hw _ (List.mem_of_getElem? (i := 17) rfl))) (mvT hZ (hw _ (List.mem_of_getElem? (i := 18) rfl))) (mvT hZ (hw _ (List.mem_of_getElem? (i := 3) rfl))) (mvT hZ (hw _ (List.mem_of_getElem? (i := 19) rfl))) (by decide) (backOf (W := 1) (rm3 l Z ar0 hw [] v63 v72 h0 n0 Z0) hZ (hw _ (List.mem_of_getElem? (i := 19) rfl)) (hw _ (List.mem_of_getElem? (i := 3) rfl)) (by decide) (by decide)) (g := (mkF m 43 #[.val (.int p0), .val (.int p1), .val (.int p2), .val (.int v63), .val (.int v72), .val (.ref s_NEW_TERM)] [(.int v72), (.int v63), (.int (f2 v72 (0 : Int32) (8 : Int32)))])) rfl (by rw [hml]; rfl) (argsL := [(.int v63), (.int v72)]) (rest := [(.int (f2 v72 (0 : Int32) (8 : Int32)))]) (lenOf pd_3 rfl) rfl (by show 2 * 0 + _ ≤ _; exact Nat.le_of_eq rfl) (hb hby at_43) (fun _ _ => ⟨rfl, e93, (by decide : 0 + 0 ≤ _), (by decide : 0 + 0 ≤ _)⟩)
      dsimp only [Pt.U, Pt.locs, Pt.cells, Pt.slots] at X96 l96 y96 z96 st96 hQ96
      subst l96 y96 z96
      obtain ⟨rfl, N96q, e96⟩ := hQ96
      have N96 := Fr.app N93 N96q
      have pre97 : ∀ t, Steps p.tables e below (T96.setTop (mkF m 46 #[.val (.int p0), .val (.int p1), .val (.int p2), .val (.int v63), .val (.int v72), .val (.ref s_NEW_TERM)] [(.int (f3 v63 v72)), (.int (f2 v72 (0 : Int32) (8 : Int32)))])) t → Steps p.tables e below (s₁.setTop (entryFrame m #[(.int p0), (.int p1), (.int p2)] maxLocals)) t := fun t k => pre95 t (st96 t k)
      by_cases hc46_98 : (f2 v72 (0 : Int32) (8 : Int32)) = (f3 v63 v72)
      · obtain ⟨fs, hr, hrun, hended, hW, hsame⟩ := X96.leave (v := some (.int (1 : Int32))) (fun h => by rw [Bd.returns] at h; cases h)
        refine ⟨_, _, pre97 _ ?_, hrun, hended, _, _, rfl, ?_, ⟨_, rfl⟩, hW, hsame.mono (by decide) (by decide)⟩
        · show Steps p.tables e below (T96.setTop (mkF m 46 #[.val (.int p0), .val (.int p1), .val (.int p2), .val (.int v63), .val (.int v72), .val (.ref s_NEW_TERM)] [(.int (f3 v63 v72)), (.int (f2 v72 (0 : Int32) (8 : Int32)))])) _
          refine XS.icmpNo X96.here hx rfl (hb hby at_46) rfl (teq hc46_98).2 ?_
          show Steps p.tables e below (T96.setTop (mkF m 49 #[.val (.int p0), .val (.int p1), .val (.int p2), .val (.int v63), .val (.int v72), .val (.ref s_NEW_TERM)] [])) _
          refine XS.iconst X96.here hx rfl (hb hby at_49) ?_
          show Steps p.tables e below (T96.setTop (mkF m 50 #[.val (.int p0), .val (.int p1), .val (.int p2), .val (.int v63), .val (.int v72), .val (.ref s_NEW_TERM)] [(.int (1 : Int32))])) _
          refine XS.goto X96.here hx rfl (pc0 := 50) (pc' := 54) rfl (hb hby at_50) (by decide) (by decide) ?_
          show Steps p.tables e below (T96.setTop (mkF m 54 #[.val (.int p0), .val (.int p1), .val (.int p2), .val (.int v63), .val (.int v72), .val (.ref s_NEW_TERM)] [(.int (1 : Int32))])) _
          exact retN X96 hx (t := .boolean) Bd.returns (by simp) (hb hby at_54) hr
        · show Q0 Z p0 p1 p2 s_MESSAGE s_NEW_TERM s_SESSION_OPEN s_SESSION_CLOSE s_TIMER_FIRED h0 n0 _ T96.heap _
          rw [e96]
          exact ⟨rfl, N96⟩
      · have pre99 : ∀ t, Steps p.tables e below (T96.setTop (mkF m 54 #[.val (.int p0), .val (.int p1), .val (.int p2), .val (.int v63), .val (.int v72), .val (.ref s_NEW_TERM)] [(.int (0 : Int32))])) t → Steps p.tables e below (s₁.setTop (entryFrame m #[(.int p0), (.int p1), (.int p2)] maxLocals)) t := by
          intro t k
          refine pre97 t ?_
          show Steps p.tables e below (T96.setTop (mkF m 46 #[.val (.int p0), .val (.int p1), .val (.int p2), .val (.int v63), .val (.int v72), .val (.ref s_NEW_TERM)] [(.int (f3 v63 v72)), (.int (f2 v72 (0 : Int32) (8 : Int32)))])) _
          refine XS.icmpYes X96.here hx rfl (pc0 := 46) (pc' := 53) rfl (hb hby at_46) rfl (feq hc46_98).2 (by decide) (by decide) ?_
          show Steps p.tables e below (T96.setTop (mkF m 53 #[.val (.int p0), .val (.int p1), .val (.int p2), .val (.int v63), .val (.int v72), .val (.ref s_NEW_TERM)] [])) _
          refine XS.iconst X96.here hx rfl (hb hby at_53) ?_
          show Steps p.tables e below (T96.setTop (mkF m 54 #[.val (.int p0), .val (.int p1), .val (.int p2), .val (.int v63), .val (.int v72), .val (.ref s_NEW_TERM)] [(.int (0 : Int32))])) _
          exact k
        exact (own_leaf2 hv63 hv72 hf78 hf89 hc46_98).elim
    · by_cases hf100 : v63 = (2 : Int32)
      · have hq101 : (f1 v63 s_MESSAGE s_NEW_TERM s_SESSION_OPEN s_SESSION_CLOSE s_TIMER_FIRED) = s_SESSION_OPEN := by unfold f1; rw [if_neg hf78, if_neg hf89, if_pos hf100]
        have pre102 : ∀ t, Steps p.tables e below (T76.setTop (mkF m 31 #[.val (.int p0), .val (.int p1), .val (.int p2), .val (.int v63), .val (.int v72), .unset] [(.ref s_SESSION_OPEN)])) t → Steps p.tables e below (s₁.setTop (entryFrame m #[(.int p0), (.int p1), (.int p2)] maxLocals)) t := by rw [hq101] at pre77; exact pre77
        have pre103 : ∀ t, Steps p.tables e below (T76.setTop (mkF m 37 #[.val (.int p0), .val (.int p1), .val (.int p2), .val (.int v63), .val (.int v72), .val (.ref s_SESSION_OPEN)] [(.int v72), (.ref s_SESSION_OPEN)])) t → Steps p.tables e below (s₁.setTop (entryFrame m #[(.int p0), (.int p1), (.int p2)] maxLocals)) t := by
          intro t k
          refine pre102 t ?_
          show Steps p.tables e below (T76.setTop (mkF m 31 #[.val (.int p0), .val (.int p1), .val (.int p2), .val (.int v63), .val (.int v72), .unset] [(.ref s_SESSION_OPEN)])) _
          refine XS.astore X76.here hx rfl (hb hby at_31) rfl rfl (l' := #[.val (.int p0), .val (.int p1), .val (.int p2), .val (.int v63), .val (.int v72), .val (.ref s_SESSION_OPEN)]) rfl ?_
          show Steps p.tables e below (T76.setTop (mkF m 33 #[.val (.int p0), .val (.int p1), .val (.int p2), .val (.int v63), .val (.int v72), .val (.ref s_SESSION_OPEN)] [])) _
          refine XS.aload X76.here hx rfl (hb hby at_33) rfl rfl ?_
          show Steps p.tables e below (T76.setTop (mkF m 35 #[.val (.int p0), .val (.int p1), .val (.int p2), .val (.int v63), .val (.int v72), .val (.ref s_SESSION_OPEN)] [(.ref s_SESSION_OPEN)])) _
          refine XS.iload X76.here hx rfl (hb hby at_35) rfl ?_
          show Steps p.tables e below (T76.setTop (mkF m 37 #[.val (.int p0), .val (.int p1), .val (.int p2), .val (.int v63), .val (.int v72), .val (.ref s_SESSION_OPEN)] [(.int v72), (.ref s_SESSION_OPEN)])) _
          exact k
        obtain ⟨cq104, kq104, q104a, q104b, q104c⟩ := isOf hZ e76 E_s_SESSION_OPEN
        obtain ⟨_, _, ⟨T104, L104, k104, n104⟩, -, X104, ⟨Lc104, hQ104, l104, y104, z104⟩, st104⟩ := X76.virtualBack hx (y := (⟨"com/example/careful_quorum/carefulquorum/storage/EntryType", "fits", "(I)Z"⟩ : MethodName)) (z := (⟨"com/example/careful_quorum/carefulquorum/storage/EntryType", "fits", "(I)Z"⟩ : MethodName)) hown (mvT hZ (hw _ (List.mem_of_getElem? (i := 8) rfl))) (mvT hZ (hw _ (List.mem_of_getElem? (i := 9) rfl))) (notFace_of_selects (args := #[]) (mvT hZ (hw _ (List.mem_of_getElem? (i := 11) rfl)))) (mvT hZ (hw _ (List.mem_of_getElem? (i := 11) rfl))) (mvT hZ (hw _ (List.mem_of_getElem? (i := 10) rfl))) (by decide) (backOf (W := 0) (rm2 l Z ar0 hw [] s_SESSION_OPEN v72 (0 : Int32) (0 : Int32) h0 n0 Z0 F_withPayload_s_SESSION_OPEN F_fieldBytes_s_SESSION_OPEN) hZ (hw _ (List.mem_of_getElem? (i := 12) rfl)) (hw _ (List.mem_of_getElem? (i := 6) rfl)) (by decide) (by decide)) q104a q104c (g := (mkF m 37 #[.val (.int p0), .val (.int p1), .val (.int p2), .val (.int v63), .val (.int v72), .val (.ref s_SESSION_OPEN)] [(.int v72), (.ref s_SESSION_OPEN)])) rfl (by rw [hml]; rfl) (Steps.refl _) (argsL := [(.int v72)]) (rest := []) (lenOf pd_2 rfl) rfl (by show 2 * 0 + _ ≤ _; exact Nat.le_of_eq rfl) (hb hby at_37) (fun _ _ => ⟨rfl, e76, (by decide : 0 + 0 ≤ _), (by decide : 0 + 0 ≤ _)⟩)
        dsimp only [Pt.U, Pt.locs, Pt.cells, Pt.slots] at X104 l104 y104 z104 st104 hQ104
        subst l104 y104 z104
        obtain ⟨rfl, N104q, e104⟩ := hQ104
        have N104 := Fr.app N76 N104q
        have pre105 : ∀ t, Steps p.tables e below (T104.setTop (mkF m 40 #[.val (.int p0), .val (.int p1), .val (.int p2), .val (.int v63), .val (.int v72), .val (.ref s_SESSION_OPEN)] [(.int (f2 v72 (0 : Int32) (0 : Int32)))])) t → Steps p.tables e below (s₁.setTop (entryFrame m #[(.int p0), (.int p1), (.int p2)] maxLocals)) t := fun t k => pre103 t (st104.trans k)
        have pre106 : ∀ t, Steps p.tables e below (T104.setTop (mkF m 43 #[.val (.int p0), .val (.int p1), .val (.int p2), .val (.int v63), .val (.int v72), .val (.ref s_SESSION_OPEN)] [(.int v72), (.int v63), (.int (f2 v72 (0 : Int32) (0 : Int32)))])) t → Steps p.tables e below (s₁.setTop (entryFrame m #[(.int p0), (.int p1), (.int p2)] maxLocals)) t := by
          intro t k
          refine pre105 t ?_
          show Steps p.tables e below (T104.setTop (mkF m 40 #[.val (.int p0), .val (.int p1), .val (.int p2), .val (.int v63), .val (.int v72), .val (.ref s_SESSION_OPEN)] [(.int (f2 v72 (0 : Int32) (0 : Int32)))])) _
          refine XS.iloadN X104.here hx rfl (hb hby at_40) rfl ?_
          show Steps p.tables e below (T104.setTop (mkF m 41 #[.val (.int p0), .val (.int p1), .val (.int p2), .val (.int v63), .val (.int v72), .val (.ref s_SESSION_OPEN)] [(.int v63), (.int (f2 v72 (0 : Int32) (0 : Int32)))])) _
          refine XS.iload X104.here hx rfl (hb hby at_41) rfl ?_
          show Steps p.tables e below (T104.setTop (mkF m 43 #[.val (.int p0), .val (.int p1), .val (.int p2), .val (.int v63), .val (.int v72), .val (.ref s_SESSION_OPEN)] [(.int v72), (.int v63), (.int (f2 v72 (0 : Int32) (0 : Int32)))])) _
          exact k
        obtain ⟨_, _, ⟨T107, L107, k107, n107⟩, -, X107, ⟨Lc107, hQ107, l107, y107, z107⟩, st107⟩ := Jvm.LawKit.callS X104 hx (y := (⟨"com/example/careful_quorum/carefulquorum/storage/EntryTypeFitsPinLaw", "expected", "(II)Z"⟩ : MethodName)) hown (mvT hZ (hw _ (List.mem_of_getElem? (i := 17) rfl))) (mvT hZ (hw _ (List.mem_of_getElem? (i := 18) rfl))) (mvT hZ (hw _ (List.mem_of_getElem? (i := 3) rfl))) (mvT hZ (hw _ (List.mem_of_getElem? (i := 19) rfl))) (by decide) (backOf (W := 1) (rm3 l Z ar0 hw [] v63 v72 h0 n0 Z0) hZ (hw _ (List.mem_of_getElem? (i := 19) rfl)) (hw _ (List.mem_of_getElem? (i := 3) rfl)) (by decide) (by decide)) (g := (mkF m 43 #[.val (.int p0), .val (.int p1), .val (.int p2), .val (.int v63), .val (.int v72), .val (.ref s_SESSION_OPEN)] [(.int v72), (.int v63), (.int (f2 v72 (0 : Int32) (0 : Int32)))])) rfl (by rw [hml]; rfl) (argsL := [(.int v63), (.int v72)]) (rest := [(.int (f2 v72 (0 : Int32) (0 : Int32)))]) (lenOf pd_3 rfl) rfl (by show 2 * 0 + _ ≤ _; exact Nat.le_of_eq rfl) (hb hby at_43) (fun _ _ => ⟨rfl, e104, (by decide : 0 + 0 ≤ _), (by decide : 0 + 0 ≤ _)⟩)
        dsimp only [Pt.U, Pt.locs, Pt.cells, Pt.slots] at X107 l107 y107 z107 st107 hQ107
        subst l107 y107 z107
        obtain ⟨rfl, N107q, e107⟩ := hQ107
        have N107 := Fr.app N104 N107q
        have pre108 : ∀ t, Steps p.tables e below (T107.setTop (mkF m 46 #[.val (.int p0), .val (.int p1), .val (.int p2), .val (.int v63), .val (.int v72), .val (.ref s_SESSION_OPEN)] [(.int (f3 v63 v72)), (.int (f2 v72 (0 : Int32) (0 : Int32)))])) t → Steps p.tables e below (s₁.setTop (entryFrame m #[(.int p0), (.int p1), (.int p2)] maxLocals)) t := fun t k => pre106 t (st107 t k)
        by_cases hc46_109 : (f2 v72 (0 : Int32) (0 : Int32)) = (f3 v63 v72)
        · obtain ⟨fs, hr, hrun, hended, hW, hsame⟩ := X107.leave (v := some (.int (1 : Int32))) (fun h => by rw [Bd.returns] at h; cases h)
          refine ⟨_, _, pre108 _ ?_, hrun, hended, _, _, rfl, ?_, ⟨_, rfl⟩, hW, hsame.mono (by decide) (by decide)⟩
          · show Steps p.tables e below (T107.setTop (mkF m 46 #[.val (.int p0), .val (.int p1), .val (.int p2), .val (.int v63), .val (.int v72), .val (.ref s_SESSION_OPEN)] [(.int (f3 v63 v72)), (.int (f2 v72 (0 : Int32) (0 : Int32)))])) _
            refine XS.icmpNo X107.here hx rfl (hb hby at_46) rfl (teq hc46_109).2 ?_
            show Steps p.tables e below (T107.setTop (mkF m 49 #[.val (.int p0), .val (.int p1), .val (.int p2), .val (.int v63), .val (.int v72), .val (.ref s_SESSION_OPEN)] [])) _
            refine XS.iconst X107.here hx rfl (hb hby at_49) ?_
            show Steps p.tables e below (T107.setTop (mkF m 50 #[.val (.int p0), .val (.int p1), .val (.int p2), .val (.int v63), .val (.int v72), .val (.ref s_SESSION_OPEN)] [(.int (1 : Int32))])) _
            refine XS.goto X107.here hx rfl (pc0 := 50) (pc' := 54) rfl (hb hby at_50) (by decide) (by decide) ?_
            show Steps p.tables e below (T107.setTop (mkF m 54 #[.val (.int p0), .val (.int p1), .val (.int p2), .val (.int v63), .val (.int v72), .val (.ref s_SESSION_OPEN)] [(.int (1 : Int32))])) _
            exact retN X107 hx (t := .boolean) Bd.returns (by simp) (hb hby at_54) hr
          · show Q0 Z p0 p1 p2 s_MESSAGE s_NEW_TERM s_SESSION_OPEN s_SESSION_CLOSE s_TIMER_FIRED h0 n0 _ T107.heap _
            rw [e107]
            exact ⟨rfl, N107⟩
        · have pre110 : ∀ t, Steps p.tables e below (T107.setTop (mkF m 54 #[.val (.int p0), .val (.int p1), .val (.int p2), .val (.int v63), .val (.int v72), .val (.ref s_SESSION_OPEN)] [(.int (0 : Int32))])) t → Steps p.tables e below (s₁.setTop (entryFrame m #[(.int p0), (.int p1), (.int p2)] maxLocals)) t := by
            intro t k
            refine pre108 t ?_
            show Steps p.tables e below (T107.setTop (mkF m 46 #[.val (.int p0), .val (.int p1), .val (.int p2), .val (.int v63), .val (.int v72), .val (.ref s_SESSION_OPEN)] [(.int (f3 v63 v72)), (.int (f2 v72 (0 : Int32) (0 : Int32)))])) _
            refine XS.icmpYes X107.here hx rfl (pc0 := 46) (pc' := 53) rfl (hb hby at_46) rfl (feq hc46_109).2 (by decide) (by decide) ?_
            show Steps p.tables e below (T107.setTop (mkF m 53 #[.val (.int p0), .val (.int p1), .val (.int p2), .val (.int v63), .val (.int v72), .val (.ref s_SESSION_OPEN)] [])) _
            refine XS.iconst X107.here hx rfl (hb hby at_53) ?_
            show Steps p.tables e below (T107.setTop (mkF m 54 #[.val (.int p0), .val (.int p1), .val (.int p2), .val (.int v63), .val (.int v72), .val (.ref s_SESSION_OPEN)] [(.int (0 : Int32))])) _
            exact k
          exact (own_leaf3 hv63 hv72 hf78 hf89 hf100 hc46_109).elim
      · by_cases hf111 : v63 = (3 : Int32)
        · have hq112 : (f1 v63 s_MESSAGE s_NEW_TERM s_SESSION_OPEN s_SESSION_CLOSE s_TIMER_FIRED) = s_SESSION_CLOSE := by unfold f1; rw [if_neg hf78, if_neg hf89, if_neg hf100, if_pos hf111]
          have pre113 : ∀ t, Steps p.tables e below (T76.setTop (mkF m 31 #[.val (.int p0), .val (.int p1), .val (.int p2), .val (.int v63), .val (.int v72), .unset] [(.ref s_SESSION_CLOSE)])) t → Steps p.tables e below (s₁.setTop (entryFrame m #[(.int p0), (.int p1), (.int p2)] maxLocals)) t := by rw [hq112] at pre77; exact pre77
          have pre114 : ∀ t, Steps p.tables e below (T76.setTop (mkF m 37 #[.val (.int p0), .val (.int p1), .val (.int p2), .val (.int v63), .val (.int v72), .val (.ref s_SESSION_CLOSE)] [(.int v72), (.ref s_SESSION_CLOSE)])) t → Steps p.tables e below (s₁.setTop (entryFrame m #[(.int p0), (.int p1), (.int p2)] maxLocals)) t := by
            intro t k
            refine pre113 t ?_
            show Steps p.tables e below (T76.setTop (mkF m 31 #[.val (.int p0), .val (.int p1), .val (.int p2), .val (.int v63), .val (.int v72), .unset] [(.ref s_SESSION_CLOSE)])) _
            refine XS.astore X76.here hx rfl (hb hby at_31) rfl rfl (l' := #[.val (.int p0), .val (.int p1), .val (.int p2), .val (.int v63), .val (.int v72), .val (.ref s_SESSION_CLOSE)]) rfl ?_
            show Steps p.tables e below (T76.setTop (mkF m 33 #[.val (.int p0), .val (.int p1), .val (.int p2), .val (.int v63), .val (.int v72), .val (.ref s_SESSION_CLOSE)] [])) _
            refine XS.aload X76.here hx rfl (hb hby at_33) rfl rfl ?_
            show Steps p.tables e below (T76.setTop (mkF m 35 #[.val (.int p0), .val (.int p1), .val (.int p2), .val (.int v63), .val (.int v72), .val (.ref s_SESSION_CLOSE)] [(.ref s_SESSION_CLOSE)])) _
            refine XS.iload X76.here hx rfl (hb hby at_35) rfl ?_
            show Steps p.tables e below (T76.setTop (mkF m 37 #[.val (.int p0), .val (.int p1), .val (.int p2), .val (.int v63), .val (.int v72), .val (.ref s_SESSION_CLOSE)] [(.int v72), (.ref s_SESSION_CLOSE)])) _
            exact k
          obtain ⟨cq115, kq115, q115a, q115b, q115c⟩ := isOf hZ e76 E_s_SESSION_CLOSE
          obtain ⟨_, _, ⟨T115, L115, k115, n115⟩, -, X115, ⟨Lc115, hQ115, l115, y115, z115⟩, st115⟩ := X76.virtualBack hx (y := (⟨"com/example/careful_quorum/carefulquorum/storage/EntryType", "fits", "(I)Z"⟩ : MethodName)) (z := (⟨"com/example/careful_quorum/carefulquorum/storage/EntryType", "fits", "(I)Z"⟩ : MethodName)) hown (mvT hZ (hw _ (List.mem_of_getElem? (i := 8) rfl))) (mvT hZ (hw _ (List.mem_of_getElem? (i := 9) rfl))) (notFace_of_selects (args := #[]) (mvT hZ (hw _ (List.mem_of_getElem? (i := 11) rfl)))) (mvT hZ (hw _ (List.mem_of_getElem? (i := 11) rfl))) (mvT hZ (hw _ (List.mem_of_getElem? (i := 10) rfl))) (by decide) (backOf (W := 0) (rm2 l Z ar0 hw [] s_SESSION_CLOSE v72 (0 : Int32) (9 : Int32) h0 n0 Z0 F_withPayload_s_SESSION_CLOSE F_fieldBytes_s_SESSION_CLOSE) hZ (hw _ (List.mem_of_getElem? (i := 12) rfl)) (hw _ (List.mem_of_getElem? (i := 6) rfl)) (by decide) (by decide)) q115a q115c (g := (mkF m 37 #[.val (.int p0), .val (.int p1), .val (.int p2), .val (.int v63), .val (.int v72), .val (.ref s_SESSION_CLOSE)] [(.int v72), (.ref s_SESSION_CLOSE)])) rfl (by rw [hml]; rfl) (Steps.refl _) (argsL := [(.int v72)]) (rest := []) (lenOf pd_2 rfl) rfl (by show 2 * 0 + _ ≤ _; exact Nat.le_of_eq rfl) (hb hby at_37) (fun _ _ => ⟨rfl, e76, (by decide : 0 + 0 ≤ _), (by decide : 0 + 0 ≤ _)⟩)
          dsimp only [Pt.U, Pt.locs, Pt.cells, Pt.slots] at X115 l115 y115 z115 st115 hQ115
          subst l115 y115 z115
          obtain ⟨rfl, N115q, e115⟩ := hQ115
          have N115 := Fr.app N76 N115q
          have pre116 : ∀ t, Steps p.tables e below (T115.setTop (mkF m 40 #[.val (.int p0), .val (.int p1), .val (.int p2), .val (.int v63), .val (.int v72), .val (.ref s_SESSION_CLOSE)] [(.int (f2 v72 (0 : Int32) (9 : Int32)))])) t → Steps p.tables e below (s₁.setTop (entryFrame m #[(.int p0), (.int p1), (.int p2)] maxLocals)) t := fun t k => pre114 t (st115.trans k)
          have pre117 : ∀ t, Steps p.tables e below (T115.setTop (mkF m 43 #[.val (.int p0), .val (.int p1), .val (.int p2), .val (.int v63), .val (.int v72), .val (.ref s_SESSION_CLOSE)] [(.int v72), (.int v63), (.int (f2 v72 (0 : Int32) (9 : Int32)))])) t → Steps p.tables e below (s₁.setTop (entryFrame m #[(.int p0), (.int p1), (.int p2)] maxLocals)) t := by
            intro t k
            refine pre116 t ?_
            show Steps p.tables e below (T115.setTop (mkF m 40 #[.val (.int p0), .val (.int p1), .val (.int p2), .val (.int v63), .val (.int v72), .val (.ref s_SESSION_CLOSE)] [(.int (f2 v72 (0 : Int32) (9 : Int32)))])) _
            refine XS.iloadN X115.here hx rfl (hb hby at_40) rfl ?_
            show Steps p.tables e below (T115.setTop (mkF m 41 #[.val (.int p0), .val (.int p1), .val (.int p2), .val (.int v63), .val (.int v72), .val (.ref s_SESSION_CLOSE)] [(.int v63), (.int (f2 v72 (0 : Int32) (9 : Int32)))])) _
            refine XS.iload X115.here hx rfl (hb hby at_41) rfl ?_
            show Steps p.tables e below (T115.setTop (mkF m 43 #[.val (.int p0), .val (.int p1), .val (.int p2), .val (.int v63), .val (.int v72), .val (.ref s_SESSION_CLOSE)] [(.int v72), (.int v63), (.int (f2 v72 (0 : Int32) (9 : Int32)))])) _
            exact k
          obtain ⟨_, _, ⟨T118, L118, k118, n118⟩, -, X118, ⟨Lc118, hQ118, l118, y118, z118⟩, st118⟩ := Jvm.LawKit.callS X115 hx (y := (⟨"com/example/careful_quorum/carefulquorum/storage/EntryTypeFitsPinLaw", "expected", "(II)Z"⟩ : MethodName)) hown (mvT hZ (hw _ (List.mem_of_getElem? (i := 17) rfl))) (mvT hZ (hw _ (List.mem_of_getElem? (i := 18) rfl))) (mvT hZ (hw _ (List.mem_of_getElem? (i := 3) rfl))) (mvT hZ (hw _ (List.mem_of_getElem? (i := 19) rfl))) (by decide) (backOf (W := 1) (rm3 l Z ar0 hw [] v63 v72 h0 n0 Z0) hZ (hw _ (List.mem_of_getElem? (i := 19) rfl)) (hw _ (List.mem_of_getElem? (i := 3) rfl)) (by decide) (by decide)) (g := (mkF m 43 #[.val (.int p0), .val (.int p1), .val (.int p2), .val (.int v63), .val (.int v72), .val (.ref s_SESSION_CLOSE)] [(.int v72), (.int v63), (.int (f2 v72 (0 : Int32) (9 : Int32)))])) rfl (by rw [hml]; rfl) (argsL := [(.int v63), (.int v72)]) (rest := [(.int (f2 v72 (0 : Int32) (9 : Int32)))]) (lenOf pd_3 rfl) rfl (by show 2 * 0 + _ ≤ _; exact Nat.le_of_eq rfl) (hb hby at_43) (fun _ _ => ⟨rfl, e115, (by decide : 0 + 0 ≤ _), (by decide : 0 + 0 ≤ _)⟩)
          dsimp only [Pt.U, Pt.locs, Pt.cells, Pt.slots] at X118 l118 y118 z118 st118 hQ118
          subst l118 y118 z118
          obtain ⟨rfl, N118q, e118⟩ := hQ118
          have N118 := Fr.app N115 N118q
          have pre119 : ∀ t, Steps p.tables e below (T118.setTop (mkF m 46 #[.val (.int p0), .val (.int p1), .val (.int p2), .val (.int v63), .val (.int v72), .val (.ref s_SESSION_CLOSE)] [(.int (f3 v63 v72)), (.int (f2 v72 (0 : Int32) (9 : Int32)))])) t → Steps p.tables e below (s₁.setTop (entryFrame m #[(.int p0), (.int p1), (.int p2)] maxLocals)) t := fun t k => pre117 t (st118 t k)
          by_cases hc46_120 : (f2 v72 (0 : Int32) (9 : Int32)) = (f3 v63 v72)
          · obtain ⟨fs, hr, hrun, hended, hW, hsame⟩ := X118.leave (v := some (.int (1 : Int32))) (fun h => by rw [Bd.returns] at h; cases h)
            refine ⟨_, _, pre119 _ ?_, hrun, hended, _, _, rfl, ?_, ⟨_, rfl⟩, hW, hsame.mono (by decide) (by decide)⟩
            · show Steps p.tables e below (T118.setTop (mkF m 46 #[.val (.int p0), .val (.int p1), .val (.int p2), .val (.int v63), .val (.int v72), .val (.ref s_SESSION_CLOSE)] [(.int (f3 v63 v72)), (.int (f2 v72 (0 : Int32) (9 : Int32)))])) _
              refine XS.icmpNo X118.here hx rfl (hb hby at_46) rfl (teq hc46_120).2 ?_
              show Steps p.tables e below (T118.setTop (mkF m 49 #[.val (.int p0), .val (.int p1), .val (.int p2), .val (.int v63), .val (.int v72), .val (.ref s_SESSION_CLOSE)] [])) _
              refine XS.iconst X118.here hx rfl (hb hby at_49) ?_
              show Steps p.tables e below (T118.setTop (mkF m 50 #[.val (.int p0), .val (.int p1), .val (.int p2), .val (.int v63), .val (.int v72), .val (.ref s_SESSION_CLOSE)] [(.int (1 : Int32))])) _
              refine XS.goto X118.here hx rfl (pc0 := 50) (pc' := 54) rfl (hb hby at_50) (by decide) (by decide) ?_
              show Steps p.tables e below (T118.setTop (mkF m 54 #[.val (.int p0), .val (.int p1), .val (.int p2), .val (.int v63), .val (.int v72), .val (.ref s_SESSION_CLOSE)] [(.int (1 : Int32))])) _
              exact retN X118 hx (t := .boolean) Bd.returns (by simp) (hb hby at_54) hr
            · show Q0 Z p0 p1 p2 s_MESSAGE s_NEW_TERM s_SESSION_OPEN s_SESSION_CLOSE s_TIMER_FIRED h0 n0 _ T118.heap _
              rw [e118]
              exact ⟨rfl, N118⟩
          · have pre121 : ∀ t, Steps p.tables e below (T118.setTop (mkF m 54 #[.val (.int p0), .val (.int p1), .val (.int p2), .val (.int v63), .val (.int v72), .val (.ref s_SESSION_CLOSE)] [(.int (0 : Int32))])) t → Steps p.tables e below (s₁.setTop (entryFrame m #[(.int p0), (.int p1), (.int p2)] maxLocals)) t := by
              intro t k
              refine pre119 t ?_
              show Steps p.tables e below (T118.setTop (mkF m 46 #[.val (.int p0), .val (.int p1), .val (.int p2), .val (.int v63), .val (.int v72), .val (.ref s_SESSION_CLOSE)] [(.int (f3 v63 v72)), (.int (f2 v72 (0 : Int32) (9 : Int32)))])) _
              refine XS.icmpYes X118.here hx rfl (pc0 := 46) (pc' := 53) rfl (hb hby at_46) rfl (feq hc46_120).2 (by decide) (by decide) ?_
              show Steps p.tables e below (T118.setTop (mkF m 53 #[.val (.int p0), .val (.int p1), .val (.int p2), .val (.int v63), .val (.int v72), .val (.ref s_SESSION_CLOSE)] [])) _
              refine XS.iconst X118.here hx rfl (hb hby at_53) ?_
              show Steps p.tables e below (T118.setTop (mkF m 54 #[.val (.int p0), .val (.int p1), .val (.int p2), .val (.int v63), .val (.int v72), .val (.ref s_SESSION_CLOSE)] [(.int (0 : Int32))])) _
              exact k
            exact (own_leaf4 hv63 hv72 hf78 hf89 hf100 hf111 hc46_120).elim
        · have hq122 : (f1 v63 s_MESSAGE s_NEW_TERM s_SESSION_OPEN s_SESSION_CLOSE s_TIMER_FIRED) = s_TIMER_FIRED := by unfold f1; rw [if_neg hf78, if_neg hf89, if_neg hf100, if_neg hf111]
          have pre123 : ∀ t, Steps p.tables e below (T76.setTop (mkF m 31 #[.val (.int p0), .val (.int p1), .val (.int p2), .val (.int v63), .val (.int v72), .unset] [(.ref s_TIMER_FIRED)])) t → Steps p.tables e below (s₁.setTop (entryFrame m #[(.int p0), (.int p1), (.int p2)] maxLocals)) t := by rw [hq122] at pre77; exact pre77
          have pre124 : ∀ t, Steps p.tables e below (T76.setTop (mkF m 37 #[.val (.int p0), .val (.int p1), .val (.int p2), .val (.int v63), .val (.int v72), .val (.ref s_TIMER_FIRED)] [(.int v72), (.ref s_TIMER_FIRED)])) t → Steps p.tables e below (s₁.setTop (entryFrame m #[(.int p0), (.int p1), (.int p2)] maxLocals)) t := by
            intro t k
            refine pre123 t ?_
            show Steps p.tables e below (T76.setTop (mkF m 31 #[.val (.int p0), .val (.int p1), .val (.int p2), .val (.int v63), .val (.int v72), .unset] [(.ref s_TIMER_FIRED)])) _
            refine XS.astore X76.here hx rfl (hb hby at_31) rfl rfl (l' := #[.val (.int p0), .val (.int p1), .val (.int p2), .val (.int v63), .val (.int v72), .val (.ref s_TIMER_FIRED)]) rfl ?_
            show Steps p.tables e below (T76.setTop (mkF m 33 #[.val (.int p0), .val (.int p1), .val (.int p2), .val (.int v63), .val (.int v72), .val (.ref s_TIMER_FIRED)] [])) _
            refine XS.aload X76.here hx rfl (hb hby at_33) rfl rfl ?_
            show Steps p.tables e below (T76.setTop (mkF m 35 #[.val (.int p0), .val (.int p1), .val (.int p2), .val (.int v63), .val (.int v72), .val (.ref s_TIMER_FIRED)] [(.ref s_TIMER_FIRED)])) _
            refine XS.iload X76.here hx rfl (hb hby at_35) rfl ?_
            show Steps p.tables e below (T76.setTop (mkF m 37 #[.val (.int p0), .val (.int p1), .val (.int p2), .val (.int v63), .val (.int v72), .val (.ref s_TIMER_FIRED)] [(.int v72), (.ref s_TIMER_FIRED)])) _
            exact k
          obtain ⟨cq125, kq125, q125a, q125b, q125c⟩ := isOf hZ e76 E_s_TIMER_FIRED
          obtain ⟨_, _, ⟨T125, L125, k125, n125⟩, -, X125, ⟨Lc125, hQ125, l125, y125, z125⟩, st125⟩ := X76.virtualBack hx (y := (⟨"com/example/careful_quorum/carefulquorum/storage/EntryType", "fits", "(I)Z"⟩ : MethodName)) (z := (⟨"com/example/careful_quorum/carefulquorum/storage/EntryType", "fits", "(I)Z"⟩ : MethodName)) hown (mvT hZ (hw _ (List.mem_of_getElem? (i := 8) rfl))) (mvT hZ (hw _ (List.mem_of_getElem? (i := 9) rfl))) (notFace_of_selects (args := #[]) (mvT hZ (hw _ (List.mem_of_getElem? (i := 11) rfl)))) (mvT hZ (hw _ (List.mem_of_getElem? (i := 11) rfl))) (mvT hZ (hw _ (List.mem_of_getElem? (i := 10) rfl))) (by decide) (backOf (W := 0) (rm2 l Z ar0 hw [] s_TIMER_FIRED v72 (0 : Int32) (24 : Int32) h0 n0 Z0 F_withPayload_s_TIMER_FIRED F_fieldBytes_s_TIMER_FIRED) hZ (hw _ (List.mem_of_getElem? (i := 12) rfl)) (hw _ (List.mem_of_getElem? (i := 6) rfl)) (by decide) (by decide)) q125a q125c (g := (mkF m 37 #[.val (.int p0), .val (.int p1), .val (.int p2), .val (.int v63), .val (.int v72), .val (.ref s_TIMER_FIRED)] [(.int v72), (.ref s_TIMER_FIRED)])) rfl (by rw [hml]; rfl) (Steps.refl _) (argsL := [(.int v72)]) (rest := []) (lenOf pd_2 rfl) rfl (by show 2 * 0 + _ ≤ _; exact Nat.le_of_eq rfl) (hb hby at_37) (fun _ _ => ⟨rfl, e76, (by decide : 0 + 0 ≤ _), (by decide : 0 + 0 ≤ _)⟩)
          dsimp only [Pt.U, Pt.locs, Pt.cells, Pt.slots] at X125 l125 y125 z125 st125 hQ125
          subst l125 y125 z125
          obtain ⟨rfl, N125q, e125⟩ := hQ125
          have N125 := Fr.app N76 N125q
          have pre126 : ∀ t, Steps p.tables e below (T125.setTop (mkF m 40 #[.val (.int p0), .val (.int p1), .val (.int p2), .val (.int v63), .val (.int v72), .val (.ref s_TIMER_FIRED)] [(.int (f2 v72 (0 : Int32) (24 : Int32)))])) t → Steps p.tables e below (s₁.setTop (entryFrame m #[(.int p0), (.int p1), (.int p2)] maxLocals)) t := fun t k => pre124 t (st125.trans k)
          have pre127 : ∀ t, Steps p.tables e below (T125.setTop (mkF m 43 #[.val (.int p0), .val (.int p1), .val (.int p2), .val (.int v63), .val (.int v72), .val (.ref s_TIMER_FIRED)] [(.int v72), (.int v63), (.int (f2 v72 (0 : Int32) (24 : Int32)))])) t → Steps p.tables e below (s₁.setTop (entryFrame m #[(.int p0), (.int p1), (.int p2)] maxLocals)) t := by
            intro t k
            refine pre126 t ?_
            show Steps p.tables e below (T125.setTop (mkF m 40 #[.val (.int p0), .val (.int p1), .val (.int p2), .val (.int v63), .val (.int v72), .val (.ref s_TIMER_FIRED)] [(.int (f2 v72 (0 : Int32) (24 : Int32)))])) _
            refine XS.iloadN X125.here hx rfl (hb hby at_40) rfl ?_
            show Steps p.tables e below (T125.setTop (mkF m 41 #[.val (.int p0), .val (.int p1), .val (.int p2), .val (.int v63), .val (.int v72), .val (.ref s_TIMER_FIRED)] [(.int v63), (.int (f2 v72 (0 : Int32) (24 : Int32)))])) _
            refine XS.iload X125.here hx rfl (hb hby at_41) rfl ?_
            show Steps p.tables e below (T125.setTop (mkF m 43 #[.val (.int p0), .val (.int p1), .val (.int p2), .val (.int v63), .val (.int v72), .val (.ref s_TIMER_FIRED)] [(.int v72), (.int v63), (.int (f2 v72 (0 : Int32) (24 : Int32)))])) _
            exact k
          obtain ⟨_, _, ⟨T128, L128, k128, n128⟩, -, X128, ⟨Lc128, hQ128, l128, y128, z128⟩, st128⟩ := Jvm.LawKit.callS X125 hx (y := (⟨"com/example/careful_quorum/carefulquorum/storage/EntryTypeFitsPinLaw", "expected", "(II)Z"⟩ : MethodName)) hown (mvT hZ (hw _ (List.mem_of_getElem? (i := 17) rfl))) (mvT hZ (hw _ (List.mem_of_getElem? (i := 18) rfl))) (mvT hZ (hw _ (List.mem_of_getElem? (i := 3) rfl))) (mvT hZ (hw _ (List.mem_of_getElem? (i := 19) rfl))) (by decide) (backOf (W := 1) (rm3 l Z ar0 hw [] v63 v72 h0 n0 Z0) hZ (hw _ (List.mem_of_getElem? (i := 19) rfl)) (hw _ (List.mem_of_getElem? (i := 3) rfl)) (by decide) (by decide)) (g := (mkF m 43 #[.val (.int p0), .val (.int p1), .val (.int p2), .val (.int v63), .val (.int v72), .val (.ref s_TIMER_FIRED)] [(.int v72), (.int v63), (.int (f2 v72 (0 : Int32) (24 : Int32)))])) rfl (by rw [hml]; rfl) (argsL := [(.int v63), (.int v72)]) (rest := [(.int (f2 v72 (0 : Int32) (24 : Int32)))]) (lenOf pd_3 rfl) rfl (by show 2 * 0 + _ ≤ _; exact Nat.le_of_eq rfl) (hb hby at_43) (fun _ _ => ⟨rfl, e125, (by decide : 0 + 0 ≤ _), (by decide : 0 + 0 ≤ _)⟩)
          dsimp only [Pt.U, Pt.locs, Pt.cells, Pt.slots] at X128 l128 y128 z128 st128 hQ128
          subst l128 y128 z128
          obtain ⟨rfl, N128q, e128⟩ := hQ128
          have N128 := Fr.app N125 N128q
          have pre129 : ∀ t, Steps p.tables e below (T128.setTop (mkF m 46 #[.val (.int p0), .val (.int p1), .val (.int p2), .val (.int v63), .val (.int v72), .val (.ref s_TIMER_FIRED)] [(.int (f3 v63 v72)), (.int (f2 v72 (0 : Int32) (24 : Int32)))])) t → Steps p.tables e below (s₁.setTop (entryFrame m #[(.int p0), (.int p1), (.int p2)] maxLocals)) t := fun t k => pre127 t (st128 t k)
          by_cases hc46_130 : (f2 v72 (0 : Int32) (24 : Int32)) = (f3 v63 v72)
          · obtain ⟨fs, hr, hrun, hended, hW, hsame⟩ := X128.leave (v := some (.int (1 : Int32))) (fun h => by rw [Bd.returns] at h; cases h)
            refine ⟨_, _, pre129 _ ?_, hrun, hended, _, _, rfl, ?_, ⟨_, rfl⟩, hW, hsame.mono (by decide) (by decide)⟩
            · show Steps p.tables e below (T128.setTop (mkF m 46 #[.val (.int p0), .val (.int p1), .val (.int p2), .val (.int v63), .val (.int v72), .val (.ref s_TIMER_FIRED)] [(.int (f3 v63 v72)), (.int (f2 v72 (0 : Int32) (24 : Int32)))])) _
              refine XS.icmpNo X128.here hx rfl (hb hby at_46) rfl (teq hc46_130).2 ?_
              show Steps p.tables e below (T128.setTop (mkF m 49 #[.val (.int p0), .val (.int p1), .val (.int p2), .val (.int v63), .val (.int v72), .val (.ref s_TIMER_FIRED)] [])) _
              refine XS.iconst X128.here hx rfl (hb hby at_49) ?_
              show Steps p.tables e below (T128.setTop (mkF m 50 #[.val (.int p0), .val (.int p1), .val (.int p2), .val (.int v63), .val (.int v72), .val (.ref s_TIMER_FIRED)] [(.int (1 : Int32))])) _
              refine XS.goto X128.here hx rfl (pc0 := 50) (pc' := 54) rfl (hb hby at_50) (by decide) (by decide) ?_
              show Steps p.tables e below (T128.setTop (mkF m 54 #[.val (.int p0), .val (.int p1), .val (.int p2), .val (.int v63), .val (.int v72), .val (.ref s_TIMER_FIRED)] [(.int (1 : Int32))])) _
              exact retN X128 hx (t := .boolean) Bd.returns (by simp) (hb hby at_54) hr
            · show Q0 Z p0 p1 p2 s_MESSAGE s_NEW_TERM s_SESSION_OPEN s_SESSION_CLOSE s_TIMER_FIRED h0 n0 _ T128.heap _
              rw [e128]
              exact ⟨rfl, N128⟩
          · have pre131 : ∀ t, Steps p.tables e below (T128.setTop (mkF m 54 #[.val (.int p0), .val (.int p1), .val (.int p2), .val (.int v63), .val (.int v72), .val (.ref s_TIMER_FIRED)] [(.int (0 : Int32))])) t → Steps p.tables e below (s₁.setTop (entryFrame m #[(.int p0), (.int p1), (.int p2)] maxLocals)) t := by
              intro t k
              refine pre129 t ?_
              show Steps p.tables e below (T128.setTop (mkF m 46 #[.val (.int p0), .val (.int p1), .val (.int p2), .val (.int v63), .val (.int v72), .val (.ref s_TIMER_FIRED)] [(.int (f3 v63 v72)), (.int (f2 v72 (0 : Int32) (24 : Int32)))])) _
              refine XS.icmpYes X128.here hx rfl (pc0 := 46) (pc' := 53) rfl (hb hby at_46) rfl (feq hc46_130).2 (by decide) (by decide) ?_
              show Steps p.tables e below (T128.setTop (mkF m 53 #[.val (.int p0), .val (.int p1), .val (.int p2), .val (.int v63), .val (.int v72), .val (.ref s_TIMER_FIRED)] [])) _
              refine XS.iconst X128.here hx rfl (hb hby at_53) ?_
              show Steps p.tables e below (T128.setTop (mkF m 54 #[.val (.int p0), .val (.int p1), .val (.int p2), .val (.int v63), .val (.int v72), .val (.ref s_TIMER_FIRED)] [(.int (0 : Int32))])) _
              exact k
            exact (own_leaf5 hv63 hv72 hf78 hf89 hf100 hf111 hc46_130).elim
set_option maxRecDepth 65536 in
set_option maxHeartbeats 40000000 in
theorem comes_1 {Post : Tables → Env → Array Value → State → Outcome → State → Prop} (hpost : ∀ tb e args s v u, (limb_1_1.after args s (.returned v) u = true ∧ limb_1_2.after args s (.returned v) u = true ∧ True) → FrameEnd s (.returned v) u (Jvm.fieldLocs frame_1_writes args s ++ Jvm.arrayLocs frame_1_arrays args s ++ Jvm.staticLocs frame_1_statics s) 0 0 → Post tb e args s (.returned v) u) :
    ArmFor flags0 classFile x code maxLocals ret World_1 tables_1 room_1 Calls_1 rest_1 Pre_1 Post := by
  intro l hfl _ _ p e ha hc hk s m args below hf hA hF happ hP
  obtain ⟨hcalls, hrest, hpre⟩ := hP
  obtain ⟨-, -, -, hnamed, -, -, -, hat⟩ := (Spec.applies_iff hf).mp happ
  obtain ⟨hg, hn⟩ := and_e (Cond.before_iff.mp (show (Jvm.Cond.and given_1 narrow_1).before args s = true from hpre))
  obtain ⟨hcount, hg0⟩ := and_e hg
  obtain ⟨ha0, hg1⟩ := and_e hg0
  obtain ⟨ha1, hg2⟩ := and_e hg1
  have ha2 := hg2
  obtain ⟨w0, w1, w2, rfl⟩ : ∃ w0 w1 w2 : Value, args = #[w0, w1, w2] := by
    have hs : args.size = 3 := by simpa [Cond.value, given_1] using hcount
    obtain ⟨L⟩ := args
    match L, hs with
    | [w0, w1, w2], _ => exact ⟨w0, w1, w2, rfl⟩
  have hw := fun d (hd : d ∈ tables_1) => atoms_spec (ws := Jvm.Cond.code x code maxLocals ret :: tables_1) hat d (List.mem_cons_of_mem _ hd)
  have hfit : Fit s := fun {y c} hc i hi => by
    obtain ⟨ha, rfl⟩ := Array.getElem?_eq_some_iff.mp hc
    have q := List.all_eq_true.mp ((Array.all_eq_true_iff_forall_mem.mp hF) _ (Array.getElem_mem ha)) i (List.mem_range.mpr hi)
    simpa [Array.getElem?_eq_getElem hi] using q
  obtain ⟨i0, ei0⟩ := is_v ha0
  obtain rfl : w0 = (.int i0) := Option.some.inj ei0
  obtain ⟨i1, ei1⟩ := is_v ha1
  obtain rfl : w1 = (.int i1) := Option.some.inj ei1
  obtain ⟨i2, ei2⟩ := is_v ha2
  obtain rfl : w2 = (.int i2) := Option.some.inj ei2
  obtain ⟨hn1a, hn1b⟩ := and_e hn
  obtain ⟨s_MESSAGE, hs_MESSAGE⟩ := exa_v hn1a
  have S_MESSAGE := Sta.start hs_MESSAGE (Or.inr ⟨(hw _ (List.mem_of_getElem? (i := 6) rfl)), (hw _ (List.mem_of_getElem? (i := 7) rfl))⟩)
  have E_s_MESSAGE := Exa.start hs_MESSAGE hn1a
  obtain ⟨hn2a, hn2b⟩ := and_e hn1b
  have F_withPayload_s_MESSAGE := Fld.start ((fld_at hs_MESSAGE).symm.trans (own_eqI hn2a))
  obtain ⟨hn3a, hn3b⟩ := and_e hn2b
  have F_fieldBytes_s_MESSAGE := Fld.start ((fld_at hs_MESSAGE).symm.trans (own_eqI hn3a))
  obtain ⟨hn4a, hn4b⟩ := and_e hn3b
  obtain ⟨s_NEW_TERM, hs_NEW_TERM⟩ := exa_v hn4a
  have S_NEW_TERM := Sta.start hs_NEW_TERM (Or.inr ⟨(hw _ (List.mem_of_getElem? (i := 6) rfl)), (hw _ (List.mem_of_getElem? (i := 24) rfl))⟩)
  have E_s_NEW_TERM := Exa.start hs_NEW_TERM hn4a
  obtain ⟨hn5a, hn5b⟩ := and_e hn4b
  have F_withPayload_s_NEW_TERM := Fld.start ((fld_at hs_NEW_TERM).symm.trans (own_eqI hn5a))
  obtain ⟨hn6a, hn6b⟩ := and_e hn5b
  have F_fieldBytes_s_NEW_TERM := Fld.start ((fld_at hs_NEW_TERM).symm.trans (own_eqI hn6a))
  obtain ⟨hn7a, hn7b⟩ := and_e hn6b
  obtain ⟨s_TIMER_FIRED, hs_TIMER_FIRED⟩ := exa_v hn7a
  have S_TIMER_FIRED := Sta.start hs_TIMER_FIRED (Or.inr ⟨(hw _ (List.mem_of_getElem? (i := 6) rfl)), (hw _ (List.mem_of_getElem? (i := 26) rfl))⟩)
  have E_s_TIMER_FIRED := Exa.start hs_TIMER_FIRED hn7a
  obtain ⟨hn8a, hn8b⟩ := and_e hn7b
  have F_withPayload_s_TIMER_FIRED := Fld.start ((fld_at hs_TIMER_FIRED).symm.trans (own_eqI hn8a))
  obtain ⟨hn9a, hn9b⟩ := and_e hn8b
  have F_fieldBytes_s_TIMER_FIRED := Fld.start ((fld_at hs_TIMER_FIRED).symm.trans (own_eqI hn9a))
  obtain ⟨hn10a, hn10b⟩ := and_e hn9b
  obtain ⟨s_SESSION_CLOSE, hs_SESSION_CLOSE⟩ := exa_v hn10a
  have S_SESSION_CLOSE := Sta.start hs_SESSION_CLOSE (Or.inr ⟨(hw _ (List.mem_of_getElem? (i := 6) rfl)), (hw _ (List.mem_of_getElem? (i := 28) rfl))⟩)
  have E_s_SESSION_CLOSE := Exa.start hs_SESSION_CLOSE hn10a
  obtain ⟨hn11a, hn11b⟩ := and_e hn10b
  have F_withPayload_s_SESSION_CLOSE := Fld.start ((fld_at hs_SESSION_CLOSE).symm.trans (own_eqI hn11a))
  obtain ⟨hn12a, hn12b⟩ := and_e hn11b
  have F_fieldBytes_s_SESSION_CLOSE := Fld.start ((fld_at hs_SESSION_CLOSE).symm.trans (own_eqI hn12a))
  obtain ⟨hn13a, hn13b⟩ := and_e hn12b
  obtain ⟨s_SESSION_OPEN, hs_SESSION_OPEN⟩ := exa_v hn13a
  have S_SESSION_OPEN := Sta.start hs_SESSION_OPEN (Or.inr ⟨(hw _ (List.mem_of_getElem? (i := 6) rfl)), (hw _ (List.mem_of_getElem? (i := 30) rfl))⟩)
  have E_s_SESSION_OPEN := Exa.start hs_SESSION_OPEN hn13a
  obtain ⟨hn14a, hn14b⟩ := and_e hn13b
  have F_withPayload_s_SESSION_OPEN := Fld.start ((fld_at hs_SESSION_OPEN).symm.trans (own_eqI hn14a))
  have F_fieldBytes_s_SESSION_OPEN := Fld.start ((fld_at hs_SESSION_OPEN).symm.trans (own_eqI hn14b))
  obtain ⟨n, o, h1, h2, h3, _, L, rfl, ⟨rfl, N⟩, hq⟩ := rm0 l s _ hw tables_1 i0 i1 i2 s_MESSAGE s_NEW_TERM s_SESSION_OPEN s_SESSION_CLOSE s_TIMER_FIRED s.heap s.heap.size (Nat.le_refl _) S_MESSAGE S_NEW_TERM S_SESSION_OPEN S_SESSION_CLOSE S_TIMER_FIRED E_s_MESSAGE F_withPayload_s_MESSAGE F_fieldBytes_s_MESSAGE E_s_NEW_TERM F_withPayload_s_NEW_TERM F_fieldBytes_s_NEW_TERM E_s_SESSION_OPEN F_withPayload_s_SESSION_OPEN F_fieldBytes_s_SESSION_OPEN E_s_SESSION_CLOSE F_withPayload_s_SESSION_CLOSE F_fieldBytes_s_SESSION_CLOSE E_s_TIMER_FIRED F_withPayload_s_TIMER_FIRED F_fieldBytes_s_TIMER_FIRED p e ha hc hk s m _ below hf ((Spec.applies_iff_loose hf).mp happ).1 ⟨rfl, State.Warmed39.refl s, rfl⟩ trivial
  refine ⟨n, _, h1, h2, h3, hpost _ _ _ _ _ _ ⟨Cond.after_iff.mpr rfl, Cond.after_iff.mpr (eq_i res_at (Term.int_eval (1)) rfl), trivial⟩ ⟨hq.1, hq.2.1, (hq.2.2.sift fun y hy => Or.inr (N y hy)).mono (by decide) (by decide)⟩⟩
theorem main_1_1 : Claimed_1_1 := comes_1 fun _ _ _ _ _ _ h hF => ⟨h.1, hF⟩
theorem main_1_2 : Claimed_1_2 := comes_1 fun _ _ _ _ _ _ h hF => ⟨h.2.1, hF⟩
end Jvm.Pilot.@@N@@
namespace Jvm.Pilot.@@N@@
open Jvm Jvm.ClassFile Sem Op Lib Jvm.Free Jvm.Stand Jvm.Pilot.@@N@@.Jvm.D
/-! MADE BY PROGRAM (witnessworld.py) out of the Statement's table words and the real class files: 12 classes; the members and pool entries that the words name. The judged class is class 1, her method 4. -/
namespace start1
open Jvm.ClassFile
def u (s : String) : CpInfo := .utf8 (stringToUtf16 s)
/-- a pool by its gaps: so many unusable entries, then the entry; so many at the end -/
def gap : Nat → List CpInfo → List CpInfo
  | 0, r => r
  | n + 1, r => .unusable :: gap n r
def poolList (es : List (Nat × CpInfo)) (last : Nat) : List CpInfo := es.foldr (fun e r => gap e.1 (e.2 :: r)) (gap last [])
def pool (es : List (Nat × CpInfo)) (last : Nat) : Array CpInfo := ⟨poolList es last⟩
def fileOf (pool : Array CpInfo) (this : Nat) (attrs : Array Attribute := #[]) (ms : Array MethodInfo := #[]) (fl : Nat := 33) (sup : Nat := 0) (ifs : Array Nat := #[]) (fds : Array FieldInfo := #[]) : ClassFile where
  minorVersion := 0
  majorVersion := 65
  constantPool := pool
  accessFlags := fl
  thisClass := this
  superClass := sup
  interfaces := ifs
  fields := fds
  methods := ms
  attributes := attrs
def plain (name : String) (sup : Option ClassId) : Class where
  name := name
  kind := .ordinary
  loader := none
  accessFlags := 33
  super := sup
  interfaces := #[]
  cf := none
  fields := #[]
  methods := #[]
  instanceTypes := #[]
  staticTypes := #[]
  resolved := #[]
  callSites := []
  init := .initialized
  statics := none
  mirror := none

def pool0 : Array CpInfo := pool [(5, u "<init>"), (0, u "()V"), (1, .class_ 10), (1, u "java/lang/Object")] 113

def k0m0 : Method := { name := "<init>", desc := "()V", sig := { parameters := [], returnType := none }, accessFlags := 1, code := none }
/-- java/lang/Object -/
def k0 : Class := { plain "java/lang/Object" none with
  accessFlags := 33
  interfaces := #[]
  cf := some (fileOf pool0 8 #[] #[{ accessFlags := 1, nameIndex := 5, descriptorIndex := 6, attributes := #[] }] 33 0 #[] #[])
  fields := #[]
  methods := #[k0m0]
  instanceTypes := #[]
  staticTypes := #[]
  resolved := Array.replicate 124 none
  statics := none }

def pool1 : Array CpInfo := pool [(2, .class_ 4), (1, u "java/lang/Object"), (0, u "<init>"), (0, u "()V"), (0, .fieldref 8 9), (0, .class_ 10), (0, .nameAndType 11 12), (0, u "com/example/careful_quorum/carefulquorum/storage/EntryType"), (0, u "MESSAGE"), (0, u "Lcom/example/careful_quorum/carefulquorum/storage/EntryType;"), (0, .fieldref 8 14), (0, .nameAndType 15 12), (0, u "NEW_TERM"), (0, .fieldref 8 17), (0, .nameAndType 18 12), (0, u "SESSION_OPEN"), (0, .fieldref 8 20), (0, .nameAndType 21 12), (0, u "SESSION_CLOSE"), (0, .fieldref 8 23), (0, .nameAndType 24 12), (0, u "TIMER_FIRED"), (0, .integer 2147483647), (0, .methodref 27 28), (0, .class_ 29), (0, .nameAndType 30 31), (0, u "com/example/careful_quorum/carefulquorum/storage/EntryTypeFitsPinLaw"), (0, u "base"), (0, u "(I)I"), (0, .methodref 27 33), (0, .nameAndType 34 35), (0, u "pick"), (0, u "(I)Lcom/example/careful_quorum/carefulquorum/storage/EntryType;"), (0, .methodref 8 37), (0, .nameAndType 38 39), (0, u "fits"), (0, u "(I)Z"), (0, .methodref 27 41), (0, .nameAndType 42 43), (0, u "expected"), (0, u "(II)Z"), (3, u "law"), (0, u "(III)Z")] 2

def k1m0 : Method := { name := "<init>", desc := "()V", sig := { parameters := [], returnType := none }, accessFlags := 2, code := none }
def k1c1 : Code := { maxStack := 2, maxLocals := 1, code := method_2_code, exceptionTable := #[], attributes := #[] }
def k1m1 : Method := { name := "pick", desc := "(I)Lcom/example/careful_quorum/carefulquorum/storage/EntryType;", sig := { parameters := [.int], returnType := some (.object "com/example/careful_quorum/carefulquorum/storage/EntryType") }, accessFlags := 10, code := some k1c1 }
def k1c2 : Code := { maxStack := 2, maxLocals := 1, code := method_3_code, exceptionTable := #[], attributes := #[] }
def k1m2 : Method := { name := "base", desc := "(I)I", sig := { parameters := [.int], returnType := some .int }, accessFlags := 10, code := some k1c2 }
def k1c3 : Code := { maxStack := 2, maxLocals := 2, code := method_4_code, exceptionTable := #[], attributes := #[] }
def k1m3 : Method := { name := "expected", desc := "(II)Z", sig := { parameters := [.int, .int], returnType := some .boolean }, accessFlags := 10, code := some k1c3 }
def k1c4 : Code := { maxStack := 3, maxLocals := 6, code := code, exceptionTable := #[], attributes := #[] }
def k1m4 : Method := { name := "law", desc := "(III)Z", sig := { parameters := [.int, .int, .int], returnType := some .boolean }, accessFlags := 9, code := some k1c4 }
/-- com/example/careful_quorum/carefulquorum/storage/EntryTypeFitsPinLaw -/
def k1 : Class := { plain "com/example/careful_quorum/carefulquorum/storage/EntryTypeFitsPinLaw" (some 0) with
  accessFlags := 49
  interfaces := #[]
  cf := some (fileOf pool1 27 #[] #[{ accessFlags := 2, nameIndex := 5, descriptorIndex := 6, attributes := #[] }, { accessFlags := 10, nameIndex := 34, descriptorIndex := 35, attributes := #[] }, { accessFlags := 10, nameIndex := 30, descriptorIndex := 31, attributes := #[] }, { accessFlags := 10, nameIndex := 42, descriptorIndex := 43, attributes := #[] }, { accessFlags := 9, nameIndex := 47, descriptorIndex := 48, attributes := #[] }] 49 2 #[] #[])
  fields := #[]
  methods := #[k1m0, k1m1, k1m2, k1m3, k1m4]
  instanceTypes := #[]
  staticTypes := #[]
  resolved := Array.replicate 51 none
  statics := none }

def pool2 : Array CpInfo := pool [(1, .class_ 2), (0, u "java/lang/constant/Constable"), (0, .class_ 4), (0, u "java/lang/Object")] 6

/-- java/lang/constant/Constable -/
def k2 : Class := { plain "java/lang/constant/Constable" (some 0) with
  accessFlags := 1537
  interfaces := #[]
  cf := some (fileOf pool2 1 #[] #[] 1537 3 #[] #[])
  fields := #[]
  methods := #[]
  instanceTypes := #[]
  staticTypes := #[]
  resolved := Array.replicate 11 none
  statics := none }

def pool3 : Array CpInfo := pool [(1, .class_ 2), (0, u "java/lang/Comparable"), (0, .class_ 4), (0, u "java/lang/Object")] 7

/-- java/lang/Comparable -/
def k3 : Class := { plain "java/lang/Comparable" (some 0) with
  accessFlags := 1537
  interfaces := #[]
  cf := some (fileOf pool3 1 #[] #[] 1537 3 #[] #[])
  fields := #[]
  methods := #[]
  instanceTypes := #[]
  staticTypes := #[]
  resolved := Array.replicate 12 none
  statics := none }

def pool4 : Array CpInfo := pool [(1, .class_ 2), (0, u "java/io/Serializable"), (0, .class_ 4), (0, u "java/lang/Object")] 2

/-- java/io/Serializable -/
def k4 : Class := { plain "java/io/Serializable" (some 0) with
  accessFlags := 1537
  interfaces := #[]
  cf := some (fileOf pool4 1 #[] #[] 1537 3 #[] #[])
  fields := #[]
  methods := #[]
  instanceTypes := #[]
  staticTypes := #[]
  resolved := Array.replicate 7 none
  statics := none }

def pool5 : Array CpInfo := pool [(2, .class_ 4), (1, u "java/lang/Enum"), (0, u "name"), (0, u "Ljava/lang/String;"), (2, u "ordinal"), (0, u "I"), (1, .class_ 14), (1, u "java/lang/Object"), (4, u "hash"), (86, .class_ 108), (1, u "java/lang/Enum$EnumDesc"), (2, .class_ 112), (0, u "java/lang/constant/Constable"), (0, .class_ 114), (0, u "java/lang/Comparable"), (0, .class_ 116), (0, u "java/io/Serializable")] 87

/-- java/lang/Enum -/
def k5 : Class := { plain "java/lang/Enum" (some 0) with
  accessFlags := 1057
  interfaces := #[2, 3, 4]
  cf := some (fileOf pool5 2 #[.nestMembers #[106]] #[] 1057 12 #[111, 113, 115] #[{ accessFlags := 18, nameIndex := 5, descriptorIndex := 6, attributes := #[] }, { accessFlags := 18, nameIndex := 9, descriptorIndex := 10, attributes := #[] }, { accessFlags := 2, nameIndex := 19, descriptorIndex := 10, attributes := #[] }])
  fields := #[{ name := "name", type := (.object "java/lang/String"), accessFlags := 18, slot := 0, constantValue := 0 }, { name := "ordinal", type := .int, accessFlags := 18, slot := 1, constantValue := 0 }, { name := "hash", type := .int, accessFlags := 2, slot := 2, constantValue := 0 }]
  methods := #[]
  instanceTypes := #[(.object "java/lang/String"), .int, .int]
  staticTypes := #[]
  resolved := Array.replicate 204 none
  statics := none }

def pool6 : Array CpInfo := pool [(1, .class_ 2), (0, u "com/example/careful_quorum/carefulquorum/storage/EntryType"), (2, u "MESSAGE"), (0, u "Lcom/example/careful_quorum/carefulquorum/storage/EntryType;"), (2, u "NEW_TERM"), (2, u "SESSION_OPEN"), (2, u "SESSION_CLOSE"), (2, u "TIMER_FIRED"), (2, u "$VALUES"), (0, u "[Lcom/example/careful_quorum/carefulquorum/storage/EntryType;"), (6, .class_ 31), (1, u "java/lang/Enum"), (8, u "code"), (0, u "B"), (0, .fieldref 1 43), (0, .nameAndType 44 45), (0, u "fieldBytes"), (0, u "I"), (0, .fieldref 1 47), (0, .nameAndType 48 49), (0, u "withPayload"), (0, u "Z"), (24, u "fits"), (0, u "(I)Z")] 8

def k6c0 : Code := { maxStack := 2, maxLocals := 2, code := prog_91_method_5_code, exceptionTable := #[], attributes := #[] }
def k6m0 : Method := { name := "fits", desc := "(I)Z", sig := { parameters := [.int], returnType := some .boolean }, accessFlags := 0, code := some k6c0 }
/-- com/example/careful_quorum/carefulquorum/storage/EntryType -/
def k6 : Class := { plain "com/example/careful_quorum/carefulquorum/storage/EntryType" (some 5) with
  accessFlags := 16433
  interfaces := #[]
  cf := some (fileOf pool6 1 #[] #[{ accessFlags := 0, nameIndex := 74, descriptorIndex := 75, attributes := #[] }] 16433 29 #[] #[{ accessFlags := 16409, nameIndex := 5, descriptorIndex := 6, attributes := #[] }, { accessFlags := 16409, nameIndex := 9, descriptorIndex := 6, attributes := #[] }, { accessFlags := 16409, nameIndex := 12, descriptorIndex := 6, attributes := #[] }, { accessFlags := 16409, nameIndex := 15, descriptorIndex := 6, attributes := #[] }, { accessFlags := 16409, nameIndex := 18, descriptorIndex := 6, attributes := #[] }, { accessFlags := 18, nameIndex := 40, descriptorIndex := 41, attributes := #[] }, { accessFlags := 18, nameIndex := 44, descriptorIndex := 45, attributes := #[] }, { accessFlags := 18, nameIndex := 48, descriptorIndex := 49, attributes := #[] }, { accessFlags := 4122, nameIndex := 21, descriptorIndex := 22, attributes := #[] }])
  fields := #[{ name := "MESSAGE", type := (.object "com/example/careful_quorum/carefulquorum/storage/EntryType"), accessFlags := 16409, slot := 0, constantValue := 0 }, { name := "NEW_TERM", type := (.object "com/example/careful_quorum/carefulquorum/storage/EntryType"), accessFlags := 16409, slot := 1, constantValue := 0 }, { name := "SESSION_OPEN", type := (.object "com/example/careful_quorum/carefulquorum/storage/EntryType"), accessFlags := 16409, slot := 2, constantValue := 0 }, { name := "SESSION_CLOSE", type := (.object "com/example/careful_quorum/carefulquorum/storage/EntryType"), accessFlags := 16409, slot := 3, constantValue := 0 }, { name := "TIMER_FIRED", type := (.object "com/example/careful_quorum/carefulquorum/storage/EntryType"), accessFlags := 16409, slot := 4, constantValue := 0 }, { name := "code", type := .byte, accessFlags := 18, slot := 3, constantValue := 0 }, { name := "fieldBytes", type := .int, accessFlags := 18, slot := 4, constantValue := 0 }, { name := "withPayload", type := .boolean, accessFlags := 18, slot := 5, constantValue := 0 }, { name := "$VALUES", type := (.array (.object "com/example/careful_quorum/carefulquorum/storage/EntryType")), accessFlags := 4122, slot := 5, constantValue := 0 }]
  methods := #[k6m0]
  instanceTypes := #[(.object "java/lang/String"), .int, .int, .byte, .int, .boolean]
  staticTypes := #[(.object "com/example/careful_quorum/carefulquorum/storage/EntryType"), (.object "com/example/careful_quorum/carefulquorum/storage/EntryType"), (.object "com/example/careful_quorum/carefulquorum/storage/EntryType"), (.object "com/example/careful_quorum/carefulquorum/storage/EntryType"), (.object "com/example/careful_quorum/carefulquorum/storage/EntryType"), (.array (.object "com/example/careful_quorum/carefulquorum/storage/EntryType"))]
  resolved := Array.replicate 84 none
  statics := some 0 }

def pool7 : Array CpInfo := pool [(1, u "java/lang/Cloneable"), (0, .class_ 1), (0, u "java/lang/Object"), (0, .class_ 3)] 3

/-- java/lang/Cloneable -/
def k7 : Class := { plain "java/lang/Cloneable" (some 0) with
  accessFlags := 1537
  interfaces := #[]
  cf := some (fileOf pool7 2 #[] #[] 1537 4 #[] #[])
  fields := #[]
  methods := #[]
  instanceTypes := #[]
  staticTypes := #[]
  resolved := Array.replicate 8 none
  statics := none }

/-- the primitive byte -/
def k8 : Class := { plain "byte" none with kind := .primitive 'B', accessFlags := 0x411 }
/-- [B -/
def k9 : Class := { plain "[B" (some 0) with kind := .array 8 .byte, interfaces := #[7, 4], accessFlags := 1041 }

/-- the primitive int -/
def k10 : Class := { plain "int" none with kind := .primitive 'I', accessFlags := 0x411 }
/-- [I -/
def k11 : Class := { plain "[I" (some 0) with kind := .array 10 .int, interfaces := #[7, 4], accessFlags := 1041 }

def heap : Heap := #[{ cls := 6, slots := #[.ref 1, .ref 2, .ref 3, .ref 4, .ref 5, .null], vm := .statics 6 },
  { cls := 6, slots := #[.null, .int 0, .int 0, .int 0, .int 24, .int 1], vm := .none },
  { cls := 6, slots := #[.null, .int 1, .int 0, .int 0, .int 8, .int 0], vm := .none },
  { cls := 6, slots := #[.null, .int 2, .int 0, .int 0, .int 0, .int 0], vm := .none },
  { cls := 6, slots := #[.null, .int 3, .int 0, .int 0, .int 9, .int 0], vm := .none },
  { cls := 6, slots := #[.null, .int 4, .int 0, .int 0, .int 24, .int 0], vm := .none }]
def classes : Array Class := #[k0, k1, k2, k3, k4, k5, k6, k7, k8, k9, k10, k11]
def interned : List (Array UInt16 × Addr) := []
def slotsUsed : Nat := 36
def theMethod : MethodId := ⟨1, 4⟩
def args0 : Array Value := #[.int 5, .int 7, .int 3]
def aboutOver (below : List Frame) : State where
  vm := { classes := classes, interned := interned.toArray }
  heap := heap
  slotsUsed := slotsUsed
  threads := #[{ frames := .invoking theMethod args0 :: below }]
def below0 : List Frame := [.native { method := ⟨0, 0⟩, args := #[] }]
def about1 : State := aboutOver below0
def p0 : Program := .bare "" "" ""
def e0 : Env := launch0.env 0 0 0
theorem w_frames : about1.frames = Frame.invoking theMethod args0 :: below0 := rfl
set_option maxRecDepth 65536 in
theorem w_args : argsFit about1.vm theMethod args0 = true := by decide +kernel
set_option maxRecDepth 65536 in
theorem w_heap : heapFits about1 = true := by decide +kernel
set_option maxRecDepth 65536 in
theorem w_runnable : about1.curStatus? = some .runnable := by decide +kernel
set_option maxRecDepth 65536 in
theorem w_alone : about1.alone = true := by decide +kernel
set_option maxRecDepth 65536 in
theorem w_named : about1.methodNamed? x = some theMethod := by decide +kernel
set_option maxRecDepth 65536 in
theorem w_hears : about1.hears theMethod below0 = true := by decide +kernel
set_option maxRecDepth 65536 in
theorem w_ripe : about1.ripe theMethod args0 below0 = true := by decide +kernel
theorem w_running : about1.status = .running := rfl
set_option maxRecDepth 65536 in
theorem w_room : about1.hasRoom e0.platform room_1 = true :=
  launch0.hasRoom_least _ room_1 (by decide +kernel) (by decide +kernel) (by decide +kernel) (by decide +kernel) (by decide +kernel) (by decide +kernel)
theorem allAtoms_all (ts : List Jvm.Cond) (a : Array Jvm.Value) (st : Jvm.State) : (allAtoms ts).before a st = ts.all (fun c => c.before a st) := by
  induction ts with
  | nil => rfl
  | cons c t ih =>
    show (Jvm.Cond.and c (allAtoms t)).before a st = _
    rw [Jvm.Cond.before_and, ih, List.all_cons]
def words1 : List Jvm.Cond := Jvm.Cond.code x code maxLocals ret :: tables_1
/-- a 'code' word, met by the world's own term for the bytes: nothing is compared byte by byte -/
theorem code_word {y : MethodName} {bytes : ByteArray} {mx : Nat} {rt : Option FieldType} {a : Array Value} {s : State} {m : MethodId} {meth : Method} {c : Code} (h1 : s.methodNamed? y = some m) (h2 : s.vm.method? m = some meth) (h3 : meth.code = some c) (h4 : c.code = bytes)
    (h5 : (c.maxLocals == mx && c.exceptionTable.isEmpty && decide (c.maxStack ≤ mostOperands) && decide (meth.sig.returnType = rt) && !meth.locks && decide (parseMethodDescriptor y.desc = some meth.sig)) = true) : (Jvm.Cond.code y bytes mx rt).before a s = true := by
  simp only [Bool.and_eq_true, beq_iff_eq, Bool.not_eq_true', decide_eq_true_eq] at h5
  obtain ⟨⟨⟨⟨⟨g1, g2⟩, g3⟩, g4⟩, g5⟩, g6⟩ := h5
  simp [Cond.before, Cond.holds, Cond.value, h1, h2, h3, h4, g1, g2, g3, g4, g5, g6]
def isCode : Jvm.Cond → Bool
  | .code _ _ _ _ => true
  | _ => false
theorem all_split {L : List Jvm.Cond} {P : Jvm.Cond → Bool} (h1 : L.all (fun c => isCode c || P c) = true) (h2 : ∀ c ∈ L.filter isCode, P c = true) : L.all P = true := by
  refine List.all_eq_true.mpr fun c hc => ?_
  have h := List.all_eq_true.mp h1 c hc
  rcases Bool.eq_false_or_eq_true (isCode c) with hi | hi
  · exact h2 c (List.mem_filter.mpr ⟨hc, hi⟩)
  · simpa [hi] using h
set_option maxRecDepth 65536 in
theorem w_c0 : (Jvm.Cond.code x code maxLocals ret).before args0 about1 = true := code_word (m := ⟨1, 4⟩) (meth := k1m4) (c := k1c4) (by decide +kernel) rfl rfl rfl (by decide +kernel)
set_option maxRecDepth 65536 in
theorem w_c1 : (Jvm.Cond.code ({ cls := "com/example/careful_quorum/carefulquorum/storage/EntryTypeFitsPinLaw", name := "pick", desc := "(I)Lcom/example/careful_quorum/carefulquorum/storage/EntryType;" } : Jvm.MethodName) method_2_code (1 : Nat) (Option.some (Jvm.ClassFile.FieldType.object "com/example/careful_quorum/carefulquorum/storage/EntryType"))).before args0 about1 = true := code_word (m := ⟨1, 1⟩) (meth := k1m1) (c := k1c1) (by decide +kernel) rfl rfl rfl (by decide +kernel)
set_option maxRecDepth 65536 in
theorem w_c2 : (Jvm.Cond.code ({ cls := "com/example/careful_quorum/carefulquorum/storage/EntryType", name := "fits", desc := "(I)Z" } : Jvm.MethodName) prog_91_method_5_code (2 : Nat) (Option.some Jvm.ClassFile.FieldType.boolean)).before args0 about1 = true := code_word (m := ⟨6, 0⟩) (meth := k6m0) (c := k6c0) (by decide +kernel) rfl rfl rfl (by decide +kernel)
set_option maxRecDepth 65536 in
theorem w_c3 : (Jvm.Cond.code ({ cls := "com/example/careful_quorum/carefulquorum/storage/EntryTypeFitsPinLaw", name := "expected", desc := "(II)Z" } : Jvm.MethodName) method_4_code (2 : Nat) (Option.some Jvm.ClassFile.FieldType.boolean)).before args0 about1 = true := code_word (m := ⟨1, 3⟩) (meth := k1m3) (c := k1c3) (by decide +kernel) rfl rfl rfl (by decide +kernel)
set_option maxRecDepth 65536 in
theorem w_c4 : (Jvm.Cond.code ({ cls := "com/example/careful_quorum/carefulquorum/storage/EntryTypeFitsPinLaw", name := "base", desc := "(I)I" } : Jvm.MethodName) method_3_code (1 : Nat) (Option.some Jvm.ClassFile.FieldType.int)).before args0 about1 = true := code_word (m := ⟨1, 2⟩) (meth := k1m2) (c := k1c2) (by decide +kernel) rfl rfl rfl (by decide +kernel)
def codes1 : List Jvm.Cond := [Jvm.Cond.code x code maxLocals ret, Jvm.Cond.code ({ cls := "com/example/careful_quorum/carefulquorum/storage/EntryTypeFitsPinLaw", name := "pick", desc := "(I)Lcom/example/careful_quorum/carefulquorum/storage/EntryType;" } : Jvm.MethodName) method_2_code (1 : Nat) (Option.some (Jvm.ClassFile.FieldType.object "com/example/careful_quorum/carefulquorum/storage/EntryType")), Jvm.Cond.code ({ cls := "com/example/careful_quorum/carefulquorum/storage/EntryType", name := "fits", desc := "(I)Z" } : Jvm.MethodName) prog_91_method_5_code (2 : Nat) (Option.some Jvm.ClassFile.FieldType.boolean), Jvm.Cond.code ({ cls := "com/example/careful_quorum/carefulquorum/storage/EntryTypeFitsPinLaw", name := "expected", desc := "(II)Z" } : Jvm.MethodName) method_4_code (2 : Nat) (Option.some Jvm.ClassFile.FieldType.boolean), Jvm.Cond.code ({ cls := "com/example/careful_quorum/carefulquorum/storage/EntryTypeFitsPinLaw", name := "base", desc := "(I)I" } : Jvm.MethodName) method_3_code (1 : Nat) (Option.some Jvm.ClassFile.FieldType.int)]
set_option maxRecDepth 65536 in
theorem codes_eq : words1.filter isCode = codes1 := rfl
theorem w_codes : ∀ c ∈ words1.filter isCode, c.before args0 about1 = true := by
  rw [codes_eq]
  intro c hc
  simp only [codes1, List.mem_cons, List.not_mem_nil, or_false] at hc
  rcases hc with rfl | rfl | rfl | rfl | rfl
  · exact w_c0
  · exact w_c1
  · exact w_c2
  · exact w_c3
  · exact w_c4
set_option maxRecDepth 65536 in
theorem w_t1 : (words1.take 24).all (fun c => isCode c || c.before args0 about1) = true := by decide +kernel
set_option maxRecDepth 65536 in
theorem w_t2 : (words1.drop 24).all (fun c => isCode c || c.before args0 about1) = true := by decide +kernel
theorem w_tables : (allAtoms (Jvm.Cond.code x code maxLocals ret :: tables_1)).before args0 about1 = true := by
  rw [allAtoms_all]
  show words1.all (fun c => c.before args0 about1) = true
  refine all_split ?_ w_codes
  rw [← List.take_append_drop 24 words1, List.all_append, w_t1, w_t2]
  rfl
set_option maxRecDepth 65536 in
theorem w_case : (Jvm.Cond.and given_1 narrow_1).before args0 about1 = true := by decide +kernel
theorem w_applies : (headSpec (Jvm.Cond.code x code maxLocals ret :: tables_1) room_1).applies x e0.platform about1 = true :=
  (Spec.applies_iff w_frames).mpr ⟨w_running, w_runnable, w_alone, w_named, w_hears, w_ripe, w_room, w_tables⟩
theorem atStart : AtStart classFile x code maxLocals ret World_1 tables_1 room_1 Calls_1 rest_1 Pre_1 launch0 p0 e0 about1 theMethod args0 below0 :=
  ⟨lists_1, trivial, launch0.admits_env _ _ _, launch0.least_env, fairChoices_fair.cas, fairChoices_fair.clock, w_frames, w_args, w_heap, w_applies, trivial, trivial, w_case⟩
end start1
theorem witness_1 : WitnessClaimed_1 := ⟨start1.p0, start1.e0, start1.about1, start1.theMethod, start1.args0, start1.below0, start1.atStart⟩
end Jvm.Pilot.@@N@@
