import JvmDerived
import JvmDerived.Pilot.@@N@@Statement
import JvmDerived.Pilot.@@N@@Code
set_option linter.unusedVariables false
set_option linter.unusedSimpArgs false
@@BLOCK:NumsL.lean.txt@@
namespace Jvm.Pilot.@@N@@
open Jvm Jvm.ClassFile Sem Op Lib Jvm.Free Jvm.Stand Jvm.LawKit Jvm.RoadKit Bundle Jvm.Pilot.@@N@@.Jvm.D
theorem own_eqL {x y : Int64} (h : x = y) : lcmpW x y = 0 := by rw [lcW]; exact (lc_eq x y).2 h
theorem own_neL {x y : Int64} (h : ¬ x = y) : ¬ lcmpW x y = 0 := by rw [lcW]; exact fun q => h ((lc_eq x y).1 q)
theorem own_ltL {x y : Int64} (h : x < y) : lcmpW x y < 0 := by rw [lcW]; exact (lc_lt x y).2 h
theorem own_nltL {x y : Int64} (h : ¬ x < y) : ¬ lcmpW x y < 0 := by rw [lcW]; exact fun q => h ((lc_lt x y).1 q)
theorem own_gtL {x y : Int64} (h : y < x) : 0 < lcmpW x y := by rw [lcW]; exact (lc_gt x y).2 h
theorem own_ns_exa {Z : State} {h : Heap} {a : Addr} {C : String} (E : Exa Z h a C) : ∀ cell : Cell, h[a]? = some cell → cell.vm.isStatics = false := by
  obtain ⟨c, k, h1, -, -, h4, -⟩ := E
  intro cell hc; cases h1.symm.trans hc; exact h4
theorem own_ns1 {h : Heap} {a : Addr} (p : ∀ cell : Cell, h[a]? = some cell → cell.vm.isStatics = false) : ∀ x ∈ [a], ∀ cell : Cell, h[x]? = some cell → cell.vm.isStatics = false := by
  intro x hx; cases List.mem_singleton.mp hx; exact p
theorem own_ns2 {h : Heap} {a b : Addr} (p : ∀ cell : Cell, h[a]? = some cell → cell.vm.isStatics = false) (q : ∀ cell : Cell, h[b]? = some cell → cell.vm.isStatics = false) : ∀ x ∈ [a, b], ∀ cell : Cell, h[x]? = some cell → cell.vm.isStatics = false := by
  intro x hx; simp only [List.mem_cons, List.not_mem_nil, or_false] at hx; rcases hx with rfl | rfl <;> first | exact p | exact q
theorem own_sta_keep {Z : State} {h h' : Heap} {ws : List Addr} {C n d : String} {v : Value} (F : Sta Z h C n d v) (K : Keep h h' ws) (hn : ∀ x ∈ ws, ∀ cell : Cell, h[x]? = some cell → cell.vm.isStatics = false) : Sta Z h' C n d v := by
  obtain ⟨cf, i, k, f, st, cell, h1, h2, h3, h4, h5, h6, r⟩ := F
  exact ⟨cf, i, k, f, st, cell, h1, h2, h3, h4, K.2.1 _ _ h5 (fun q => by rw [hn _ q _ h5] at h6; cases h6), h6, r⟩
theorem own_sta_keep0 {Z : State} {h h' : Heap} {C n d : String} {v : Value} (F : Sta Z h C n d v) (K : Keep h h' []) : Sta Z h' C n d v := by
  obtain ⟨cf, i, k, f, st, cell, h1, h2, h3, h4, h5, r⟩ := F
  exact ⟨cf, i, k, f, st, cell, h1, h2, h3, h4, K.2.1 _ _ h5 List.not_mem_nil, r⟩
theorem own_ngtL {x y : Int64} (h : ¬ y < x) : ¬ 0 < lcmpW x y := by rw [lcW]; exact fun q => h ((lc_gt x y).1 q)
abbrev own_CK : String := "com/example/keyed_collections/keyedcollections/protocol/CollectionKey"
abbrev own_LC : String := "com/example/keyed_collections/keyedcollections/protocol/CollectionKeyWritePinLaw"
abbrev vI (x : Int32) : Slot := .val (.int x)
abbrev own_E (m : MethodId) (p0 p1 p2 p3 p4 : Int32) : JFrame := entryFrame m #[(.int p0), (.int p1), (.int p2), (.int p3), (.int p4)] maxLocals
abbrev vJ (x : Int64) : Slot := .val (.long x)
abbrev vR (x : Addr) : Slot := .val (.ref x)
abbrev own_P (p : Program) (e : Env) (below : List Frame) (T : State) (F : JFrame) (T0 : State) (F0 : JFrame) : Prop := ∀ t, Steps p.tables e below (T.setTop F) t → Steps p.tables e below (T0.setTop F0) t
theorem own_w {Z : State} {ar0 : Array Value} (hw : ∀ d ∈ tables_1, d.before ar0 Z = true) (i : Nat) {d : Jvm.Cond} (h : tables_1[i]? = some d) : d.before ar0 Z = true := hw _ (List.mem_of_getElem? h)
def own_u0 (c : Int32) : Int64 := ((c.toInt64) &&& (4294967295 : Int64))
def own_u1 (c : Int32) : Int64 := (((own_u0 c).toUInt64 >>> ((7 : Int32) &&& 0x3f).toInt64.toUInt64).toInt64)
def own_g0 (c : Int32) : Int32 := (((own_u0 c) &&& (127 : Int64)).toInt32)
def own_m0 (c : Int32) : Int32 := ((((own_g0 c) ||| (128 : Int32)).toInt8.toInt32).toInt8.toInt32)
def own_l0 (c : Int32) : Int32 := (((own_g0 c).toInt8.toInt32).toInt8.toInt32)
def own_u2 (c : Int32) : Int64 := (((own_u1 c).toUInt64 >>> ((7 : Int32) &&& 0x3f).toInt64.toUInt64).toInt64)
def own_g1 (c : Int32) : Int32 := (((own_u1 c) &&& (127 : Int64)).toInt32)
def own_m1 (c : Int32) : Int32 := ((((own_g1 c) ||| (128 : Int32)).toInt8.toInt32).toInt8.toInt32)
def own_l1 (c : Int32) : Int32 := (((own_g1 c).toInt8.toInt32).toInt8.toInt32)
def own_u3 (c : Int32) : Int64 := (((own_u2 c).toUInt64 >>> ((7 : Int32) &&& 0x3f).toInt64.toUInt64).toInt64)
def own_g2 (c : Int32) : Int32 := (((own_u2 c) &&& (127 : Int64)).toInt32)
def own_m2 (c : Int32) : Int32 := ((((own_g2 c) ||| (128 : Int32)).toInt8.toInt32).toInt8.toInt32)
def own_l2 (c : Int32) : Int32 := (((own_g2 c).toInt8.toInt32).toInt8.toInt32)
def own_u4 (c : Int32) : Int64 := (((own_u3 c).toUInt64 >>> ((7 : Int32) &&& 0x3f).toInt64.toUInt64).toInt64)
def own_g3 (c : Int32) : Int32 := (((own_u3 c) &&& (127 : Int64)).toInt32)
def own_m3 (c : Int32) : Int32 := ((((own_g3 c) ||| (128 : Int32)).toInt8.toInt32).toInt8.toInt32)
def own_l3 (c : Int32) : Int32 := (((own_g3 c).toInt8.toInt32).toInt8.toInt32)
def own_u5 (c : Int32) : Int64 := (((own_u4 c).toUInt64 >>> ((7 : Int32) &&& 0x3f).toInt64.toUInt64).toInt64)
def own_g4 (c : Int32) : Int32 := (((own_u4 c) &&& (127 : Int64)).toInt32)
def own_m4 (c : Int32) : Int32 := ((((own_g4 c) ||| (128 : Int32)).toInt8.toInt32).toInt8.toInt32)
def own_l4 (c : Int32) : Int32 := (((own_g4 c).toInt8.toInt32).toInt8.toInt32)
def own_d (c : Int32) : Int32 := ((c.toInt8.toInt32).toInt8.toInt32)
theorem pn_0 : plainName "java/lang/Record" = true := by first | (simp [plainName, overriddenIn]; done) | decide +kernel
theorem d2_0 : decode jdk_30_method_1_code 0 = .ok (.aload_n 0, 1) := by decide +kernel
theorem d2_1 : decode jdk_30_method_1_code 1 = .ok (.invokespecial 1, 3) := by decide +kernel
theorem d2_4 : decode jdk_30_method_1_code 4 = .ok (.return_, 1) := by decide +kernel
theorem ef_2 (m : MethodId) (x0 : Addr) : entryFrame m #[(.ref x0)] 1 = mkF m 0 #[vR x0] [] := by first | (simp [entryFrame, mkF, argsToLocals, Value.category]; done) | rfl
def Q2 (Z : State) (a0 : Addr) (h0 : Heap) (n0 : Nat) (v : Option Value) (h : Heap) (L : List Loc) : Prop := v = none ∧ Fr n0 L ∧ h = h0
set_option maxRecDepth 65536 in
set_option maxHeartbeats 40000000 in
theorem rm2 (l : Launch) (Z : State) (ar0 : Array Value) (hw : ∀ d ∈ tables_1, d.before ar0 Z = true) (ws : List Jvm.Cond) (a0 : Addr) (h0 : Heap) (n0 : Nat) (Z0 : n0 ≤ h0.size) :
  MetFree l (⟨"java/lang/Record", "<init>", "()V"⟩ : MethodName) (head1 (Jvm.Cond.code (⟨"java/lang/Record", "<init>", "()V"⟩ : MethodName) jdk_30_method_1_code 1 none :: ws) ({ frames := 1, cells := 0, slots := 0, locals := 12 } : Room)) (fun a U => a = #[(.ref a0)] ∧ Z.Warmed39 U.vm ∧ U.heap = h0) (fun _ _ _ _ _ => True) (fun _ U o U' => ∃ v L, o = .returned v ∧ Q2 Z a0 h0 n0 v U'.heap L ∧ FrameEnd U o U' L ({ frames := 1, cells := 0, slots := 0, locals := 12 } : Room).cells ({ frames := 1, cells := 0, slots := 0, locals := 12 } : Room).slots) := by
 refine MetFree.of_bodySF (plainFor_of_name pn_0) hisR ?_
 intro p e s m args below meth c s₁ Bd hml0 hP hK
 obtain ⟨rfl, hZ, hh⟩ := hP
 have hx := Bd.exec
 have hby := Bd.bytes
 have hml : c.maxLocals = 1 := hml0
 have hown : s.vm.findClass "java/lang/Record" = some m.cls := by have q := findClass_of_methodNamed Bd.named; exact q
 have hnm := (name_of_methodNamed Bd.named Bd.method).1
 have X0 : Stand p l e ({ frames := 1, cells := 0, slots := 0, locals := 12 } : Room) s m #[(.ref a0)] below meth c s₁ [] 0 0 := Stand.of_body Bd
 have e0 : s₁.heap = h0 := by rw [← hh, Bd.state]; rfl
 have N0 := Fr.nil n0
 have pre0 : own_P p e below s₁ (mkF m 0 #[vR a0] []) s₁ (entryFrame m #[(.ref a0)] 1) := fun t k => castTop (ef_2 m a0) k
 have pre1 : own_P p e below s₁ (mkF m 1 #[vR a0] [(.ref a0)]) s₁ (entryFrame m #[(.ref a0)] 1) := by
  intro t k
  refine pre0 t ?_
  refine XS.aloadN X0.here hx rfl (hb hby d2_0) rfl rfl ?_
  exact k
 obtain ⟨T2, X2, e2, st2⟩ := initO X0 hx hZ hown (own_w hw 12 rfl) (own_w hw 13 rfl) (own_w hw 14 rfl) e0 (g := (mkF m 1 #[vR a0] [(.ref a0)])) rfl (by rw [hml]; rfl) rfl (hb hby d2_1) (by decide) (W := 0) (by show 2 * 0 + _ ≤ _; exact Nat.le_of_eq rfl) (by decide)
 have pre3 : own_P p e below T2 (mkF m 4 #[vR a0] []) s₁ (entryFrame m #[(.ref a0)] 1) := fun t k => pre1 t (st2 t k)
 obtain ⟨fs, hr, hrun, hended, hW, hsame⟩ := X2.leave (v := none) (fun _ => rfl)
 refine ⟨_, _, pre3 _ ?_, hrun, hended, _, _, rfl, ?_, ⟨_, rfl⟩, hW, hsame.mono (by decide) (by decide)⟩
 ·
  exact X2.returnOut hx Bd.returns (hb hby d2_4) hr
 ·
  show Q2 Z a0 h0 n0 _ T2.heap _
  rw [e2]
  exact ⟨rfl, N0, rfl⟩
theorem pd_0 : parseMethodDescriptor "()V" = some ⟨[], none⟩ := by decide +kernel
theorem pn_1 : plainName own_CK = true := by first | (simp [plainName, overriddenIn]; done) | decide +kernel
theorem d1_0 : decode prog_8_method_1_code 0 = .ok (.aload_n 0, 1) := by decide +kernel
theorem d1_1 : decode prog_8_method_1_code 1 = .ok (.invokespecial 1, 3) := by decide +kernel
theorem d1_4 : decode prog_8_method_1_code 4 = .ok (.aload_n 0, 1) := by decide +kernel
theorem d1_5 : decode prog_8_method_1_code 5 = .ok (.iload_n 1, 1) := by decide +kernel
theorem d1_6 : decode prog_8_method_1_code 6 = .ok (.putfield 7, 3) := by decide +kernel
theorem d1_9 : decode prog_8_method_1_code 9 = .ok (.aload_n 0, 1) := by decide +kernel
theorem d1_10 : decode prog_8_method_1_code 10 = .ok (.aload_n 2, 1) := by decide +kernel
theorem d1_11 : decode prog_8_method_1_code 11 = .ok (.putfield 13, 3) := by decide +kernel
theorem d1_14 : decode prog_8_method_1_code 14 = .ok (.return_, 1) := by decide +kernel
theorem ef_1 (m : MethodId) (x0 : Addr) (x1 : Int32) (x2 : Addr) : entryFrame m #[(.ref x0), (.int x1), (.ref x2)] 3 = mkF m 0 #[vR x0, vI x1, vR x2] [] := by first | (simp [entryFrame, mkF, argsToLocals, Value.category]; done) | rfl
def Q1 (Z : State) (a0 : Addr) (p1 : Int32) (a2 : Addr) (w_documentKey_a0 : Value) (w_collection_a0 : Int32) (h0 : Heap) (n0 : Nat) (v : Option Value) (h : Heap) (L : List Loc) : Prop := v = none ∧ Fr n0 L ∧ Keep h0 h [a0] ∧ Exa Z h a0 own_CK ∧ Fld Z h a0 own_CK "collection" "I" (.int p1) ∧ Fld Z h a0 own_CK "documentKey" "[B" (.ref a2)
set_option maxRecDepth 65536 in
set_option maxHeartbeats 40000000 in
theorem rm1 (l : Launch) (Z : State) (ar0 : Array Value) (hw : ∀ d ∈ tables_1, d.before ar0 Z = true) (ws : List Jvm.Cond) (a0 : Addr) (p1 : Int32) (a2 : Addr) (w_documentKey_a0 : Value) (w_collection_a0 : Int32) (h0 : Heap) (n0 : Nat) (Z0 : n0 ≤ h0.size) (F_documentKey_a0 : Fld Z h0 a0 own_CK "documentKey" "[B" w_documentKey_a0) (E_a0 : Exa Z h0 a0 own_CK) (F_collection_a0 : Fld Z h0 a0 own_CK "collection" "I" (.int w_collection_a0)) (g_a0 : n0 ≤ a0) :
  MetFree l (⟨own_CK, "<init>", "(I[B)V"⟩ : MethodName) (head1 (Jvm.Cond.code (⟨own_CK, "<init>", "(I[B)V"⟩ : MethodName) prog_8_method_1_code 3 none :: ws) ({ frames := 2, cells := 0, slots := 0, locals := 24 } : Room)) (fun a U => a = #[(.ref a0), (.int p1), (.ref a2)] ∧ Z.Warmed39 U.vm ∧ U.heap = h0) (fun _ _ _ _ _ => True) (fun _ U o U' => ∃ v L, o = .returned v ∧ Q1 Z a0 p1 a2 w_documentKey_a0 w_collection_a0 h0 n0 v U'.heap L ∧ FrameEnd U o U' L ({ frames := 2, cells := 0, slots := 0, locals := 24 } : Room).cells ({ frames := 2, cells := 0, slots := 0, locals := 24 } : Room).slots) := by
 refine MetFree.of_bodySF (plainFor_of_name pn_1) hisR ?_
 intro p e s m args below meth c s₁ Bd hml0 hP hK
 obtain ⟨rfl, hZ, hh⟩ := hP
 have hx := Bd.exec
 have hby := Bd.bytes
 have hml : c.maxLocals = 3 := hml0
 have hown : s.vm.findClass own_CK = some m.cls := by have q := findClass_of_methodNamed Bd.named; exact q
 have hnm := (name_of_methodNamed Bd.named Bd.method).1
 have X0 : Stand p l e ({ frames := 2, cells := 0, slots := 0, locals := 24 } : Room) s m #[(.ref a0), (.int p1), (.ref a2)] below meth c s₁ [] 0 0 := Stand.of_body Bd
 have e0 : s₁.heap = h0 := by rw [← hh, Bd.state]; rfl
 have N0 := Fr.nil n0
 have pre0 : own_P p e below s₁ (mkF m 0 #[vR a0, vI p1, vR a2] []) s₁ (entryFrame m #[(.ref a0), (.int p1), (.ref a2)] 3) := fun t k => castTop (ef_1 m a0 p1 a2) k
 have pre4 : own_P p e below s₁ (mkF m 1 #[vR a0, vI p1, vR a2] [(.ref a0)]) s₁ (entryFrame m #[(.ref a0), (.int p1), (.ref a2)] 3) := by
  intro t k
  refine pre0 t ?_
  refine XS.aloadN X0.here hx rfl (hb hby d1_0) rfl rfl ?_
  exact k
 obtain ⟨_, _, ⟨T5, L5, k5, n5⟩, -, X5, ⟨Lc5, hQ5, l5, y5, z5⟩, st5⟩ := X0.specialBack hx (y := (⟨"java/lang/Record", "<init>", "()V"⟩ : MethodName)) rfl hown (mvT hZ (own_w hw 7 rfl)) (mvT hZ (own_w hw 8 rfl)) (mvT hZ (own_w hw 11 rfl)) (by decide) (backOf (W := 0) (rm2 l Z ar0 hw [] a0 h0 n0 Z0) hZ (own_w hw 11 rfl) (own_w hw 10 rfl) (by decide) (by decide)) (g := (mkF m 1 #[vR a0, vI p1, vR a2] [(.ref a0)])) rfl (by rw [hml]; rfl) (Steps.refl _) (a := a0) (argsL := []) (rest := []) (lenOf pd_0 rfl) rfl (by show 2 * 0 + _ ≤ _; exact Nat.le_of_eq rfl) (hb hby d1_1) (fun _ _ => ⟨rfl, e0, (by decide : 0 + 0 ≤ _), (by decide : 0 + 0 ≤ _)⟩)
 dsimp only [Pt.U, Pt.locs, Pt.cells, Pt.slots] at X5 l5 y5 z5 st5 hQ5
 subst l5 y5 z5
 obtain ⟨rfl, N5q, e5⟩ := hQ5
 have N5 := Fr.app N0 N5q
 have pre6 : own_P p e below T5 (mkF m 4 #[vR a0, vI p1, vR a2] []) s₁ (entryFrame m #[(.ref a0), (.int p1), (.ref a2)] 3) := fun t k => pre4 t (st5.trans k)
 have pre7 : own_P p e below T5 (mkF m 6 #[vR a0, vI p1, vR a2] [(.int p1), (.ref a0)]) s₁ (entryFrame m #[(.ref a0), (.int p1), (.ref a2)] 3) := by
  intro t k
  refine pre6 t ?_
  refine XS.aloadN X5.here hx rfl (hb hby d1_4) rfl rfl ?_
  refine XS.iloadN X5.here hx rfl (hb hby d1_5) rfl ?_
  exact k
 obtain ⟨T8, h8, X8, e8, W8, st8⟩ := putF X5 hx hZ hown (host := "") (Or.inl (own_w hw 15 rfl)) Via.refl e5 F_collection_a0 E_a0 (Or.inr ⟨(own_w hw 16 rfl), rfl, hnm⟩) (own_w hw 2 rfl) (ty := .int) (by decide) rfl rfl (g := (mkF m 6 #[vR a0, vI p1, vR a2] [(.int p1), (.ref a0)])) rfl rfl (hb hby d1_6)
 have Z8 : n0 ≤ h8.size := Nat.le_trans Z0 (Keep.of_wr W8).1
 have K8 : Keep h0 h8 [a0] := (Keep.refl h0 [a0]).wr W8 (Or.inl (List.mem_of_getElem? (i := 0) rfl))
 have N8 := Fr.snoc X8 N5 g_a0
 have Ff9 : Fld Z h8 a0 own_CK "documentKey" "[B" w_documentKey_a0 := (F_documentKey_a0).other W8 (Or.inr (slot_ne (Or.inr (own_w hw 18 rfl)) (Or.inr (own_w hw 16 rfl)) (by decide) (t := (.array .byte)) (t' := .int) (by decide) (by decide)))
 have Ef10 : Exa Z h8 a0 own_CK := (E_a0).wr W8
 have Fw8 : Fld Z h8 a0 own_CK "collection" "I" (.int p1) := (F_collection_a0).same W8
 have pre11 : own_P p e below T8 (mkF m 9 #[vR a0, vI p1, vR a2] []) s₁ (entryFrame m #[(.ref a0), (.int p1), (.ref a2)] 3) := fun t k => pre7 t (st8 t k)
 have pre12 : own_P p e below T8 (mkF m 11 #[vR a0, vI p1, vR a2] [(.ref a2), (.ref a0)]) s₁ (entryFrame m #[(.ref a0), (.int p1), (.ref a2)] 3) := by
  intro t k
  refine pre11 t ?_
  refine XS.aloadN X8.here hx rfl (hb hby d1_9) rfl rfl ?_
  refine XS.aloadN X8.here hx rfl (hb hby d1_10) rfl rfl ?_
  exact k
 obtain ⟨T13, h13, X13, e13, W13, st13⟩ := putF X8 hx hZ hown (host := "") (Or.inl (own_w hw 17 rfl)) Via.refl e8 Ff9 Ef10 (Or.inr ⟨(own_w hw 18 rfl), rfl, hnm⟩) (own_w hw 2 rfl) (ty := (.array .byte)) (by decide) rfl rfl (g := (mkF m 11 #[vR a0, vI p1, vR a2] [(.ref a2), (.ref a0)])) rfl rfl (hb hby d1_11)
 have Z13 : n0 ≤ h13.size := Nat.le_trans Z8 (Keep.of_wr W13).1
 have K13 : Keep h0 h13 [a0] := K8.wr W13 (Or.inl (List.mem_of_getElem? (i := 0) rfl))
 have N13 := Fr.snoc X13 N8 g_a0
 have Ef14 : Exa Z h13 a0 own_CK := (Ef10).wr W13
 have Ff15 : Fld Z h13 a0 own_CK "collection" "I" (.int p1) := (Fw8).other W13 (Or.inr (slot_ne (Or.inr (own_w hw 16 rfl)) (Or.inr (own_w hw 18 rfl)) (by decide) (t := .int) (t' := (.array .byte)) (by decide) (by decide)))
 have Fw13 : Fld Z h13 a0 own_CK "documentKey" "[B" (.ref a2) := (Ff9).same W13
 have pre16 : own_P p e below T13 (mkF m 14 #[vR a0, vI p1, vR a2] []) s₁ (entryFrame m #[(.ref a0), (.int p1), (.ref a2)] 3) := fun t k => pre12 t (st13 t k)
 obtain ⟨fs, hr, hrun, hended, hW, hsame⟩ := X13.leave (v := none) (fun _ => rfl)
 refine ⟨_, _, pre16 _ ?_, hrun, hended, _, _, rfl, ?_, ⟨_, rfl⟩, hW, hsame.mono (by decide) (by decide)⟩
 ·
  exact X13.returnOut hx Bd.returns (hb hby d1_14) hr
 ·
  show Q1 Z a0 p1 a2 w_documentKey_a0 w_collection_a0 h0 n0 _ T13.heap _
  rw [e13]
  exact ⟨rfl, N13, K13, Ef14, Ff15, Fw13⟩
theorem pn_2 : plainName "java/lang/Integer" = true := by first | (simp [plainName, overriddenIn]; done) | decide +kernel
theorem d5_0 : decode jdk_33_method_42_code 0 = .ok (.iload_n 0, 1) := by decide +kernel
theorem d5_1 : decode jdk_33_method_42_code 1 = .ok (.i2l, 1) := by decide +kernel
theorem d5_2 : decode jdk_33_method_42_code 2 = .ok (.ldc2_w 262, 3) := by decide +kernel
theorem d5_5 : decode jdk_33_method_42_code 5 = .ok (.land, 1) := by decide +kernel
theorem d5_6 : decode jdk_33_method_42_code 6 = .ok (.lreturn, 1) := by decide +kernel
theorem ef_5 (m : MethodId) (x0 : Int32) : entryFrame m #[(.int x0)] 1 = mkF m 0 #[vI x0] [] := by first | (simp [entryFrame, mkF, argsToLocals, Value.category]; done) | rfl
def Q5 (Z : State) (p0 : Int32) (h0 : Heap) (n0 : Nat) (v : Option Value) (h : Heap) (L : List Loc) : Prop := v = some (.long (own_u0 p0)) ∧ Fr n0 L ∧ h = h0
set_option maxRecDepth 65536 in
set_option maxHeartbeats 40000000 in
theorem rm5 (l : Launch) (Z : State) (ar0 : Array Value) (hw : ∀ d ∈ tables_1, d.before ar0 Z = true) (ws : List Jvm.Cond) (p0 : Int32) (h0 : Heap) (n0 : Nat) (Z0 : n0 ≤ h0.size) :
  MetFree l (⟨"java/lang/Integer", "toUnsignedLong", "(I)J"⟩ : MethodName) (head1 (Jvm.Cond.code (⟨"java/lang/Integer", "toUnsignedLong", "(I)J"⟩ : MethodName) jdk_33_method_42_code 1 (some .long) :: ws) ({ frames := 0, cells := 0, slots := 0, locals := 0 } : Room)) (fun a U => a = #[(.int p0)] ∧ Z.Warmed39 U.vm ∧ U.heap = h0) (fun _ _ _ _ _ => True) (fun _ U o U' => ∃ v L, o = .returned v ∧ Q5 Z p0 h0 n0 v U'.heap L ∧ FrameEnd U o U' L ({ frames := 0, cells := 0, slots := 0, locals := 0 } : Room).cells ({ frames := 0, cells := 0, slots := 0, locals := 0 } : Room).slots) := by
 refine MetFree.of_bodySF (plainFor_of_name pn_2) hisR ?_
 intro p e s m args below meth c s₁ Bd hml0 hP hK
 obtain ⟨rfl, hZ, hh⟩ := hP
 have hx := Bd.exec
 have hby := Bd.bytes
 have hml : c.maxLocals = 1 := hml0
 have hown : s.vm.findClass "java/lang/Integer" = some m.cls := by have q := findClass_of_methodNamed Bd.named; exact q
 have hnm := (name_of_methodNamed Bd.named Bd.method).1
 have X0 : Stand p l e ({ frames := 0, cells := 0, slots := 0, locals := 0 } : Room) s m #[(.int p0)] below meth c s₁ [] 0 0 := Stand.of_body Bd
 have e0 : s₁.heap = h0 := by rw [← hh, Bd.state]; rfl
 have N0 := Fr.nil n0
 have pre0 : own_P p e below s₁ (mkF m 0 #[vI p0] []) s₁ (entryFrame m #[(.int p0)] 1) := fun t k => castTop (ef_5 m p0) k
 obtain ⟨fs, hr, hrun, hended, hW, hsame⟩ := X0.leave (v := some (.long (own_u0 p0))) (fun h => by rw [Bd.returns] at h; cases h)
 refine ⟨_, _, pre0 _ ?_, hrun, hended, _, _, rfl, ?_, ⟨_, rfl⟩, hW, hsame.mono (by decide) (by decide)⟩
 ·
  refine XS.iloadN X0.here hx rfl (hb hby d5_0) rfl ?_
  refine XS.i2l X0.here hx rfl (hb hby d5_1) rfl ?_
  refine X0.ldc2Long hx hown (mvT hZ (own_w hw 28 rfl)) (g := (mkF m 2 #[vI p0] [(.long (p0.toInt64))])) rfl (hb hby d5_2) _ ?_
  refine XS.land X0.here hx rfl (hb hby d5_5) rfl ?_
  exact retOut X0 hx Bd.returns rfl (Or.inr (Or.inl ⟨rfl, rfl, _, rfl⟩)) (hb hby d5_6) hr
 ·
  show Q5 Z p0 h0 n0 _ s₁.heap _
  rw [e0]
  exact ⟨rfl, N0, rfl⟩
theorem d7_0 : decode jdk_29_method_69_code 0 = .ok (.iload_n 0, 1) := by decide +kernel
theorem d7_1 : decode jdk_29_method_69_code 1 = .ok (.iload_n 1, 1) := by decide +kernel
theorem d7_2 : decode jdk_29_method_69_code 2 = .ok (.if_icmp .gt 7, 3) := by decide +kernel
theorem d7_5 : decode jdk_29_method_69_code 5 = .ok (.iload_n 0, 1) := by decide +kernel
theorem d7_6 : decode jdk_29_method_69_code 6 = .ok (.goto 4, 3) := by decide +kernel
theorem d7_9 : decode jdk_29_method_69_code 9 = .ok (.iload_n 1, 1) := by decide +kernel
theorem d7_10 : decode jdk_29_method_69_code 10 = .ok (.ireturn, 1) := by decide +kernel
theorem ef_7 (m : MethodId) (x0 : Int32) (x1 : Int32) : entryFrame m #[(.int x0), (.int x1)] 2 = mkF m 0 #[vI x0, vI x1] [] := by first | (simp [entryFrame, mkF, argsToLocals, Value.category]; done) | rfl
def f7 (p0 : Int32) (p1 : Int32) : Int32 := (if p1 < p0 then p1 else p0)
def Q7 (Z : State) (p0 : Int32) (p1 : Int32) (h0 : Heap) (n0 : Nat) (v : Option Value) (h : Heap) (L : List Loc) : Prop := v = some (.int (f7 p0 p1)) ∧ Fr n0 L ∧ h = h0
set_option maxRecDepth 65536 in
set_option maxHeartbeats 40000000 in
theorem rm7 (l : Launch) (Z : State) (ar0 : Array Value) (hw : ∀ d ∈ tables_1, d.before ar0 Z = true) (ws : List Jvm.Cond) (p0 : Int32) (p1 : Int32) (h0 : Heap) (n0 : Nat) (Z0 : n0 ≤ h0.size) :
  MetFree l (⟨"java/lang/Math", "min", "(II)I"⟩ : MethodName) (head1 (Jvm.Cond.code (⟨"java/lang/Math", "min", "(II)I"⟩ : MethodName) jdk_29_method_69_code 2 (some .int) :: ws) ({ frames := 0, cells := 0, slots := 0, locals := 0 } : Room)) (fun a U => a = #[(.int p0), (.int p1)] ∧ Z.Warmed39 U.vm ∧ U.heap = h0) (fun _ _ _ _ _ => True) (fun _ U o U' => ∃ v L, o = .returned v ∧ Q7 Z p0 p1 h0 n0 v U'.heap L ∧ FrameEnd U o U' L ({ frames := 0, cells := 0, slots := 0, locals := 0 } : Room).cells ({ frames := 0, cells := 0, slots := 0, locals := 0 } : Room).slots) := by
 refine MetFree.of_bodySF (Jvm.Free.JP.mathPlain rfl (by decide +kernel)) hisR ?_
 intro p e s m args below meth c s₁ Bd hml0 hP hK
 obtain ⟨rfl, hZ, hh⟩ := hP
 have hx := Bd.exec
 have hby := Bd.bytes
 have hml : c.maxLocals = 2 := hml0
 have hown : s.vm.findClass "java/lang/Math" = some m.cls := by have q := findClass_of_methodNamed Bd.named; exact q
 have hnm := (name_of_methodNamed Bd.named Bd.method).1
 have X0 : Stand p l e ({ frames := 0, cells := 0, slots := 0, locals := 0 } : Room) s m #[(.int p0), (.int p1)] below meth c s₁ [] 0 0 := Stand.of_body Bd
 have e0 : s₁.heap = h0 := by rw [← hh, Bd.state]; rfl
 have N0 := Fr.nil n0
 have pre0 : own_P p e below s₁ (mkF m 0 #[vI p0, vI p1] []) s₁ (entryFrame m #[(.int p0), (.int p1)] 2) := fun t k => castTop (ef_7 m p0 p1) k
 have pre17 : own_P p e below s₁ (mkF m 2 #[vI p0, vI p1] [(.int p1), (.int p0)]) s₁ (entryFrame m #[(.int p0), (.int p1)] 2) := by
  intro t k
  refine pre0 t ?_
  refine XS.iloadN X0.here hx rfl (hb hby d7_0) rfl ?_
  refine XS.iloadN X0.here hx rfl (hb hby d7_1) rfl ?_
  exact k
 by_cases hc2_18 : p1 < p0
 ·
  obtain ⟨fs, hr, hrun, hended, hW, hsame⟩ := X0.leave (v := some (.int p1)) (fun h => by rw [Bd.returns] at h; cases h)
  refine ⟨_, _, pre17 _ ?_, hrun, hended, _, _, rfl, ?_, ⟨_, rfl⟩, hW, hsame.mono (by decide) (by decide)⟩
  ·
   refine XS.icmpYes X0.here hx rfl (pc0 := 2) (pc' := 9) rfl (hb hby d7_2) rfl (tlt hc2_18).2.2.1 (by decide) (by decide) ?_
   refine XS.iloadN X0.here hx rfl (hb hby d7_9) rfl ?_
   exact retOut X0 hx Bd.returns rfl (Or.inl ⟨rfl, Or.inl rfl, _, rfl⟩) (hb hby d7_10) hr
  ·
   show Q7 Z p0 p1 h0 n0 _ s₁.heap _
   rw [e0]
   exact ⟨by unfold f7; rw [if_pos hc2_18], N0, rfl⟩
 ·
  obtain ⟨fs, hr, hrun, hended, hW, hsame⟩ := X0.leave (v := some (.int p0)) (fun h => by rw [Bd.returns] at h; cases h)
  refine ⟨_, _, pre17 _ ?_, hrun, hended, _, _, rfl, ?_, ⟨_, rfl⟩, hW, hsame.mono (by decide) (by decide)⟩
  ·
   refine XS.icmpNo X0.here hx rfl (hb hby d7_2) rfl (flt hc2_18).2.2.1 ?_
   refine XS.iloadN X0.here hx rfl (hb hby d7_5) rfl ?_
   refine XS.goto X0.here hx rfl (pc0 := 6) (pc' := 10) rfl (hb hby d7_6) (by decide) (by decide) ?_
   exact retOut X0 hx Bd.returns rfl (Or.inl ⟨rfl, Or.inl rfl, _, rfl⟩) (hb hby d7_10) hr
  ·
   show Q7 Z p0 p1 h0 n0 _ s₁.heap _
   rw [e0]
   exact ⟨by unfold f7; rw [if_neg hc2_18], N0, rfl⟩
theorem pn_3 : plainName own_LC = true := by first | (simp [plainName, overriddenIn]; done) | decide +kernel
theorem d8_0 : decode method_3_code 0 = .ok (.lload_n 0, 1) := by decide +kernel
theorem d8_1 : decode method_3_code 1 = .ok (.bipush 7, 2) := by decide +kernel
theorem d8_3 : decode method_3_code 3 = .ok (.iload_n 2, 1) := by decide +kernel
theorem d8_4 : decode method_3_code 4 = .ok (.imul, 1) := by decide +kernel
theorem d8_5 : decode method_3_code 5 = .ok (.lushr, 1) := by decide +kernel
theorem d8_6 : decode method_3_code 6 = .ok (.ldc2_w 32, 3) := by decide +kernel
theorem d8_9 : decode method_3_code 9 = .ok (.land, 1) := by decide +kernel
theorem d8_10 : decode method_3_code 10 = .ok (.l2i, 1) := by decide +kernel
theorem d8_11 : decode method_3_code 11 = .ok (.istore 4, 2) := by decide +kernel
theorem d8_13 : decode method_3_code 13 = .ok (.iload_n 2, 1) := by decide +kernel
theorem d8_14 : decode method_3_code 14 = .ok (.iload_n 3, 1) := by decide +kernel
theorem d8_15 : decode method_3_code 15 = .ok (.iconst 1, 1) := by decide +kernel
theorem d8_16 : decode method_3_code 16 = .ok (.isub, 1) := by decide +kernel
theorem d8_17 : decode method_3_code 17 = .ok (.if_icmp .ge 11, 3) := by decide +kernel
theorem d8_20 : decode method_3_code 20 = .ok (.iload 4, 2) := by decide +kernel
theorem d8_22 : decode method_3_code 22 = .ok (.sipush 128, 3) := by decide +kernel
theorem d8_25 : decode method_3_code 25 = .ok (.ior, 1) := by decide +kernel
theorem d8_26 : decode method_3_code 26 = .ok (.i2b, 1) := by decide +kernel
theorem d8_27 : decode method_3_code 27 = .ok (.ireturn, 1) := by decide +kernel
theorem d8_28 : decode method_3_code 28 = .ok (.iload 4, 2) := by decide +kernel
theorem d8_30 : decode method_3_code 30 = .ok (.i2b, 1) := by decide +kernel
theorem d8_31 : decode method_3_code 31 = .ok (.ireturn, 1) := by decide +kernel
theorem ef_8 (m : MethodId) (x0 : Int64) (x1 : Int32) (x2 : Int32) : entryFrame m #[(.long x0), (.int x1), (.int x2)] 5 = mkF m 0 #[vJ x0, .second, vI x1, vI x2, .unset] [] := by first | (simp [entryFrame, mkF, argsToLocals, Value.category]; done) | rfl
def f8 (q0 : Int64) (p1 : Int32) (p2 : Int32) : Int32 := (if p1 < (p2 - (1 : Int32)) then (nar .byte ((((((q0.toUInt64 >>> (((7 : Int32) * p1) &&& 0x3f).toInt64.toUInt64).toInt64) &&& (127 : Int64)).toInt32) ||| (128 : Int32)).toInt8.toInt32)) else (nar .byte (((((q0.toUInt64 >>> (((7 : Int32) * p1) &&& 0x3f).toInt64.toUInt64).toInt64) &&& (127 : Int64)).toInt32).toInt8.toInt32)))
def Q8 (Z : State) (q0 : Int64) (p1 : Int32) (p2 : Int32) (h0 : Heap) (n0 : Nat) (v : Option Value) (h : Heap) (L : List Loc) : Prop := v = some (.int (f8 q0 p1 p2)) ∧ Fr n0 L ∧ h = h0
set_option maxRecDepth 65536 in
set_option maxHeartbeats 40000000 in
theorem rm8 (l : Launch) (Z : State) (ar0 : Array Value) (hw : ∀ d ∈ tables_1, d.before ar0 Z = true) (ws : List Jvm.Cond) (q0 : Int64) (p1 : Int32) (p2 : Int32) (h0 : Heap) (n0 : Nat) (Z0 : n0 ≤ h0.size) :
  MetFree l (⟨own_LC, "idByte", "(JII)B"⟩ : MethodName) (head1 (Jvm.Cond.code (⟨own_LC, "idByte", "(JII)B"⟩ : MethodName) method_3_code 5 (some .byte) :: ws) ({ frames := 0, cells := 0, slots := 0, locals := 0 } : Room)) (fun a U => a = #[(.long q0), (.int p1), (.int p2)] ∧ Z.Warmed39 U.vm ∧ U.heap = h0) (fun _ _ _ _ _ => True) (fun _ U o U' => ∃ v L, o = .returned v ∧ Q8 Z q0 p1 p2 h0 n0 v U'.heap L ∧ FrameEnd U o U' L ({ frames := 0, cells := 0, slots := 0, locals := 0 } : Room).cells ({ frames := 0, cells := 0, slots := 0, locals := 0 } : Room).slots) := by
 refine MetFree.of_bodySF (plainFor_of_name pn_3) hisR ?_
 intro p e s m args below meth c s₁ Bd hml0 hP hK
 obtain ⟨rfl, hZ, hh⟩ := hP
 have hx := Bd.exec
 have hby := Bd.bytes
 have hml : c.maxLocals = 5 := hml0
 have hown : s.vm.findClass own_LC = some m.cls := by have q := findClass_of_methodNamed Bd.named; exact q
 have hnm := (name_of_methodNamed Bd.named Bd.method).1
 have X0 : Stand p l e ({ frames := 0, cells := 0, slots := 0, locals := 0 } : Room) s m #[(.long q0), (.int p1), (.int p2)] below meth c s₁ [] 0 0 := Stand.of_body Bd
 have e0 : s₁.heap = h0 := by rw [← hh, Bd.state]; rfl
 have N0 := Fr.nil n0
 have pre0 : own_P p e below s₁ (mkF m 0 #[vJ q0, .second, vI p1, vI p2, .unset] []) s₁ (entryFrame m #[(.long q0), (.int p1), (.int p2)] 5) := fun t k => castTop (ef_8 m q0 p1 p2) k
 have pre19 : own_P p e below s₁ (mkF m 17 #[vJ q0, .second, vI p1, vI p2, vI ((((q0.toUInt64 >>> (((7 : Int32) * p1) &&& 0x3f).toInt64.toUInt64).toInt64) &&& (127 : Int64)).toInt32)] [(.int (p2 - (1 : Int32))), (.int p1)]) s₁ (entryFrame m #[(.long q0), (.int p1), (.int p2)] 5) := by
  intro t k
  refine pre0 t ?_
  refine XS.lloadN X0.here hx rfl (hb hby d8_0) rfl ?_
  refine XS.bipush X0.here hx rfl (hb hby d8_1) ?_
  refine XS.iloadN X0.here hx rfl (hb hby d8_3) rfl ?_
  refine XS.imul X0.here hx rfl (hb hby d8_4) rfl ?_
  refine XS.lushr X0.here hx rfl (hb hby d8_5) rfl ?_
  refine X0.ldc2Long hx hown (mvT hZ (own_w hw 49 rfl)) (g := (mkF m 6 #[vJ q0, .second, vI p1, vI p2, .unset] [(.long ((q0.toUInt64 >>> (((7 : Int32) * p1) &&& 0x3f).toInt64.toUInt64).toInt64))])) rfl (hb hby d8_6) _ ?_
  refine XS.land X0.here hx rfl (hb hby d8_9) rfl ?_
  refine XS.l2i X0.here hx rfl (hb hby d8_10) rfl ?_
  refine XS.istore X0.here hx rfl (hb hby d8_11) rfl (l' := #[vJ q0, .second, vI p1, vI p2, vI ((((q0.toUInt64 >>> (((7 : Int32) * p1) &&& 0x3f).toInt64.toUInt64).toInt64) &&& (127 : Int64)).toInt32)]) rfl ?_
  refine XS.iloadN X0.here hx rfl (hb hby d8_13) rfl ?_
  refine XS.iloadN X0.here hx rfl (hb hby d8_14) rfl ?_
  refine XS.iconst X0.here hx rfl (hb hby d8_15) ?_
  refine XS.isub X0.here hx rfl (hb hby d8_16) rfl ?_
  exact k
 by_cases hc17_20 : p1 < (p2 - (1 : Int32))
 ·
  obtain ⟨fs, hr, hrun, hended, hW, hsame⟩ := X0.leave (v := some (.int (nar .byte ((((((q0.toUInt64 >>> (((7 : Int32) * p1) &&& 0x3f).toInt64.toUInt64).toInt64) &&& (127 : Int64)).toInt32) ||| (128 : Int32)).toInt8.toInt32)))) (fun h => by rw [Bd.returns] at h; cases h)
  refine ⟨_, _, pre19 _ ?_, hrun, hended, _, _, rfl, ?_, ⟨_, rfl⟩, hW, hsame.mono (by decide) (by decide)⟩
  ·
   refine XS.icmpNo X0.here hx rfl (hb hby d8_17) rfl (tlt hc17_20).2.1 ?_
   refine XS.iload X0.here hx rfl (hb hby d8_20) rfl ?_
   refine XS.sipush X0.here hx rfl (hb hby d8_22) ?_
   refine XS.ior X0.here hx rfl (hb hby d8_25) rfl ?_
   refine XS.i2b X0.here hx rfl (hb hby d8_26) rfl ?_
   exact retN X0 hx (t := .byte) Bd.returns (by simp) (hb hby d8_27) hr
  ·
   show Q8 Z q0 p1 p2 h0 n0 _ s₁.heap _
   rw [e0]
   exact ⟨by unfold f8; rw [if_pos hc17_20], N0, rfl⟩
 ·
  obtain ⟨fs, hr, hrun, hended, hW, hsame⟩ := X0.leave (v := some (.int (nar .byte (((((q0.toUInt64 >>> (((7 : Int32) * p1) &&& 0x3f).toInt64.toUInt64).toInt64) &&& (127 : Int64)).toInt32).toInt8.toInt32)))) (fun h => by rw [Bd.returns] at h; cases h)
  refine ⟨_, _, pre19 _ ?_, hrun, hended, _, _, rfl, ?_, ⟨_, rfl⟩, hW, hsame.mono (by decide) (by decide)⟩
  ·
   refine XS.icmpYes X0.here hx rfl (pc0 := 17) (pc' := 28) rfl (hb hby d8_17) rfl (flt hc17_20).2.1 (by decide) (by decide) ?_
   refine XS.iload X0.here hx rfl (hb hby d8_28) rfl ?_
   refine XS.i2b X0.here hx rfl (hb hby d8_30) rfl ?_
   exact retN X0 hx (t := .byte) Bd.returns (by simp) (hb hby d8_31) hr
  ·
   show Q8 Z q0 p1 p2 h0 n0 _ s₁.heap _
   rw [e0]
   exact ⟨by unfold f8; rw [if_neg hc17_20], N0, rfl⟩
theorem pd_1 : parseMethodDescriptor "(II)I" = some ⟨[.int, .int], some .int⟩ := by decide +kernel
theorem pn_4 : plainName "java/util/Arrays" = true := by first | (simp [plainName, overriddenIn]; done) | decide +kernel
theorem d6_0 : decode jdk_65_method_121_code 0 = .ok (.iload_n 1, 1) := by decide +kernel
theorem d6_1 : decode jdk_65_method_121_code 1 = .ok (.aload_n 0, 1) := by decide +kernel
theorem d6_2 : decode jdk_65_method_121_code 2 = .ok (.arraylength, 1) := by decide +kernel
theorem d6_3 : decode jdk_65_method_121_code 3 = .ok (.if_icmp .ne 11, 3) := by decide +kernel
theorem d6_14 : decode jdk_65_method_121_code 14 = .ok (.iload_n 1, 1) := by decide +kernel
theorem d6_15 : decode jdk_65_method_121_code 15 = .ok (.newarray .byte, 2) := by decide +kernel
theorem d6_17 : decode jdk_65_method_121_code 17 = .ok (.astore_n 2, 1) := by decide +kernel
theorem d6_18 : decode jdk_65_method_121_code 18 = .ok (.aload_n 0, 1) := by decide +kernel
theorem d6_19 : decode jdk_65_method_121_code 19 = .ok (.iconst 0, 1) := by decide +kernel
theorem d6_20 : decode jdk_65_method_121_code 20 = .ok (.aload_n 2, 1) := by decide +kernel
theorem d6_21 : decode jdk_65_method_121_code 21 = .ok (.iconst 0, 1) := by decide +kernel
theorem d6_22 : decode jdk_65_method_121_code 22 = .ok (.aload_n 0, 1) := by decide +kernel
theorem d6_23 : decode jdk_65_method_121_code 23 = .ok (.arraylength, 1) := by decide +kernel
theorem d6_24 : decode jdk_65_method_121_code 24 = .ok (.iload_n 1, 1) := by decide +kernel
theorem d6_25 : decode jdk_65_method_121_code 25 = .ok (.invokestatic 304, 3) := by decide +kernel
theorem d6_28 : decode jdk_65_method_121_code 28 = .ok (.invokestatic 150, 3) := by decide +kernel
theorem d6_31 : decode jdk_65_method_121_code 31 = .ok (.aload_n 2, 1) := by decide +kernel
theorem d6_32 : decode jdk_65_method_121_code 32 = .ok (.areturn, 1) := by decide +kernel
theorem ef_6_1 (m : MethodId) (x0 : Addr) (x1 : Int32) : entryFrame m #[(.ref x0), (.int x1)] 3 = mkF m 0 #[vR x0, vI x1, .unset] [] := by first | (simp [entryFrame, mkF, argsToLocals, Value.category]; done) | rfl
def Q6_1 (Z : State) (a0 : Addr) (k_a0 : ClassId) (x0 : Int32) (x1 : Int32) (x2 : Int32) (x3 : Int32) (x4 : Int32) (h0 : Heap) (n0 : Nat) (v : Option Value) (h : Heap) (L : List Loc) : Prop := ∃ (b : Addr) (k_b : ClassId), v = some (.ref b) ∧ Fr n0 L ∧ Keep h0 h [] ∧ h0.size ≤ b ∧ Exa Z h b "[B" ∧ Arv Z h b k_b .byte (1 : Int32) [(.int x0)] (.int 0)
set_option maxRecDepth 65536 in
set_option maxHeartbeats 40000000 in
theorem rm6_1 (l : Launch) (Z : State) (ar0 : Array Value) (hw : ∀ d ∈ tables_1, d.before ar0 Z = true) (ws : List Jvm.Cond) (a0 : Addr) (k_a0 : ClassId) (x0 : Int32) (x1 : Int32) (x2 : Int32) (x3 : Int32) (x4 : Int32) (h0 : Heap) (n0 : Nat) (Z0 : n0 ≤ h0.size) (V_a0 : Arv Z h0 a0 k_a0 .byte (5 : Int32) [(.int x0), (.int x1), (.int x2), (.int x3), (.int x4)] (.int 0)) (E_a0 : Exa Z h0 a0 "[B") :
  MetFree l (⟨"java/util/Arrays", "copyOf", "([BI)[B"⟩ : MethodName) (head1 (Jvm.Cond.code (⟨"java/util/Arrays", "copyOf", "([BI)[B"⟩ : MethodName) jdk_65_method_121_code 3 (some (.array .byte)) :: ws) ({ frames := 1, cells := 1, slots := 1, locals := 18 } : Room)) (fun a U => a = #[(.ref a0), (.int 1)] ∧ Z.Warmed39 U.vm ∧ U.heap = h0) (fun _ _ _ _ _ => True) (fun _ U o U' => ∃ v L, o = .returned v ∧ Q6_1 Z a0 k_a0 x0 x1 x2 x3 x4 h0 n0 v U'.heap L ∧ FrameEnd U o U' L ({ frames := 1, cells := 1, slots := 1, locals := 18 } : Room).cells ({ frames := 1, cells := 1, slots := 1, locals := 18 } : Room).slots) := by
 refine MetFree.of_bodySF (plainFor_of_name pn_4) hisR ?_
 intro p e s m args below meth c s₁ Bd hml0 hP hK
 obtain ⟨rfl, hZ, hh⟩ := hP
 have hx := Bd.exec
 have hby := Bd.bytes
 have hml : c.maxLocals = 3 := hml0
 have hown : s.vm.findClass "java/util/Arrays" = some m.cls := by have q := findClass_of_methodNamed Bd.named; exact q
 have hnm := (name_of_methodNamed Bd.named Bd.method).1
 have X0 : Stand p l e ({ frames := 1, cells := 1, slots := 1, locals := 18 } : Room) s m #[(.ref a0), (.int 1)] below meth c s₁ [] 0 0 := Stand.of_body Bd
 have e0 : s₁.heap = h0 := by rw [← hh, Bd.state]; rfl
 have N0 := Fr.nil n0
 have pre0 : own_P p e below s₁ (mkF m 0 #[vR a0, vI 1, .unset] []) s₁ (entryFrame m #[(.ref a0), (.int 1)] 3) := fun t k => castTop (ef_6_1 m a0 (1 : Int32)) k
 have pre21 : own_P p e below s₁ (mkF m 2 #[vR a0, vI 1, .unset] [(.ref a0), (.int 1)]) s₁ (entryFrame m #[(.ref a0), (.int 1)] 3) := by
  intro t k
  refine pre0 t ?_
  refine XS.iloadN X0.here hx rfl (hb hby d6_0) rfl ?_
  refine XS.aloadN X0.here hx rfl (hb hby d6_1) rfl rfl ?_
  exact k
 obtain ⟨cl22, Ar22, q22, S22, M22, H22, G22⟩ := id V_a0
 have pre23 : own_P p e below s₁ (mkF m 15 #[vR a0, vI 1, .unset] [(.int 1)]) s₁ (entryFrame m #[(.ref a0), (.int 1)] 3) := by
  intro t k
  refine pre21 t ?_
  refine X0.arraylength hx (by rw [e0]; exact Ar22.1) (State.isArrayOf_alike hZ.alike Ar22.2.1) (g := (mkF m 2 #[vR a0, vI 1, .unset] [(.ref a0), (.int 1)])) rfl rfl (hb hby d6_2) _ ?_
  rw [len_of S22 M22]
  refine XS.icmpYes X0.here hx rfl (pc0 := 3) (pc' := 14) rfl (hb hby d6_3) rfl (feq (by decide : ¬ (1 : Int32) = (5 : Int32))).2 (by decide) (by decide) ?_
  refine XS.iloadN X0.here hx rfl (hb hby d6_14) rfl ?_
  exact k
 obtain ⟨T24, h24, k24, X24, e24, E24, A24, C24, st24⟩ := newPE X0 hx hZ (own_w hw 0 rfl) e0 (g := (mkF m 15 #[vR a0, vI 1, .unset] [(.int 1)])) rfl (hb hby d6_15) rfl (by decide) (cap := 1) (by decide) (by decide) (by decide) (by decide) (ad := "[B") rfl
 obtain ⟨b24, g24⟩ : ∃ z, z = h0.size := ⟨_, rfl⟩
 rw [← g24] at A24 C24 st24
 have ne_a0_b24 : a0 ≠ b24 := Nat.ne_of_lt (Nat.lt_of_lt_of_le (V_a0).lt (Nat.le_of_eq g24.symm))
 have g_b24 : n0 ≤ b24 := Nat.le_trans Z0 (Nat.le_of_eq g24.symm)
 have sz_b24 : h0.size ≤ b24 := Nat.le_trans (Keep.refl h0 []).1 (Nat.le_of_eq g24.symm)
 have Z24 : n0 ≤ h24.size := Nat.le_trans Z0 E24.1
 have K24 : Keep h0 h24 [] := (Keep.refl h0 []).ext E24
 have Vf25 : Arv Z h24 a0 k_a0 .byte (5 : Int32) [(.int x0), (.int x1), (.int x2), (.int x3), (.int x4)] (.int 0) := (V_a0).ext E24
 have Ef26 : Exa Z h24 a0 "[B" := (E_a0).ext E24
 have V_b24 : Arv Z h24 b24 k24 .byte (1 : Int32) [(.int 0)] (.int 0) := (Arv.new A24 (by decide)).pad (pad_rep [] (.int 0) 1)
 have pre27 : own_P p e below T24 (mkF m 17 #[vR a0, vI 1, .unset] [(.ref b24)]) s₁ (entryFrame m #[(.ref a0), (.int 1)] 3) := fun t k => pre23 t (st24 t k)
 have pre28 : own_P p e below T24 (mkF m 23 #[vR a0, vI 1, vR b24] [(.ref a0), (.int 0), (.ref b24), (.int 0), (.ref a0)]) s₁ (entryFrame m #[(.ref a0), (.int 1)] 3) := by
  intro t k
  refine pre27 t ?_
  refine XS.astoreN X24.here hx rfl (hb hby d6_17) rfl rfl (l' := #[vR a0, vI 1, vR b24]) rfl ?_
  refine XS.aloadN X24.here hx rfl (hb hby d6_18) rfl rfl ?_
  refine XS.iconst X24.here hx rfl (hb hby d6_19) ?_
  refine XS.aloadN X24.here hx rfl (hb hby d6_20) rfl rfl ?_
  refine XS.iconst X24.here hx rfl (hb hby d6_21) ?_
  refine XS.aloadN X24.here hx rfl (hb hby d6_22) rfl rfl ?_
  exact k
 obtain ⟨cl29, Ar29, q29, S29, M29, H29, G29⟩ := id Vf25
 have pre30 : own_P p e below T24 (mkF m 25 #[vR a0, vI 1, vR b24] [(.int 1), (.int 5), (.int 0), (.ref b24), (.int 0), (.ref a0)]) s₁ (entryFrame m #[(.ref a0), (.int 1)] 3) := by
  intro t k
  refine pre28 t ?_
  refine X24.arraylength hx (by rw [e24]; exact Ar29.1) (State.isArrayOf_alike hZ.alike Ar29.2.1) (g := (mkF m 23 #[vR a0, vI 1, vR b24] [(.ref a0), (.int 0), (.ref b24), (.int 0), (.ref a0)])) rfl rfl (hb hby d6_23) _ ?_
  rw [len_of S29 M29]
  refine XS.iloadN X24.here hx rfl (hb hby d6_24) rfl ?_
  exact k
 obtain ⟨_, _, ⟨T31, L31, k31, n31⟩, -, X31, ⟨Lc31, hQ31, l31, y31, z31⟩, st31⟩ := Jvm.LawKit.callS X24 hx (y := (⟨"java/lang/Math", "min", "(II)I"⟩ : MethodName)) hown (mvT hZ (own_w hw 34 rfl)) (mvT hZ (own_w hw 35 rfl)) (mvT hZ (own_w hw 36 rfl)) (mvT hZ (own_w hw 37 rfl)) (by decide) (backOf (W := 4) (rm7 l Z ar0 hw [] (5 : Int32) (1 : Int32) h24 n0 Z24) hZ (own_w hw 37 rfl) (own_w hw 36 rfl) (by decide) (by decide)) (g := (mkF m 25 #[vR a0, vI 1, vR b24] [(.int 1), (.int 5), (.int 0), (.ref b24), (.int 0), (.ref a0)])) rfl (by rw [hml]; rfl) (argsL := [(.int 5), (.int 1)]) (rest := [(.int 0), (.ref b24), (.int 0), (.ref a0)]) (lenOf pd_1 rfl) rfl (by show 2 * 0 + _ ≤ _; exact Nat.le_of_eq rfl) (hb hby d6_25) (fun _ _ => ⟨rfl, e24, (by decide : 1 + 0 ≤ _), (by decide : 1 + 0 ≤ _)⟩)
 dsimp only [Pt.U, Pt.locs, Pt.cells, Pt.slots] at X31 l31 y31 z31 st31 hQ31
 subst l31 y31 z31
 obtain ⟨rfl, N31q, e31⟩ := hQ31
 have N31 := Fr.app N0 N31q
 have hm31 : (f7 (5 : Int32) (1 : Int32)) = (1 : Int32) := by decide
 rw [hm31] at st31
 have pre32 : own_P p e below T31 (mkF m 28 #[vR a0, vI 1, vR b24] [(.int 1), (.int 0), (.ref b24), (.int 0), (.ref a0)]) s₁ (entryFrame m #[(.ref a0), (.int 1)] 3) := fun t k => pre30 t (st31 t k)
 obtain ⟨T33, h33, L33, X33, e33, N33, K33q, V33q, st33⟩ := cpA X31 hx hZ hown (own_w hw 38 rfl) (own_w hw 41 rfl) (own_w hw 39 rfl) (own_w hw 40 rfl) e31 Vf25 V_b24 (Or.inl ⟨rfl, rfl⟩) (by decide) (by decide) (by decide) (by decide) (by decide) (us := [(.int x0)]) rfl (Nat.le_of_ble_eq_true rfl) N31 g_b24 (g := (mkF m 28 #[vR a0, vI 1, vR b24] [(.int 1), (.int 0), (.ref b24), (.int 0), (.ref a0)])) rfl (by rw [hml]; rfl) rfl (hb hby d6_28) (by decide) (W := 0) (by show 2 * 0 + _ ≤ _; exact Nat.le_of_eq rfl) (by decide)
 have Z33 : n0 ≤ h33.size := Nat.le_trans Z24 K33q.1
 have K33 : Keep h0 h33 [] := K24.trans K33q (fun x hx => by cases List.mem_singleton.mp hx; exact Or.inr sz_b24)
 have Vf34 : Arv Z h33 a0 k_a0 .byte (5 : Int32) [(.int x0), (.int x1), (.int x2), (.int x3), (.int x4)] (.int 0) := (Vf25).keep K33q (fun q => absurd (List.mem_singleton.mp q) ne_a0_b24)
 have Ef35 : Exa Z h33 a0 "[B" := (Ef26).keep K33q
 have Ef36 : Exa Z h33 b24 "[B" := (C24).keep K33q
 have V33 : Arv Z h33 b24 k24 .byte (1 : Int32) [(.int x0)] (.int 0) := V33q
 have pre37 : own_P p e below T33 (mkF m 31 #[vR a0, vI 1, vR b24] []) s₁ (entryFrame m #[(.ref a0), (.int 1)] 3) := fun t k => pre32 t (st33 t k)
 obtain ⟨fs, hr, hrun, hended, hW, hsame⟩ := X33.leave (v := some (.ref b24)) (fun h => by rw [Bd.returns] at h; cases h)
 refine ⟨_, _, pre37 _ ?_, hrun, hended, _, _, rfl, ?_, ⟨_, rfl⟩, hW, hsame.mono (by decide) (by decide)⟩
 ·
  refine XS.aloadN X33.here hx rfl (hb hby d6_31) rfl rfl ?_
  exact retOut X33 hx Bd.returns rfl (Or.inr (Or.inr (Or.inr (Or.inr ⟨rfl, rfl, rfl⟩)))) (hb hby d6_32) hr
 ·
  show Q6_1 Z a0 k_a0 x0 x1 x2 x3 x4 h0 n0 _ T33.heap _
  rw [e33]
  exact ⟨b24, k24, rfl, N33, K33, sz_b24, Ef36, V33⟩
theorem ef_6_2 (m : MethodId) (x0 : Addr) (x1 : Int32) : entryFrame m #[(.ref x0), (.int x1)] 3 = mkF m 0 #[vR x0, vI x1, .unset] [] := by first | (simp [entryFrame, mkF, argsToLocals, Value.category]; done) | rfl
def Q6_2 (Z : State) (a0 : Addr) (k_a0 : ClassId) (x0 : Int32) (x1 : Int32) (x2 : Int32) (x3 : Int32) (x4 : Int32) (h0 : Heap) (n0 : Nat) (v : Option Value) (h : Heap) (L : List Loc) : Prop := ∃ (b : Addr) (k_b : ClassId), v = some (.ref b) ∧ Fr n0 L ∧ Keep h0 h [] ∧ h0.size ≤ b ∧ Exa Z h b "[B" ∧ Arv Z h b k_b .byte (2 : Int32) [(.int x0), (.int x1)] (.int 0)
set_option maxRecDepth 65536 in
set_option maxHeartbeats 40000000 in
theorem rm6_2 (l : Launch) (Z : State) (ar0 : Array Value) (hw : ∀ d ∈ tables_1, d.before ar0 Z = true) (ws : List Jvm.Cond) (a0 : Addr) (k_a0 : ClassId) (x0 : Int32) (x1 : Int32) (x2 : Int32) (x3 : Int32) (x4 : Int32) (h0 : Heap) (n0 : Nat) (Z0 : n0 ≤ h0.size) (V_a0 : Arv Z h0 a0 k_a0 .byte (5 : Int32) [(.int x0), (.int x1), (.int x2), (.int x3), (.int x4)] (.int 0)) (E_a0 : Exa Z h0 a0 "[B") :
  MetFree l (⟨"java/util/Arrays", "copyOf", "([BI)[B"⟩ : MethodName) (head1 (Jvm.Cond.code (⟨"java/util/Arrays", "copyOf", "([BI)[B"⟩ : MethodName) jdk_65_method_121_code 3 (some (.array .byte)) :: ws) ({ frames := 1, cells := 1, slots := 2, locals := 18 } : Room)) (fun a U => a = #[(.ref a0), (.int 2)] ∧ Z.Warmed39 U.vm ∧ U.heap = h0) (fun _ _ _ _ _ => True) (fun _ U o U' => ∃ v L, o = .returned v ∧ Q6_2 Z a0 k_a0 x0 x1 x2 x3 x4 h0 n0 v U'.heap L ∧ FrameEnd U o U' L ({ frames := 1, cells := 1, slots := 2, locals := 18 } : Room).cells ({ frames := 1, cells := 1, slots := 2, locals := 18 } : Room).slots) := by
 refine MetFree.of_bodySF (plainFor_of_name pn_4) hisR ?_
 intro p e s m args below meth c s₁ Bd hml0 hP hK
 obtain ⟨rfl, hZ, hh⟩ := hP
 have hx := Bd.exec
 have hby := Bd.bytes
 have hml : c.maxLocals = 3 := hml0
 have hown : s.vm.findClass "java/util/Arrays" = some m.cls := by have q := findClass_of_methodNamed Bd.named; exact q
 have hnm := (name_of_methodNamed Bd.named Bd.method).1
 have X0 : Stand p l e ({ frames := 1, cells := 1, slots := 2, locals := 18 } : Room) s m #[(.ref a0), (.int 2)] below meth c s₁ [] 0 0 := Stand.of_body Bd
 have e0 : s₁.heap = h0 := by rw [← hh, Bd.state]; rfl
 have N0 := Fr.nil n0
 have pre0 : own_P p e below s₁ (mkF m 0 #[vR a0, vI 2, .unset] []) s₁ (entryFrame m #[(.ref a0), (.int 2)] 3) := fun t k => castTop (ef_6_2 m a0 (2 : Int32)) k
 have pre38 : own_P p e below s₁ (mkF m 2 #[vR a0, vI 2, .unset] [(.ref a0), (.int 2)]) s₁ (entryFrame m #[(.ref a0), (.int 2)] 3) := by
  intro t k
  refine pre0 t ?_
  refine XS.iloadN X0.here hx rfl (hb hby d6_0) rfl ?_
  refine XS.aloadN X0.here hx rfl (hb hby d6_1) rfl rfl ?_
  exact k
 obtain ⟨cl39, Ar39, q39, S39, M39, H39, G39⟩ := id V_a0
 have pre40 : own_P p e below s₁ (mkF m 15 #[vR a0, vI 2, .unset] [(.int 2)]) s₁ (entryFrame m #[(.ref a0), (.int 2)] 3) := by
  intro t k
  refine pre38 t ?_
  refine X0.arraylength hx (by rw [e0]; exact Ar39.1) (State.isArrayOf_alike hZ.alike Ar39.2.1) (g := (mkF m 2 #[vR a0, vI 2, .unset] [(.ref a0), (.int 2)])) rfl rfl (hb hby d6_2) _ ?_
  rw [len_of S39 M39]
  refine XS.icmpYes X0.here hx rfl (pc0 := 3) (pc' := 14) rfl (hb hby d6_3) rfl (feq (by decide : ¬ (2 : Int32) = (5 : Int32))).2 (by decide) (by decide) ?_
  refine XS.iloadN X0.here hx rfl (hb hby d6_14) rfl ?_
  exact k
 obtain ⟨T41, h41, k41, X41, e41, E41, A41, C41, st41⟩ := newPE X0 hx hZ (own_w hw 0 rfl) e0 (g := (mkF m 15 #[vR a0, vI 2, .unset] [(.int 2)])) rfl (hb hby d6_15) rfl (by decide) (cap := 2) (by decide) (by decide) (by decide) (by decide) (ad := "[B") rfl
 obtain ⟨b41, g41⟩ : ∃ z, z = h0.size := ⟨_, rfl⟩
 rw [← g41] at A41 C41 st41
 have ne_a0_b41 : a0 ≠ b41 := Nat.ne_of_lt (Nat.lt_of_lt_of_le (V_a0).lt (Nat.le_of_eq g41.symm))
 have g_b41 : n0 ≤ b41 := Nat.le_trans Z0 (Nat.le_of_eq g41.symm)
 have sz_b41 : h0.size ≤ b41 := Nat.le_trans (Keep.refl h0 []).1 (Nat.le_of_eq g41.symm)
 have Z41 : n0 ≤ h41.size := Nat.le_trans Z0 E41.1
 have K41 : Keep h0 h41 [] := (Keep.refl h0 []).ext E41
 have Vf42 : Arv Z h41 a0 k_a0 .byte (5 : Int32) [(.int x0), (.int x1), (.int x2), (.int x3), (.int x4)] (.int 0) := (V_a0).ext E41
 have Ef43 : Exa Z h41 a0 "[B" := (E_a0).ext E41
 have V_b41 : Arv Z h41 b41 k41 .byte (2 : Int32) [(.int 0), (.int 0)] (.int 0) := (Arv.new A41 (by decide)).pad (pad_rep [] (.int 0) 2)
 have pre44 : own_P p e below T41 (mkF m 17 #[vR a0, vI 2, .unset] [(.ref b41)]) s₁ (entryFrame m #[(.ref a0), (.int 2)] 3) := fun t k => pre40 t (st41 t k)
 have pre45 : own_P p e below T41 (mkF m 23 #[vR a0, vI 2, vR b41] [(.ref a0), (.int 0), (.ref b41), (.int 0), (.ref a0)]) s₁ (entryFrame m #[(.ref a0), (.int 2)] 3) := by
  intro t k
  refine pre44 t ?_
  refine XS.astoreN X41.here hx rfl (hb hby d6_17) rfl rfl (l' := #[vR a0, vI 2, vR b41]) rfl ?_
  refine XS.aloadN X41.here hx rfl (hb hby d6_18) rfl rfl ?_
  refine XS.iconst X41.here hx rfl (hb hby d6_19) ?_
  refine XS.aloadN X41.here hx rfl (hb hby d6_20) rfl rfl ?_
  refine XS.iconst X41.here hx rfl (hb hby d6_21) ?_
  refine XS.aloadN X41.here hx rfl (hb hby d6_22) rfl rfl ?_
  exact k
 obtain ⟨cl46, Ar46, q46, S46, M46, H46, G46⟩ := id Vf42
 have pre47 : own_P p e below T41 (mkF m 25 #[vR a0, vI 2, vR b41] [(.int 2), (.int 5), (.int 0), (.ref b41), (.int 0), (.ref a0)]) s₁ (entryFrame m #[(.ref a0), (.int 2)] 3) := by
  intro t k
  refine pre45 t ?_
  refine X41.arraylength hx (by rw [e41]; exact Ar46.1) (State.isArrayOf_alike hZ.alike Ar46.2.1) (g := (mkF m 23 #[vR a0, vI 2, vR b41] [(.ref a0), (.int 0), (.ref b41), (.int 0), (.ref a0)])) rfl rfl (hb hby d6_23) _ ?_
  rw [len_of S46 M46]
  refine XS.iloadN X41.here hx rfl (hb hby d6_24) rfl ?_
  exact k
 obtain ⟨_, _, ⟨T48, L48, k48, n48⟩, -, X48, ⟨Lc48, hQ48, l48, y48, z48⟩, st48⟩ := Jvm.LawKit.callS X41 hx (y := (⟨"java/lang/Math", "min", "(II)I"⟩ : MethodName)) hown (mvT hZ (own_w hw 34 rfl)) (mvT hZ (own_w hw 35 rfl)) (mvT hZ (own_w hw 36 rfl)) (mvT hZ (own_w hw 37 rfl)) (by decide) (backOf (W := 4) (rm7 l Z ar0 hw [] (5 : Int32) (2 : Int32) h41 n0 Z41) hZ (own_w hw 37 rfl) (own_w hw 36 rfl) (by decide) (by decide)) (g := (mkF m 25 #[vR a0, vI 2, vR b41] [(.int 2), (.int 5), (.int 0), (.ref b41), (.int 0), (.ref a0)])) rfl (by rw [hml]; rfl) (argsL := [(.int 5), (.int 2)]) (rest := [(.int 0), (.ref b41), (.int 0), (.ref a0)]) (lenOf pd_1 rfl) rfl (by show 2 * 0 + _ ≤ _; exact Nat.le_of_eq rfl) (hb hby d6_25) (fun _ _ => ⟨rfl, e41, (by decide : 1 + 0 ≤ _), (by decide : 2 + 0 ≤ _)⟩)
 dsimp only [Pt.U, Pt.locs, Pt.cells, Pt.slots] at X48 l48 y48 z48 st48 hQ48
 subst l48 y48 z48
 obtain ⟨rfl, N48q, e48⟩ := hQ48
 have N48 := Fr.app N0 N48q
 have hm48 : (f7 (5 : Int32) (2 : Int32)) = (2 : Int32) := by decide
 rw [hm48] at st48
 have pre49 : own_P p e below T48 (mkF m 28 #[vR a0, vI 2, vR b41] [(.int 2), (.int 0), (.ref b41), (.int 0), (.ref a0)]) s₁ (entryFrame m #[(.ref a0), (.int 2)] 3) := fun t k => pre47 t (st48 t k)
 obtain ⟨T50, h50, L50, X50, e50, N50, K50q, V50q, st50⟩ := cpA X48 hx hZ hown (own_w hw 38 rfl) (own_w hw 41 rfl) (own_w hw 39 rfl) (own_w hw 40 rfl) e48 Vf42 V_b41 (Or.inl ⟨rfl, rfl⟩) (by decide) (by decide) (by decide) (by decide) (by decide) (us := [(.int x0), (.int x1)]) rfl (Nat.le_of_ble_eq_true rfl) N48 g_b41 (g := (mkF m 28 #[vR a0, vI 2, vR b41] [(.int 2), (.int 0), (.ref b41), (.int 0), (.ref a0)])) rfl (by rw [hml]; rfl) rfl (hb hby d6_28) (by decide) (W := 0) (by show 2 * 0 + _ ≤ _; exact Nat.le_of_eq rfl) (by decide)
 have Z50 : n0 ≤ h50.size := Nat.le_trans Z41 K50q.1
 have K50 : Keep h0 h50 [] := K41.trans K50q (fun x hx => by cases List.mem_singleton.mp hx; exact Or.inr sz_b41)
 have Vf51 : Arv Z h50 a0 k_a0 .byte (5 : Int32) [(.int x0), (.int x1), (.int x2), (.int x3), (.int x4)] (.int 0) := (Vf42).keep K50q (fun q => absurd (List.mem_singleton.mp q) ne_a0_b41)
 have Ef52 : Exa Z h50 a0 "[B" := (Ef43).keep K50q
 have Ef53 : Exa Z h50 b41 "[B" := (C41).keep K50q
 have V50 : Arv Z h50 b41 k41 .byte (2 : Int32) [(.int x0), (.int x1)] (.int 0) := V50q
 have pre54 : own_P p e below T50 (mkF m 31 #[vR a0, vI 2, vR b41] []) s₁ (entryFrame m #[(.ref a0), (.int 2)] 3) := fun t k => pre49 t (st50 t k)
 obtain ⟨fs, hr, hrun, hended, hW, hsame⟩ := X50.leave (v := some (.ref b41)) (fun h => by rw [Bd.returns] at h; cases h)
 refine ⟨_, _, pre54 _ ?_, hrun, hended, _, _, rfl, ?_, ⟨_, rfl⟩, hW, hsame.mono (by decide) (by decide)⟩
 ·
  refine XS.aloadN X50.here hx rfl (hb hby d6_31) rfl rfl ?_
  exact retOut X50 hx Bd.returns rfl (Or.inr (Or.inr (Or.inr (Or.inr ⟨rfl, rfl, rfl⟩)))) (hb hby d6_32) hr
 ·
  show Q6_2 Z a0 k_a0 x0 x1 x2 x3 x4 h0 n0 _ T50.heap _
  rw [e50]
  exact ⟨b41, k41, rfl, N50, K50, sz_b41, Ef53, V50⟩
theorem ef_6_3 (m : MethodId) (x0 : Addr) (x1 : Int32) : entryFrame m #[(.ref x0), (.int x1)] 3 = mkF m 0 #[vR x0, vI x1, .unset] [] := by first | (simp [entryFrame, mkF, argsToLocals, Value.category]; done) | rfl
def Q6_3 (Z : State) (a0 : Addr) (k_a0 : ClassId) (x0 : Int32) (x1 : Int32) (x2 : Int32) (x3 : Int32) (x4 : Int32) (h0 : Heap) (n0 : Nat) (v : Option Value) (h : Heap) (L : List Loc) : Prop := ∃ (b : Addr) (k_b : ClassId), v = some (.ref b) ∧ Fr n0 L ∧ Keep h0 h [] ∧ h0.size ≤ b ∧ Exa Z h b "[B" ∧ Arv Z h b k_b .byte (3 : Int32) [(.int x0), (.int x1), (.int x2)] (.int 0)
set_option maxRecDepth 65536 in
set_option maxHeartbeats 40000000 in
theorem rm6_3 (l : Launch) (Z : State) (ar0 : Array Value) (hw : ∀ d ∈ tables_1, d.before ar0 Z = true) (ws : List Jvm.Cond) (a0 : Addr) (k_a0 : ClassId) (x0 : Int32) (x1 : Int32) (x2 : Int32) (x3 : Int32) (x4 : Int32) (h0 : Heap) (n0 : Nat) (Z0 : n0 ≤ h0.size) (V_a0 : Arv Z h0 a0 k_a0 .byte (5 : Int32) [(.int x0), (.int x1), (.int x2), (.int x3), (.int x4)] (.int 0)) (E_a0 : Exa Z h0 a0 "[B") :
  MetFree l (⟨"java/util/Arrays", "copyOf", "([BI)[B"⟩ : MethodName) (head1 (Jvm.Cond.code (⟨"java/util/Arrays", "copyOf", "([BI)[B"⟩ : MethodName) jdk_65_method_121_code 3 (some (.array .byte)) :: ws) ({ frames := 1, cells := 1, slots := 3, locals := 18 } : Room)) (fun a U => a = #[(.ref a0), (.int 3)] ∧ Z.Warmed39 U.vm ∧ U.heap = h0) (fun _ _ _ _ _ => True) (fun _ U o U' => ∃ v L, o = .returned v ∧ Q6_3 Z a0 k_a0 x0 x1 x2 x3 x4 h0 n0 v U'.heap L ∧ FrameEnd U o U' L ({ frames := 1, cells := 1, slots := 3, locals := 18 } : Room).cells ({ frames := 1, cells := 1, slots := 3, locals := 18 } : Room).slots) := by
 refine MetFree.of_bodySF (plainFor_of_name pn_4) hisR ?_
 intro p e s m args below meth c s₁ Bd hml0 hP hK
 obtain ⟨rfl, hZ, hh⟩ := hP
 have hx := Bd.exec
 have hby := Bd.bytes
 have hml : c.maxLocals = 3 := hml0
 have hown : s.vm.findClass "java/util/Arrays" = some m.cls := by have q := findClass_of_methodNamed Bd.named; exact q
 have hnm := (name_of_methodNamed Bd.named Bd.method).1
 have X0 : Stand p l e ({ frames := 1, cells := 1, slots := 3, locals := 18 } : Room) s m #[(.ref a0), (.int 3)] below meth c s₁ [] 0 0 := Stand.of_body Bd
 have e0 : s₁.heap = h0 := by rw [← hh, Bd.state]; rfl
 have N0 := Fr.nil n0
 have pre0 : own_P p e below s₁ (mkF m 0 #[vR a0, vI 3, .unset] []) s₁ (entryFrame m #[(.ref a0), (.int 3)] 3) := fun t k => castTop (ef_6_3 m a0 (3 : Int32)) k
 have pre55 : own_P p e below s₁ (mkF m 2 #[vR a0, vI 3, .unset] [(.ref a0), (.int 3)]) s₁ (entryFrame m #[(.ref a0), (.int 3)] 3) := by
  intro t k
  refine pre0 t ?_
  refine XS.iloadN X0.here hx rfl (hb hby d6_0) rfl ?_
  refine XS.aloadN X0.here hx rfl (hb hby d6_1) rfl rfl ?_
  exact k
 obtain ⟨cl56, Ar56, q56, S56, M56, H56, G56⟩ := id V_a0
 have pre57 : own_P p e below s₁ (mkF m 15 #[vR a0, vI 3, .unset] [(.int 3)]) s₁ (entryFrame m #[(.ref a0), (.int 3)] 3) := by
  intro t k
  refine pre55 t ?_
  refine X0.arraylength hx (by rw [e0]; exact Ar56.1) (State.isArrayOf_alike hZ.alike Ar56.2.1) (g := (mkF m 2 #[vR a0, vI 3, .unset] [(.ref a0), (.int 3)])) rfl rfl (hb hby d6_2) _ ?_
  rw [len_of S56 M56]
  refine XS.icmpYes X0.here hx rfl (pc0 := 3) (pc' := 14) rfl (hb hby d6_3) rfl (feq (by decide : ¬ (3 : Int32) = (5 : Int32))).2 (by decide) (by decide) ?_
  refine XS.iloadN X0.here hx rfl (hb hby d6_14) rfl ?_
  exact k
 obtain ⟨T58, h58, k58, X58, e58, E58, A58, C58, st58⟩ := newPE X0 hx hZ (own_w hw 0 rfl) e0 (g := (mkF m 15 #[vR a0, vI 3, .unset] [(.int 3)])) rfl (hb hby d6_15) rfl (by decide) (cap := 3) (by decide) (by decide) (by decide) (by decide) (ad := "[B") rfl
 obtain ⟨b58, g58⟩ : ∃ z, z = h0.size := ⟨_, rfl⟩
 rw [← g58] at A58 C58 st58
 have ne_a0_b58 : a0 ≠ b58 := Nat.ne_of_lt (Nat.lt_of_lt_of_le (V_a0).lt (Nat.le_of_eq g58.symm))
 have g_b58 : n0 ≤ b58 := Nat.le_trans Z0 (Nat.le_of_eq g58.symm)
 have sz_b58 : h0.size ≤ b58 := Nat.le_trans (Keep.refl h0 []).1 (Nat.le_of_eq g58.symm)
 have Z58 : n0 ≤ h58.size := Nat.le_trans Z0 E58.1
 have K58 : Keep h0 h58 [] := (Keep.refl h0 []).ext E58
 have Vf59 : Arv Z h58 a0 k_a0 .byte (5 : Int32) [(.int x0), (.int x1), (.int x2), (.int x3), (.int x4)] (.int 0) := (V_a0).ext E58
 have Ef60 : Exa Z h58 a0 "[B" := (E_a0).ext E58
 have V_b58 : Arv Z h58 b58 k58 .byte (3 : Int32) [(.int 0), (.int 0), (.int 0)] (.int 0) := (Arv.new A58 (by decide)).pad (pad_rep [] (.int 0) 3)
 have pre61 : own_P p e below T58 (mkF m 17 #[vR a0, vI 3, .unset] [(.ref b58)]) s₁ (entryFrame m #[(.ref a0), (.int 3)] 3) := fun t k => pre57 t (st58 t k)
 have pre62 : own_P p e below T58 (mkF m 23 #[vR a0, vI 3, vR b58] [(.ref a0), (.int 0), (.ref b58), (.int 0), (.ref a0)]) s₁ (entryFrame m #[(.ref a0), (.int 3)] 3) := by
  intro t k
  refine pre61 t ?_
  refine XS.astoreN X58.here hx rfl (hb hby d6_17) rfl rfl (l' := #[vR a0, vI 3, vR b58]) rfl ?_
  refine XS.aloadN X58.here hx rfl (hb hby d6_18) rfl rfl ?_
  refine XS.iconst X58.here hx rfl (hb hby d6_19) ?_
  refine XS.aloadN X58.here hx rfl (hb hby d6_20) rfl rfl ?_
  refine XS.iconst X58.here hx rfl (hb hby d6_21) ?_
  refine XS.aloadN X58.here hx rfl (hb hby d6_22) rfl rfl ?_
  exact k
 obtain ⟨cl63, Ar63, q63, S63, M63, H63, G63⟩ := id Vf59
 have pre64 : own_P p e below T58 (mkF m 25 #[vR a0, vI 3, vR b58] [(.int 3), (.int 5), (.int 0), (.ref b58), (.int 0), (.ref a0)]) s₁ (entryFrame m #[(.ref a0), (.int 3)] 3) := by
  intro t k
  refine pre62 t ?_
  refine X58.arraylength hx (by rw [e58]; exact Ar63.1) (State.isArrayOf_alike hZ.alike Ar63.2.1) (g := (mkF m 23 #[vR a0, vI 3, vR b58] [(.ref a0), (.int 0), (.ref b58), (.int 0), (.ref a0)])) rfl rfl (hb hby d6_23) _ ?_
  rw [len_of S63 M63]
  refine XS.iloadN X58.here hx rfl (hb hby d6_24) rfl ?_
  exact k
 obtain ⟨_, _, ⟨T65, L65, k65, n65⟩, -, X65, ⟨Lc65, hQ65, l65, y65, z65⟩, st65⟩ := Jvm.LawKit.callS X58 hx (y := (⟨"java/lang/Math", "min", "(II)I"⟩ : MethodName)) hown (mvT hZ (own_w hw 34 rfl)) (mvT hZ (own_w hw 35 rfl)) (mvT hZ (own_w hw 36 rfl)) (mvT hZ (own_w hw 37 rfl)) (by decide) (backOf (W := 4) (rm7 l Z ar0 hw [] (5 : Int32) (3 : Int32) h58 n0 Z58) hZ (own_w hw 37 rfl) (own_w hw 36 rfl) (by decide) (by decide)) (g := (mkF m 25 #[vR a0, vI 3, vR b58] [(.int 3), (.int 5), (.int 0), (.ref b58), (.int 0), (.ref a0)])) rfl (by rw [hml]; rfl) (argsL := [(.int 5), (.int 3)]) (rest := [(.int 0), (.ref b58), (.int 0), (.ref a0)]) (lenOf pd_1 rfl) rfl (by show 2 * 0 + _ ≤ _; exact Nat.le_of_eq rfl) (hb hby d6_25) (fun _ _ => ⟨rfl, e58, (by decide : 1 + 0 ≤ _), (by decide : 3 + 0 ≤ _)⟩)
 dsimp only [Pt.U, Pt.locs, Pt.cells, Pt.slots] at X65 l65 y65 z65 st65 hQ65
 subst l65 y65 z65
 obtain ⟨rfl, N65q, e65⟩ := hQ65
 have N65 := Fr.app N0 N65q
 have hm65 : (f7 (5 : Int32) (3 : Int32)) = (3 : Int32) := by decide
 rw [hm65] at st65
 have pre66 : own_P p e below T65 (mkF m 28 #[vR a0, vI 3, vR b58] [(.int 3), (.int 0), (.ref b58), (.int 0), (.ref a0)]) s₁ (entryFrame m #[(.ref a0), (.int 3)] 3) := fun t k => pre64 t (st65 t k)
 obtain ⟨T67, h67, L67, X67, e67, N67, K67q, V67q, st67⟩ := cpA X65 hx hZ hown (own_w hw 38 rfl) (own_w hw 41 rfl) (own_w hw 39 rfl) (own_w hw 40 rfl) e65 Vf59 V_b58 (Or.inl ⟨rfl, rfl⟩) (by decide) (by decide) (by decide) (by decide) (by decide) (us := [(.int x0), (.int x1), (.int x2)]) rfl (Nat.le_of_ble_eq_true rfl) N65 g_b58 (g := (mkF m 28 #[vR a0, vI 3, vR b58] [(.int 3), (.int 0), (.ref b58), (.int 0), (.ref a0)])) rfl (by rw [hml]; rfl) rfl (hb hby d6_28) (by decide) (W := 0) (by show 2 * 0 + _ ≤ _; exact Nat.le_of_eq rfl) (by decide)
 have Z67 : n0 ≤ h67.size := Nat.le_trans Z58 K67q.1
 have K67 : Keep h0 h67 [] := K58.trans K67q (fun x hx => by cases List.mem_singleton.mp hx; exact Or.inr sz_b58)
 have Vf68 : Arv Z h67 a0 k_a0 .byte (5 : Int32) [(.int x0), (.int x1), (.int x2), (.int x3), (.int x4)] (.int 0) := (Vf59).keep K67q (fun q => absurd (List.mem_singleton.mp q) ne_a0_b58)
 have Ef69 : Exa Z h67 a0 "[B" := (Ef60).keep K67q
 have Ef70 : Exa Z h67 b58 "[B" := (C58).keep K67q
 have V67 : Arv Z h67 b58 k58 .byte (3 : Int32) [(.int x0), (.int x1), (.int x2)] (.int 0) := V67q
 have pre71 : own_P p e below T67 (mkF m 31 #[vR a0, vI 3, vR b58] []) s₁ (entryFrame m #[(.ref a0), (.int 3)] 3) := fun t k => pre66 t (st67 t k)
 obtain ⟨fs, hr, hrun, hended, hW, hsame⟩ := X67.leave (v := some (.ref b58)) (fun h => by rw [Bd.returns] at h; cases h)
 refine ⟨_, _, pre71 _ ?_, hrun, hended, _, _, rfl, ?_, ⟨_, rfl⟩, hW, hsame.mono (by decide) (by decide)⟩
 ·
  refine XS.aloadN X67.here hx rfl (hb hby d6_31) rfl rfl ?_
  exact retOut X67 hx Bd.returns rfl (Or.inr (Or.inr (Or.inr (Or.inr ⟨rfl, rfl, rfl⟩)))) (hb hby d6_32) hr
 ·
  show Q6_3 Z a0 k_a0 x0 x1 x2 x3 x4 h0 n0 _ T67.heap _
  rw [e67]
  exact ⟨b58, k58, rfl, N67, K67, sz_b58, Ef70, V67⟩
theorem ef_6_4 (m : MethodId) (x0 : Addr) (x1 : Int32) : entryFrame m #[(.ref x0), (.int x1)] 3 = mkF m 0 #[vR x0, vI x1, .unset] [] := by first | (simp [entryFrame, mkF, argsToLocals, Value.category]; done) | rfl
def Q6_4 (Z : State) (a0 : Addr) (k_a0 : ClassId) (x0 : Int32) (x1 : Int32) (x2 : Int32) (x3 : Int32) (x4 : Int32) (h0 : Heap) (n0 : Nat) (v : Option Value) (h : Heap) (L : List Loc) : Prop := ∃ (b : Addr) (k_b : ClassId), v = some (.ref b) ∧ Fr n0 L ∧ Keep h0 h [] ∧ h0.size ≤ b ∧ Exa Z h b "[B" ∧ Arv Z h b k_b .byte (4 : Int32) [(.int x0), (.int x1), (.int x2), (.int x3)] (.int 0)
set_option maxRecDepth 65536 in
set_option maxHeartbeats 40000000 in
theorem rm6_4 (l : Launch) (Z : State) (ar0 : Array Value) (hw : ∀ d ∈ tables_1, d.before ar0 Z = true) (ws : List Jvm.Cond) (a0 : Addr) (k_a0 : ClassId) (x0 : Int32) (x1 : Int32) (x2 : Int32) (x3 : Int32) (x4 : Int32) (h0 : Heap) (n0 : Nat) (Z0 : n0 ≤ h0.size) (V_a0 : Arv Z h0 a0 k_a0 .byte (5 : Int32) [(.int x0), (.int x1), (.int x2), (.int x3), (.int x4)] (.int 0)) (E_a0 : Exa Z h0 a0 "[B") :
  MetFree l (⟨"java/util/Arrays", "copyOf", "([BI)[B"⟩ : MethodName) (head1 (Jvm.Cond.code (⟨"java/util/Arrays", "copyOf", "([BI)[B"⟩ : MethodName) jdk_65_method_121_code 3 (some (.array .byte)) :: ws) ({ frames := 1, cells := 1, slots := 4, locals := 18 } : Room)) (fun a U => a = #[(.ref a0), (.int 4)] ∧ Z.Warmed39 U.vm ∧ U.heap = h0) (fun _ _ _ _ _ => True) (fun _ U o U' => ∃ v L, o = .returned v ∧ Q6_4 Z a0 k_a0 x0 x1 x2 x3 x4 h0 n0 v U'.heap L ∧ FrameEnd U o U' L ({ frames := 1, cells := 1, slots := 4, locals := 18 } : Room).cells ({ frames := 1, cells := 1, slots := 4, locals := 18 } : Room).slots) := by
 refine MetFree.of_bodySF (plainFor_of_name pn_4) hisR ?_
 intro p e s m args below meth c s₁ Bd hml0 hP hK
 obtain ⟨rfl, hZ, hh⟩ := hP
 have hx := Bd.exec
 have hby := Bd.bytes
 have hml : c.maxLocals = 3 := hml0
 have hown : s.vm.findClass "java/util/Arrays" = some m.cls := by have q := findClass_of_methodNamed Bd.named; exact q
 have hnm := (name_of_methodNamed Bd.named Bd.method).1
 have X0 : Stand p l e ({ frames := 1, cells := 1, slots := 4, locals := 18 } : Room) s m #[(.ref a0), (.int 4)] below meth c s₁ [] 0 0 := Stand.of_body Bd
 have e0 : s₁.heap = h0 := by rw [← hh, Bd.state]; rfl
 have N0 := Fr.nil n0
 have pre0 : own_P p e below s₁ (mkF m 0 #[vR a0, vI 4, .unset] []) s₁ (entryFrame m #[(.ref a0), (.int 4)] 3) := fun t k => castTop (ef_6_4 m a0 (4 : Int32)) k
 have pre72 : own_P p e below s₁ (mkF m 2 #[vR a0, vI 4, .unset] [(.ref a0), (.int 4)]) s₁ (entryFrame m #[(.ref a0), (.int 4)] 3) := by
  intro t k
  refine pre0 t ?_
  refine XS.iloadN X0.here hx rfl (hb hby d6_0) rfl ?_
  refine XS.aloadN X0.here hx rfl (hb hby d6_1) rfl rfl ?_
  exact k
 obtain ⟨cl73, Ar73, q73, S73, M73, H73, G73⟩ := id V_a0
 have pre74 : own_P p e below s₁ (mkF m 15 #[vR a0, vI 4, .unset] [(.int 4)]) s₁ (entryFrame m #[(.ref a0), (.int 4)] 3) := by
  intro t k
  refine pre72 t ?_
  refine X0.arraylength hx (by rw [e0]; exact Ar73.1) (State.isArrayOf_alike hZ.alike Ar73.2.1) (g := (mkF m 2 #[vR a0, vI 4, .unset] [(.ref a0), (.int 4)])) rfl rfl (hb hby d6_2) _ ?_
  rw [len_of S73 M73]
  refine XS.icmpYes X0.here hx rfl (pc0 := 3) (pc' := 14) rfl (hb hby d6_3) rfl (feq (by decide : ¬ (4 : Int32) = (5 : Int32))).2 (by decide) (by decide) ?_
  refine XS.iloadN X0.here hx rfl (hb hby d6_14) rfl ?_
  exact k
 obtain ⟨T75, h75, k75, X75, e75, E75, A75, C75, st75⟩ := newPE X0 hx hZ (own_w hw 0 rfl) e0 (g := (mkF m 15 #[vR a0, vI 4, .unset] [(.int 4)])) rfl (hb hby d6_15) rfl (by decide) (cap := 4) (by decide) (by decide) (by decide) (by decide) (ad := "[B") rfl
 obtain ⟨b75, g75⟩ : ∃ z, z = h0.size := ⟨_, rfl⟩
 rw [← g75] at A75 C75 st75
 have ne_a0_b75 : a0 ≠ b75 := Nat.ne_of_lt (Nat.lt_of_lt_of_le (V_a0).lt (Nat.le_of_eq g75.symm))
 have g_b75 : n0 ≤ b75 := Nat.le_trans Z0 (Nat.le_of_eq g75.symm)
 have sz_b75 : h0.size ≤ b75 := Nat.le_trans (Keep.refl h0 []).1 (Nat.le_of_eq g75.symm)
 have Z75 : n0 ≤ h75.size := Nat.le_trans Z0 E75.1
 have K75 : Keep h0 h75 [] := (Keep.refl h0 []).ext E75
 have Vf76 : Arv Z h75 a0 k_a0 .byte (5 : Int32) [(.int x0), (.int x1), (.int x2), (.int x3), (.int x4)] (.int 0) := (V_a0).ext E75
 have Ef77 : Exa Z h75 a0 "[B" := (E_a0).ext E75
 have V_b75 : Arv Z h75 b75 k75 .byte (4 : Int32) [(.int 0), (.int 0), (.int 0), (.int 0)] (.int 0) := (Arv.new A75 (by decide)).pad (pad_rep [] (.int 0) 4)
 have pre78 : own_P p e below T75 (mkF m 17 #[vR a0, vI 4, .unset] [(.ref b75)]) s₁ (entryFrame m #[(.ref a0), (.int 4)] 3) := fun t k => pre74 t (st75 t k)
 have pre79 : own_P p e below T75 (mkF m 23 #[vR a0, vI 4, vR b75] [(.ref a0), (.int 0), (.ref b75), (.int 0), (.ref a0)]) s₁ (entryFrame m #[(.ref a0), (.int 4)] 3) := by
  intro t k
  refine pre78 t ?_
  refine XS.astoreN X75.here hx rfl (hb hby d6_17) rfl rfl (l' := #[vR a0, vI 4, vR b75]) rfl ?_
  refine XS.aloadN X75.here hx rfl (hb hby d6_18) rfl rfl ?_
  refine XS.iconst X75.here hx rfl (hb hby d6_19) ?_
  refine XS.aloadN X75.here hx rfl (hb hby d6_20) rfl rfl ?_
  refine XS.iconst X75.here hx rfl (hb hby d6_21) ?_
  refine XS.aloadN X75.here hx rfl (hb hby d6_22) rfl rfl ?_
  exact k
 obtain ⟨cl80, Ar80, q80, S80, M80, H80, G80⟩ := id Vf76
 have pre81 : own_P p e below T75 (mkF m 25 #[vR a0, vI 4, vR b75] [(.int 4), (.int 5), (.int 0), (.ref b75), (.int 0), (.ref a0)]) s₁ (entryFrame m #[(.ref a0), (.int 4)] 3) := by
  intro t k
  refine pre79 t ?_
  refine X75.arraylength hx (by rw [e75]; exact Ar80.1) (State.isArrayOf_alike hZ.alike Ar80.2.1) (g := (mkF m 23 #[vR a0, vI 4, vR b75] [(.ref a0), (.int 0), (.ref b75), (.int 0), (.ref a0)])) rfl rfl (hb hby d6_23) _ ?_
  rw [len_of S80 M80]
  refine XS.iloadN X75.here hx rfl (hb hby d6_24) rfl ?_
  exact k
 obtain ⟨_, _, ⟨T82, L82, k82, n82⟩, -, X82, ⟨Lc82, hQ82, l82, y82, z82⟩, st82⟩ := Jvm.LawKit.callS X75 hx (y := (⟨"java/lang/Math", "min", "(II)I"⟩ : MethodName)) hown (mvT hZ (own_w hw 34 rfl)) (mvT hZ (own_w hw 35 rfl)) (mvT hZ (own_w hw 36 rfl)) (mvT hZ (own_w hw 37 rfl)) (by decide) (backOf (W := 4) (rm7 l Z ar0 hw [] (5 : Int32) (4 : Int32) h75 n0 Z75) hZ (own_w hw 37 rfl) (own_w hw 36 rfl) (by decide) (by decide)) (g := (mkF m 25 #[vR a0, vI 4, vR b75] [(.int 4), (.int 5), (.int 0), (.ref b75), (.int 0), (.ref a0)])) rfl (by rw [hml]; rfl) (argsL := [(.int 5), (.int 4)]) (rest := [(.int 0), (.ref b75), (.int 0), (.ref a0)]) (lenOf pd_1 rfl) rfl (by show 2 * 0 + _ ≤ _; exact Nat.le_of_eq rfl) (hb hby d6_25) (fun _ _ => ⟨rfl, e75, (by decide : 1 + 0 ≤ _), (by decide : 4 + 0 ≤ _)⟩)
 dsimp only [Pt.U, Pt.locs, Pt.cells, Pt.slots] at X82 l82 y82 z82 st82 hQ82
 subst l82 y82 z82
 obtain ⟨rfl, N82q, e82⟩ := hQ82
 have N82 := Fr.app N0 N82q
 have hm82 : (f7 (5 : Int32) (4 : Int32)) = (4 : Int32) := by decide
 rw [hm82] at st82
 have pre83 : own_P p e below T82 (mkF m 28 #[vR a0, vI 4, vR b75] [(.int 4), (.int 0), (.ref b75), (.int 0), (.ref a0)]) s₁ (entryFrame m #[(.ref a0), (.int 4)] 3) := fun t k => pre81 t (st82 t k)
 obtain ⟨T84, h84, L84, X84, e84, N84, K84q, V84q, st84⟩ := cpA X82 hx hZ hown (own_w hw 38 rfl) (own_w hw 41 rfl) (own_w hw 39 rfl) (own_w hw 40 rfl) e82 Vf76 V_b75 (Or.inl ⟨rfl, rfl⟩) (by decide) (by decide) (by decide) (by decide) (by decide) (us := [(.int x0), (.int x1), (.int x2), (.int x3)]) rfl (Nat.le_of_ble_eq_true rfl) N82 g_b75 (g := (mkF m 28 #[vR a0, vI 4, vR b75] [(.int 4), (.int 0), (.ref b75), (.int 0), (.ref a0)])) rfl (by rw [hml]; rfl) rfl (hb hby d6_28) (by decide) (W := 0) (by show 2 * 0 + _ ≤ _; exact Nat.le_of_eq rfl) (by decide)
 have Z84 : n0 ≤ h84.size := Nat.le_trans Z75 K84q.1
 have K84 : Keep h0 h84 [] := K75.trans K84q (fun x hx => by cases List.mem_singleton.mp hx; exact Or.inr sz_b75)
 have Vf85 : Arv Z h84 a0 k_a0 .byte (5 : Int32) [(.int x0), (.int x1), (.int x2), (.int x3), (.int x4)] (.int 0) := (Vf76).keep K84q (fun q => absurd (List.mem_singleton.mp q) ne_a0_b75)
 have Ef86 : Exa Z h84 a0 "[B" := (Ef77).keep K84q
 have Ef87 : Exa Z h84 b75 "[B" := (C75).keep K84q
 have V84 : Arv Z h84 b75 k75 .byte (4 : Int32) [(.int x0), (.int x1), (.int x2), (.int x3)] (.int 0) := V84q
 have pre88 : own_P p e below T84 (mkF m 31 #[vR a0, vI 4, vR b75] []) s₁ (entryFrame m #[(.ref a0), (.int 4)] 3) := fun t k => pre83 t (st84 t k)
 obtain ⟨fs, hr, hrun, hended, hW, hsame⟩ := X84.leave (v := some (.ref b75)) (fun h => by rw [Bd.returns] at h; cases h)
 refine ⟨_, _, pre88 _ ?_, hrun, hended, _, _, rfl, ?_, ⟨_, rfl⟩, hW, hsame.mono (by decide) (by decide)⟩
 ·
  refine XS.aloadN X84.here hx rfl (hb hby d6_31) rfl rfl ?_
  exact retOut X84 hx Bd.returns rfl (Or.inr (Or.inr (Or.inr (Or.inr ⟨rfl, rfl, rfl⟩)))) (hb hby d6_32) hr
 ·
  show Q6_4 Z a0 k_a0 x0 x1 x2 x3 x4 h0 n0 _ T84.heap _
  rw [e84]
  exact ⟨b75, k75, rfl, N84, K84, sz_b75, Ef87, V84⟩
theorem d6_6 : decode jdk_65_method_121_code 6 = .ok (.aload_n 0, 1) := by decide +kernel
theorem d6_7 : decode jdk_65_method_121_code 7 = .ok (.invokevirtual 310, 3) := by decide +kernel
theorem d6_10 : decode jdk_65_method_121_code 10 = .ok (.checkcast 311, 3) := by decide +kernel
theorem d6_13 : decode jdk_65_method_121_code 13 = .ok (.areturn, 1) := by decide +kernel
theorem ef_6_5 (m : MethodId) (x0 : Addr) (x1 : Int32) : entryFrame m #[(.ref x0), (.int x1)] 3 = mkF m 0 #[vR x0, vI x1, .unset] [] := by first | (simp [entryFrame, mkF, argsToLocals, Value.category]; done) | rfl
def Q6_5 (Z : State) (a0 : Addr) (k_a0 : ClassId) (x0 : Int32) (x1 : Int32) (x2 : Int32) (x3 : Int32) (x4 : Int32) (h0 : Heap) (n0 : Nat) (v : Option Value) (h : Heap) (L : List Loc) : Prop := ∃ (b : Addr) (k_b : ClassId), v = some (.ref b) ∧ Fr n0 L ∧ Keep h0 h [] ∧ h0.size ≤ b ∧ Arv Z h b k_b .byte (5 : Int32) [(.int x0), (.int x1), (.int x2), (.int x3), (.int x4)] (.int 0) ∧ Exa Z h b "[B"
set_option maxRecDepth 65536 in
set_option maxHeartbeats 40000000 in
theorem rm6_5 (l : Launch) (Z : State) (ar0 : Array Value) (hw : ∀ d ∈ tables_1, d.before ar0 Z = true) (ws : List Jvm.Cond) (a0 : Addr) (k_a0 : ClassId) (x0 : Int32) (x1 : Int32) (x2 : Int32) (x3 : Int32) (x4 : Int32) (h0 : Heap) (n0 : Nat) (Z0 : n0 ≤ h0.size) (V_a0 : Arv Z h0 a0 k_a0 .byte (5 : Int32) [(.int x0), (.int x1), (.int x2), (.int x3), (.int x4)] (.int 0)) (E_a0 : Exa Z h0 a0 "[B") :
  MetFree l (⟨"java/util/Arrays", "copyOf", "([BI)[B"⟩ : MethodName) (head1 (Jvm.Cond.code (⟨"java/util/Arrays", "copyOf", "([BI)[B"⟩ : MethodName) jdk_65_method_121_code 3 (some (.array .byte)) :: ws) ({ frames := 1, cells := 1, slots := 5, locals := 14 } : Room)) (fun a U => a = #[(.ref a0), (.int 5)] ∧ Z.Warmed39 U.vm ∧ U.heap = h0) (fun _ _ _ _ _ => True) (fun _ U o U' => ∃ v L, o = .returned v ∧ Q6_5 Z a0 k_a0 x0 x1 x2 x3 x4 h0 n0 v U'.heap L ∧ FrameEnd U o U' L ({ frames := 1, cells := 1, slots := 5, locals := 14 } : Room).cells ({ frames := 1, cells := 1, slots := 5, locals := 14 } : Room).slots) := by
 refine MetFree.of_bodySF (plainFor_of_name pn_4) hisR ?_
 intro p e s m args below meth c s₁ Bd hml0 hP hK
 obtain ⟨rfl, hZ, hh⟩ := hP
 have hx := Bd.exec
 have hby := Bd.bytes
 have hml : c.maxLocals = 3 := hml0
 have hown : s.vm.findClass "java/util/Arrays" = some m.cls := by have q := findClass_of_methodNamed Bd.named; exact q
 have hnm := (name_of_methodNamed Bd.named Bd.method).1
 have X0 : Stand p l e ({ frames := 1, cells := 1, slots := 5, locals := 14 } : Room) s m #[(.ref a0), (.int 5)] below meth c s₁ [] 0 0 := Stand.of_body Bd
 have e0 : s₁.heap = h0 := by rw [← hh, Bd.state]; rfl
 have N0 := Fr.nil n0
 have pre0 : own_P p e below s₁ (mkF m 0 #[vR a0, vI 5, .unset] []) s₁ (entryFrame m #[(.ref a0), (.int 5)] 3) := fun t k => castTop (ef_6_5 m a0 (5 : Int32)) k
 have pre89 : own_P p e below s₁ (mkF m 2 #[vR a0, vI 5, .unset] [(.ref a0), (.int 5)]) s₁ (entryFrame m #[(.ref a0), (.int 5)] 3) := by
  intro t k
  refine pre0 t ?_
  refine XS.iloadN X0.here hx rfl (hb hby d6_0) rfl ?_
  refine XS.aloadN X0.here hx rfl (hb hby d6_1) rfl rfl ?_
  exact k
 obtain ⟨cl90, Ar90, q90, S90, M90, H90, G90⟩ := id V_a0
 have pre91 : own_P p e below s₁ (mkF m 7 #[vR a0, vI 5, .unset] [(.ref a0)]) s₁ (entryFrame m #[(.ref a0), (.int 5)] 3) := by
  intro t k
  refine pre89 t ?_
  refine X0.arraylength hx (by rw [e0]; exact Ar90.1) (State.isArrayOf_alike hZ.alike Ar90.2.1) (g := (mkF m 2 #[vR a0, vI 5, .unset] [(.ref a0), (.int 5)])) rfl rfl (hb hby d6_2) _ ?_
  rw [len_of S90 M90]
  refine XS.icmpNo X0.here hx rfl (hb hby d6_3) rfl (teq (by decide : (5 : Int32) = (5 : Int32))).2 ?_
  refine XS.aloadN X0.here hx rfl (hb hby d6_6) rfl rfl ?_
  exact k
 obtain ⟨T92, h92, X92, e92, E92, A92, C92, st92⟩ := cloneH X0 hx hZ hown (own_w hw 53 rfl) (own_w hw 54 rfl) (own_w hw 58 rfl) (own_w hw 56 rfl) (own_w hw 57 rfl) (own_w hw 59 rfl) e0 (Arv.arh V_a0) E_a0 (g := (mkF m 7 #[vR a0, vI 5, .unset] [(.ref a0)])) rfl (by rw [hml]; rfl) rfl (hb hby d6_7) (by decide) (W := 0) (cap := 5) (by show 2 * 0 + _ ≤ _; exact Nat.le_of_eq rfl) (by decide) (by decide) (by decide) (by decide)
 obtain ⟨b92, g92⟩ : ∃ z, z = h0.size := ⟨_, rfl⟩
 rw [← g92] at A92 C92 st92
 have ne_a0_b92 : a0 ≠ b92 := Nat.ne_of_lt (Nat.lt_of_lt_of_le (V_a0).lt (Nat.le_of_eq g92.symm))
 have g_b92 : n0 ≤ b92 := Nat.le_trans Z0 (Nat.le_of_eq g92.symm)
 have sz_b92 : h0.size ≤ b92 := Nat.le_trans (Keep.refl h0 []).1 (Nat.le_of_eq g92.symm)
 have Z92 : n0 ≤ h92.size := Nat.le_trans Z0 E92.1
 have K92 : Keep h0 h92 [] := (Keep.refl h0 []).ext E92
 have Vf93 : Arv Z h92 a0 k_a0 .byte (5 : Int32) [(.int x0), (.int x1), (.int x2), (.int x3), (.int x4)] (.int 0) := (V_a0).ext E92
 have Ef94 : Exa Z h92 a0 "[B" := (E_a0).ext E92
 have V_b92 : Arv Z h92 b92 k_a0 .byte (5 : Int32) [(.int x0), (.int x1), (.int x2), (.int x3), (.int x4)] (.int 0) := A92
 have pre95 : own_P p e below T92 (mkF m 10 #[vR a0, vI 5, .unset] [(.ref b92)]) s₁ (entryFrame m #[(.ref a0), (.int 5)] 3) := fun t k => pre91 t (st92 t k)
 obtain ⟨T96, X96, e96, st96⟩ := castY X92 hx hZ hown (own_w hw 60 rfl) e92 (Ins.self C92) (g := (mkF m 10 #[vR a0, vI 5, .unset] [(.ref b92)])) rfl rfl (hb hby d6_10)
 have pre97 : own_P p e below T96 (mkF m 13 #[vR a0, vI 5, .unset] [(.ref b92)]) s₁ (entryFrame m #[(.ref a0), (.int 5)] 3) := fun t k => pre95 t (st96 t k)
 obtain ⟨fs, hr, hrun, hended, hW, hsame⟩ := X96.leave (v := some (.ref b92)) (fun h => by rw [Bd.returns] at h; cases h)
 refine ⟨_, _, pre97 _ ?_, hrun, hended, _, _, rfl, ?_, ⟨_, rfl⟩, hW, hsame.mono (by decide) (by decide)⟩
 ·
  exact retOut X96 hx Bd.returns rfl (Or.inr (Or.inr (Or.inr (Or.inr ⟨rfl, rfl, rfl⟩)))) (hb hby d6_13) hr
 ·
  show Q6_5 Z a0 k_a0 x0 x1 x2 x3 x4 h0 n0 _ T96.heap _
  rw [e96]
  exact ⟨b92, k_a0, rfl, N0, K92, sz_b92, V_b92, C92⟩
theorem ef_6_6 (m : MethodId) (x0 : Addr) (x1 : Int32) : entryFrame m #[(.ref x0), (.int x1)] 3 = mkF m 0 #[vR x0, vI x1, .unset] [] := by first | (simp [entryFrame, mkF, argsToLocals, Value.category]; done) | rfl
def Q6_6 (Z : State) (a0 : Addr) (k_a0 : ClassId) (x0 : Int32) (x1 : Int32) (x2 : Int32) (x3 : Int32) (x4 : Int32) (h0 : Heap) (n0 : Nat) (v : Option Value) (h : Heap) (L : List Loc) : Prop := ∃ (b : Addr) (k_b : ClassId), v = some (.ref b) ∧ Fr n0 L ∧ Keep h0 h [] ∧ h0.size ≤ b ∧ Exa Z h b "[B" ∧ Arv Z h b k_b .byte (6 : Int32) [(.int x0), (.int x1), (.int x2), (.int x3), (.int x4), (.int 0)] (.int 0)
set_option maxRecDepth 65536 in
set_option maxHeartbeats 40000000 in
theorem rm6_6 (l : Launch) (Z : State) (ar0 : Array Value) (hw : ∀ d ∈ tables_1, d.before ar0 Z = true) (ws : List Jvm.Cond) (a0 : Addr) (k_a0 : ClassId) (x0 : Int32) (x1 : Int32) (x2 : Int32) (x3 : Int32) (x4 : Int32) (h0 : Heap) (n0 : Nat) (Z0 : n0 ≤ h0.size) (V_a0 : Arv Z h0 a0 k_a0 .byte (5 : Int32) [(.int x0), (.int x1), (.int x2), (.int x3), (.int x4)] (.int 0)) (E_a0 : Exa Z h0 a0 "[B") :
  MetFree l (⟨"java/util/Arrays", "copyOf", "([BI)[B"⟩ : MethodName) (head1 (Jvm.Cond.code (⟨"java/util/Arrays", "copyOf", "([BI)[B"⟩ : MethodName) jdk_65_method_121_code 3 (some (.array .byte)) :: ws) ({ frames := 1, cells := 1, slots := 6, locals := 18 } : Room)) (fun a U => a = #[(.ref a0), (.int 6)] ∧ Z.Warmed39 U.vm ∧ U.heap = h0) (fun _ _ _ _ _ => True) (fun _ U o U' => ∃ v L, o = .returned v ∧ Q6_6 Z a0 k_a0 x0 x1 x2 x3 x4 h0 n0 v U'.heap L ∧ FrameEnd U o U' L ({ frames := 1, cells := 1, slots := 6, locals := 18 } : Room).cells ({ frames := 1, cells := 1, slots := 6, locals := 18 } : Room).slots) := by
 refine MetFree.of_bodySF (plainFor_of_name pn_4) hisR ?_
 intro p e s m args below meth c s₁ Bd hml0 hP hK
 obtain ⟨rfl, hZ, hh⟩ := hP
 have hx := Bd.exec
 have hby := Bd.bytes
 have hml : c.maxLocals = 3 := hml0
 have hown : s.vm.findClass "java/util/Arrays" = some m.cls := by have q := findClass_of_methodNamed Bd.named; exact q
 have hnm := (name_of_methodNamed Bd.named Bd.method).1
 have X0 : Stand p l e ({ frames := 1, cells := 1, slots := 6, locals := 18 } : Room) s m #[(.ref a0), (.int 6)] below meth c s₁ [] 0 0 := Stand.of_body Bd
 have e0 : s₁.heap = h0 := by rw [← hh, Bd.state]; rfl
 have N0 := Fr.nil n0
 have pre0 : own_P p e below s₁ (mkF m 0 #[vR a0, vI 6, .unset] []) s₁ (entryFrame m #[(.ref a0), (.int 6)] 3) := fun t k => castTop (ef_6_6 m a0 (6 : Int32)) k
 have pre98 : own_P p e below s₁ (mkF m 2 #[vR a0, vI 6, .unset] [(.ref a0), (.int 6)]) s₁ (entryFrame m #[(.ref a0), (.int 6)] 3) := by
  intro t k
  refine pre0 t ?_
  refine XS.iloadN X0.here hx rfl (hb hby d6_0) rfl ?_
  refine XS.aloadN X0.here hx rfl (hb hby d6_1) rfl rfl ?_
  exact k
 obtain ⟨cl99, Ar99, q99, S99, M99, H99, G99⟩ := id V_a0
 have pre100 : own_P p e below s₁ (mkF m 15 #[vR a0, vI 6, .unset] [(.int 6)]) s₁ (entryFrame m #[(.ref a0), (.int 6)] 3) := by
  intro t k
  refine pre98 t ?_
  refine X0.arraylength hx (by rw [e0]; exact Ar99.1) (State.isArrayOf_alike hZ.alike Ar99.2.1) (g := (mkF m 2 #[vR a0, vI 6, .unset] [(.ref a0), (.int 6)])) rfl rfl (hb hby d6_2) _ ?_
  rw [len_of S99 M99]
  refine XS.icmpYes X0.here hx rfl (pc0 := 3) (pc' := 14) rfl (hb hby d6_3) rfl (feq (by decide : ¬ (6 : Int32) = (5 : Int32))).2 (by decide) (by decide) ?_
  refine XS.iloadN X0.here hx rfl (hb hby d6_14) rfl ?_
  exact k
 obtain ⟨T101, h101, k101, X101, e101, E101, A101, C101, st101⟩ := newPE X0 hx hZ (own_w hw 0 rfl) e0 (g := (mkF m 15 #[vR a0, vI 6, .unset] [(.int 6)])) rfl (hb hby d6_15) rfl (by decide) (cap := 6) (by decide) (by decide) (by decide) (by decide) (ad := "[B") rfl
 obtain ⟨b101, g101⟩ : ∃ z, z = h0.size := ⟨_, rfl⟩
 rw [← g101] at A101 C101 st101
 have ne_a0_b101 : a0 ≠ b101 := Nat.ne_of_lt (Nat.lt_of_lt_of_le (V_a0).lt (Nat.le_of_eq g101.symm))
 have g_b101 : n0 ≤ b101 := Nat.le_trans Z0 (Nat.le_of_eq g101.symm)
 have sz_b101 : h0.size ≤ b101 := Nat.le_trans (Keep.refl h0 []).1 (Nat.le_of_eq g101.symm)
 have Z101 : n0 ≤ h101.size := Nat.le_trans Z0 E101.1
 have K101 : Keep h0 h101 [] := (Keep.refl h0 []).ext E101
 have Vf102 : Arv Z h101 a0 k_a0 .byte (5 : Int32) [(.int x0), (.int x1), (.int x2), (.int x3), (.int x4)] (.int 0) := (V_a0).ext E101
 have Ef103 : Exa Z h101 a0 "[B" := (E_a0).ext E101
 have V_b101 : Arv Z h101 b101 k101 .byte (6 : Int32) [(.int 0), (.int 0), (.int 0), (.int 0), (.int 0), (.int 0)] (.int 0) := (Arv.new A101 (by decide)).pad (pad_rep [] (.int 0) 6)
 have pre104 : own_P p e below T101 (mkF m 17 #[vR a0, vI 6, .unset] [(.ref b101)]) s₁ (entryFrame m #[(.ref a0), (.int 6)] 3) := fun t k => pre100 t (st101 t k)
 have pre105 : own_P p e below T101 (mkF m 23 #[vR a0, vI 6, vR b101] [(.ref a0), (.int 0), (.ref b101), (.int 0), (.ref a0)]) s₁ (entryFrame m #[(.ref a0), (.int 6)] 3) := by
  intro t k
  refine pre104 t ?_
  refine XS.astoreN X101.here hx rfl (hb hby d6_17) rfl rfl (l' := #[vR a0, vI 6, vR b101]) rfl ?_
  refine XS.aloadN X101.here hx rfl (hb hby d6_18) rfl rfl ?_
  refine XS.iconst X101.here hx rfl (hb hby d6_19) ?_
  refine XS.aloadN X101.here hx rfl (hb hby d6_20) rfl rfl ?_
  refine XS.iconst X101.here hx rfl (hb hby d6_21) ?_
  refine XS.aloadN X101.here hx rfl (hb hby d6_22) rfl rfl ?_
  exact k
 obtain ⟨cl106, Ar106, q106, S106, M106, H106, G106⟩ := id Vf102
 have pre107 : own_P p e below T101 (mkF m 25 #[vR a0, vI 6, vR b101] [(.int 6), (.int 5), (.int 0), (.ref b101), (.int 0), (.ref a0)]) s₁ (entryFrame m #[(.ref a0), (.int 6)] 3) := by
  intro t k
  refine pre105 t ?_
  refine X101.arraylength hx (by rw [e101]; exact Ar106.1) (State.isArrayOf_alike hZ.alike Ar106.2.1) (g := (mkF m 23 #[vR a0, vI 6, vR b101] [(.ref a0), (.int 0), (.ref b101), (.int 0), (.ref a0)])) rfl rfl (hb hby d6_23) _ ?_
  rw [len_of S106 M106]
  refine XS.iloadN X101.here hx rfl (hb hby d6_24) rfl ?_
  exact k
 obtain ⟨_, _, ⟨T108, L108, k108, n108⟩, -, X108, ⟨Lc108, hQ108, l108, y108, z108⟩, st108⟩ := Jvm.LawKit.callS X101 hx (y := (⟨"java/lang/Math", "min", "(II)I"⟩ : MethodName)) hown (mvT hZ (own_w hw 34 rfl)) (mvT hZ (own_w hw 35 rfl)) (mvT hZ (own_w hw 36 rfl)) (mvT hZ (own_w hw 37 rfl)) (by decide) (backOf (W := 4) (rm7 l Z ar0 hw [] (5 : Int32) (6 : Int32) h101 n0 Z101) hZ (own_w hw 37 rfl) (own_w hw 36 rfl) (by decide) (by decide)) (g := (mkF m 25 #[vR a0, vI 6, vR b101] [(.int 6), (.int 5), (.int 0), (.ref b101), (.int 0), (.ref a0)])) rfl (by rw [hml]; rfl) (argsL := [(.int 5), (.int 6)]) (rest := [(.int 0), (.ref b101), (.int 0), (.ref a0)]) (lenOf pd_1 rfl) rfl (by show 2 * 0 + _ ≤ _; exact Nat.le_of_eq rfl) (hb hby d6_25) (fun _ _ => ⟨rfl, e101, (by decide : 1 + 0 ≤ _), (by decide : 6 + 0 ≤ _)⟩)
 dsimp only [Pt.U, Pt.locs, Pt.cells, Pt.slots] at X108 l108 y108 z108 st108 hQ108
 subst l108 y108 z108
 obtain ⟨rfl, N108q, e108⟩ := hQ108
 have N108 := Fr.app N0 N108q
 have hm108 : (f7 (5 : Int32) (6 : Int32)) = (5 : Int32) := by decide
 rw [hm108] at st108
 have pre109 : own_P p e below T108 (mkF m 28 #[vR a0, vI 6, vR b101] [(.int 5), (.int 0), (.ref b101), (.int 0), (.ref a0)]) s₁ (entryFrame m #[(.ref a0), (.int 6)] 3) := fun t k => pre107 t (st108 t k)
 obtain ⟨T110, h110, L110, X110, e110, N110, K110q, V110q, st110⟩ := cpA X108 hx hZ hown (own_w hw 38 rfl) (own_w hw 41 rfl) (own_w hw 39 rfl) (own_w hw 40 rfl) e108 Vf102 V_b101 (Or.inl ⟨rfl, rfl⟩) (by decide) (by decide) (by decide) (by decide) (by decide) (us := [(.int x0), (.int x1), (.int x2), (.int x3), (.int x4)]) rfl (Nat.le_of_ble_eq_true rfl) N108 g_b101 (g := (mkF m 28 #[vR a0, vI 6, vR b101] [(.int 5), (.int 0), (.ref b101), (.int 0), (.ref a0)])) rfl (by rw [hml]; rfl) rfl (hb hby d6_28) (by decide) (W := 0) (by show 2 * 0 + _ ≤ _; exact Nat.le_of_eq rfl) (by decide)
 have Z110 : n0 ≤ h110.size := Nat.le_trans Z101 K110q.1
 have K110 : Keep h0 h110 [] := K101.trans K110q (fun x hx => by cases List.mem_singleton.mp hx; exact Or.inr sz_b101)
 have Vf111 : Arv Z h110 a0 k_a0 .byte (5 : Int32) [(.int x0), (.int x1), (.int x2), (.int x3), (.int x4)] (.int 0) := (Vf102).keep K110q (fun q => absurd (List.mem_singleton.mp q) ne_a0_b101)
 have Ef112 : Exa Z h110 a0 "[B" := (Ef103).keep K110q
 have Ef113 : Exa Z h110 b101 "[B" := (C101).keep K110q
 have V110 : Arv Z h110 b101 k101 .byte (6 : Int32) [(.int x0), (.int x1), (.int x2), (.int x3), (.int x4), (.int 0)] (.int 0) := V110q
 have pre114 : own_P p e below T110 (mkF m 31 #[vR a0, vI 6, vR b101] []) s₁ (entryFrame m #[(.ref a0), (.int 6)] 3) := fun t k => pre109 t (st110 t k)
 obtain ⟨fs, hr, hrun, hended, hW, hsame⟩ := X110.leave (v := some (.ref b101)) (fun h => by rw [Bd.returns] at h; cases h)
 refine ⟨_, _, pre114 _ ?_, hrun, hended, _, _, rfl, ?_, ⟨_, rfl⟩, hW, hsame.mono (by decide) (by decide)⟩
 ·
  refine XS.aloadN X110.here hx rfl (hb hby d6_31) rfl rfl ?_
  exact retOut X110 hx Bd.returns rfl (Or.inr (Or.inr (Or.inr (Or.inr ⟨rfl, rfl, rfl⟩)))) (hb hby d6_32) hr
 ·
  show Q6_6 Z a0 k_a0 x0 x1 x2 x3 x4 h0 n0 _ T110.heap _
  rw [e110]
  exact ⟨b101, k101, rfl, N110, K110, sz_b101, Ef113, V110⟩
theorem ef_6_7 (m : MethodId) (x0 : Addr) (x1 : Int32) : entryFrame m #[(.ref x0), (.int x1)] 3 = mkF m 0 #[vR x0, vI x1, .unset] [] := by first | (simp [entryFrame, mkF, argsToLocals, Value.category]; done) | rfl
def Q6_7 (Z : State) (a0 : Addr) (k_a0 : ClassId) (x0 : Int32) (x1 : Int32) (x2 : Int32) (x3 : Int32) (x4 : Int32) (h0 : Heap) (n0 : Nat) (v : Option Value) (h : Heap) (L : List Loc) : Prop := ∃ (b : Addr) (k_b : ClassId), v = some (.ref b) ∧ Fr n0 L ∧ Keep h0 h [] ∧ h0.size ≤ b ∧ Exa Z h b "[B" ∧ Arv Z h b k_b .byte (7 : Int32) [(.int x0), (.int x1), (.int x2), (.int x3), (.int x4), (.int 0), (.int 0)] (.int 0)
set_option maxRecDepth 65536 in
set_option maxHeartbeats 40000000 in
theorem rm6_7 (l : Launch) (Z : State) (ar0 : Array Value) (hw : ∀ d ∈ tables_1, d.before ar0 Z = true) (ws : List Jvm.Cond) (a0 : Addr) (k_a0 : ClassId) (x0 : Int32) (x1 : Int32) (x2 : Int32) (x3 : Int32) (x4 : Int32) (h0 : Heap) (n0 : Nat) (Z0 : n0 ≤ h0.size) (V_a0 : Arv Z h0 a0 k_a0 .byte (5 : Int32) [(.int x0), (.int x1), (.int x2), (.int x3), (.int x4)] (.int 0)) (E_a0 : Exa Z h0 a0 "[B") :
  MetFree l (⟨"java/util/Arrays", "copyOf", "([BI)[B"⟩ : MethodName) (head1 (Jvm.Cond.code (⟨"java/util/Arrays", "copyOf", "([BI)[B"⟩ : MethodName) jdk_65_method_121_code 3 (some (.array .byte)) :: ws) ({ frames := 1, cells := 1, slots := 7, locals := 18 } : Room)) (fun a U => a = #[(.ref a0), (.int 7)] ∧ Z.Warmed39 U.vm ∧ U.heap = h0) (fun _ _ _ _ _ => True) (fun _ U o U' => ∃ v L, o = .returned v ∧ Q6_7 Z a0 k_a0 x0 x1 x2 x3 x4 h0 n0 v U'.heap L ∧ FrameEnd U o U' L ({ frames := 1, cells := 1, slots := 7, locals := 18 } : Room).cells ({ frames := 1, cells := 1, slots := 7, locals := 18 } : Room).slots) := by
 refine MetFree.of_bodySF (plainFor_of_name pn_4) hisR ?_
 intro p e s m args below meth c s₁ Bd hml0 hP hK
 obtain ⟨rfl, hZ, hh⟩ := hP
 have hx := Bd.exec
 have hby := Bd.bytes
 have hml : c.maxLocals = 3 := hml0
 have hown : s.vm.findClass "java/util/Arrays" = some m.cls := by have q := findClass_of_methodNamed Bd.named; exact q
 have hnm := (name_of_methodNamed Bd.named Bd.method).1
 have X0 : Stand p l e ({ frames := 1, cells := 1, slots := 7, locals := 18 } : Room) s m #[(.ref a0), (.int 7)] below meth c s₁ [] 0 0 := Stand.of_body Bd
 have e0 : s₁.heap = h0 := by rw [← hh, Bd.state]; rfl
 have N0 := Fr.nil n0
 have pre0 : own_P p e below s₁ (mkF m 0 #[vR a0, vI 7, .unset] []) s₁ (entryFrame m #[(.ref a0), (.int 7)] 3) := fun t k => castTop (ef_6_7 m a0 (7 : Int32)) k
 have pre115 : own_P p e below s₁ (mkF m 2 #[vR a0, vI 7, .unset] [(.ref a0), (.int 7)]) s₁ (entryFrame m #[(.ref a0), (.int 7)] 3) := by
  intro t k
  refine pre0 t ?_
  refine XS.iloadN X0.here hx rfl (hb hby d6_0) rfl ?_
  refine XS.aloadN X0.here hx rfl (hb hby d6_1) rfl rfl ?_
  exact k
 obtain ⟨cl116, Ar116, q116, S116, M116, H116, G116⟩ := id V_a0
 have pre117 : own_P p e below s₁ (mkF m 15 #[vR a0, vI 7, .unset] [(.int 7)]) s₁ (entryFrame m #[(.ref a0), (.int 7)] 3) := by
  intro t k
  refine pre115 t ?_
  refine X0.arraylength hx (by rw [e0]; exact Ar116.1) (State.isArrayOf_alike hZ.alike Ar116.2.1) (g := (mkF m 2 #[vR a0, vI 7, .unset] [(.ref a0), (.int 7)])) rfl rfl (hb hby d6_2) _ ?_
  rw [len_of S116 M116]
  refine XS.icmpYes X0.here hx rfl (pc0 := 3) (pc' := 14) rfl (hb hby d6_3) rfl (feq (by decide : ¬ (7 : Int32) = (5 : Int32))).2 (by decide) (by decide) ?_
  refine XS.iloadN X0.here hx rfl (hb hby d6_14) rfl ?_
  exact k
 obtain ⟨T118, h118, k118, X118, e118, E118, A118, C118, st118⟩ := newPE X0 hx hZ (own_w hw 0 rfl) e0 (g := (mkF m 15 #[vR a0, vI 7, .unset] [(.int 7)])) rfl (hb hby d6_15) rfl (by decide) (cap := 7) (by decide) (by decide) (by decide) (by decide) (ad := "[B") rfl
 obtain ⟨b118, g118⟩ : ∃ z, z = h0.size := ⟨_, rfl⟩
 rw [← g118] at A118 C118 st118
 have ne_a0_b118 : a0 ≠ b118 := Nat.ne_of_lt (Nat.lt_of_lt_of_le (V_a0).lt (Nat.le_of_eq g118.symm))
 have g_b118 : n0 ≤ b118 := Nat.le_trans Z0 (Nat.le_of_eq g118.symm)
 have sz_b118 : h0.size ≤ b118 := Nat.le_trans (Keep.refl h0 []).1 (Nat.le_of_eq g118.symm)
 have Z118 : n0 ≤ h118.size := Nat.le_trans Z0 E118.1
 have K118 : Keep h0 h118 [] := (Keep.refl h0 []).ext E118
 have Vf119 : Arv Z h118 a0 k_a0 .byte (5 : Int32) [(.int x0), (.int x1), (.int x2), (.int x3), (.int x4)] (.int 0) := (V_a0).ext E118
 have Ef120 : Exa Z h118 a0 "[B" := (E_a0).ext E118
 have V_b118 : Arv Z h118 b118 k118 .byte (7 : Int32) [(.int 0), (.int 0), (.int 0), (.int 0), (.int 0), (.int 0), (.int 0)] (.int 0) := (Arv.new A118 (by decide)).pad (pad_rep [] (.int 0) 7)
 have pre121 : own_P p e below T118 (mkF m 17 #[vR a0, vI 7, .unset] [(.ref b118)]) s₁ (entryFrame m #[(.ref a0), (.int 7)] 3) := fun t k => pre117 t (st118 t k)
 have pre122 : own_P p e below T118 (mkF m 23 #[vR a0, vI 7, vR b118] [(.ref a0), (.int 0), (.ref b118), (.int 0), (.ref a0)]) s₁ (entryFrame m #[(.ref a0), (.int 7)] 3) := by
  intro t k
  refine pre121 t ?_
  refine XS.astoreN X118.here hx rfl (hb hby d6_17) rfl rfl (l' := #[vR a0, vI 7, vR b118]) rfl ?_
  refine XS.aloadN X118.here hx rfl (hb hby d6_18) rfl rfl ?_
  refine XS.iconst X118.here hx rfl (hb hby d6_19) ?_
  refine XS.aloadN X118.here hx rfl (hb hby d6_20) rfl rfl ?_
  refine XS.iconst X118.here hx rfl (hb hby d6_21) ?_
  refine XS.aloadN X118.here hx rfl (hb hby d6_22) rfl rfl ?_
  exact k
 obtain ⟨cl123, Ar123, q123, S123, M123, H123, G123⟩ := id Vf119
 have pre124 : own_P p e below T118 (mkF m 25 #[vR a0, vI 7, vR b118] [(.int 7), (.int 5), (.int 0), (.ref b118), (.int 0), (.ref a0)]) s₁ (entryFrame m #[(.ref a0), (.int 7)] 3) := by
  intro t k
  refine pre122 t ?_
  refine X118.arraylength hx (by rw [e118]; exact Ar123.1) (State.isArrayOf_alike hZ.alike Ar123.2.1) (g := (mkF m 23 #[vR a0, vI 7, vR b118] [(.ref a0), (.int 0), (.ref b118), (.int 0), (.ref a0)])) rfl rfl (hb hby d6_23) _ ?_
  rw [len_of S123 M123]
  refine XS.iloadN X118.here hx rfl (hb hby d6_24) rfl ?_
  exact k
 obtain ⟨_, _, ⟨T125, L125, k125, n125⟩, -, X125, ⟨Lc125, hQ125, l125, y125, z125⟩, st125⟩ := Jvm.LawKit.callS X118 hx (y := (⟨"java/lang/Math", "min", "(II)I"⟩ : MethodName)) hown (mvT hZ (own_w hw 34 rfl)) (mvT hZ (own_w hw 35 rfl)) (mvT hZ (own_w hw 36 rfl)) (mvT hZ (own_w hw 37 rfl)) (by decide) (backOf (W := 4) (rm7 l Z ar0 hw [] (5 : Int32) (7 : Int32) h118 n0 Z118) hZ (own_w hw 37 rfl) (own_w hw 36 rfl) (by decide) (by decide)) (g := (mkF m 25 #[vR a0, vI 7, vR b118] [(.int 7), (.int 5), (.int 0), (.ref b118), (.int 0), (.ref a0)])) rfl (by rw [hml]; rfl) (argsL := [(.int 5), (.int 7)]) (rest := [(.int 0), (.ref b118), (.int 0), (.ref a0)]) (lenOf pd_1 rfl) rfl (by show 2 * 0 + _ ≤ _; exact Nat.le_of_eq rfl) (hb hby d6_25) (fun _ _ => ⟨rfl, e118, (by decide : 1 + 0 ≤ _), (by decide : 7 + 0 ≤ _)⟩)
 dsimp only [Pt.U, Pt.locs, Pt.cells, Pt.slots] at X125 l125 y125 z125 st125 hQ125
 subst l125 y125 z125
 obtain ⟨rfl, N125q, e125⟩ := hQ125
 have N125 := Fr.app N0 N125q
 have hm125 : (f7 (5 : Int32) (7 : Int32)) = (5 : Int32) := by decide
 rw [hm125] at st125
 have pre126 : own_P p e below T125 (mkF m 28 #[vR a0, vI 7, vR b118] [(.int 5), (.int 0), (.ref b118), (.int 0), (.ref a0)]) s₁ (entryFrame m #[(.ref a0), (.int 7)] 3) := fun t k => pre124 t (st125 t k)
 obtain ⟨T127, h127, L127, X127, e127, N127, K127q, V127q, st127⟩ := cpA X125 hx hZ hown (own_w hw 38 rfl) (own_w hw 41 rfl) (own_w hw 39 rfl) (own_w hw 40 rfl) e125 Vf119 V_b118 (Or.inl ⟨rfl, rfl⟩) (by decide) (by decide) (by decide) (by decide) (by decide) (us := [(.int x0), (.int x1), (.int x2), (.int x3), (.int x4)]) rfl (Nat.le_of_ble_eq_true rfl) N125 g_b118 (g := (mkF m 28 #[vR a0, vI 7, vR b118] [(.int 5), (.int 0), (.ref b118), (.int 0), (.ref a0)])) rfl (by rw [hml]; rfl) rfl (hb hby d6_28) (by decide) (W := 0) (by show 2 * 0 + _ ≤ _; exact Nat.le_of_eq rfl) (by decide)
 have Z127 : n0 ≤ h127.size := Nat.le_trans Z118 K127q.1
 have K127 : Keep h0 h127 [] := K118.trans K127q (fun x hx => by cases List.mem_singleton.mp hx; exact Or.inr sz_b118)
 have Vf128 : Arv Z h127 a0 k_a0 .byte (5 : Int32) [(.int x0), (.int x1), (.int x2), (.int x3), (.int x4)] (.int 0) := (Vf119).keep K127q (fun q => absurd (List.mem_singleton.mp q) ne_a0_b118)
 have Ef129 : Exa Z h127 a0 "[B" := (Ef120).keep K127q
 have Ef130 : Exa Z h127 b118 "[B" := (C118).keep K127q
 have V127 : Arv Z h127 b118 k118 .byte (7 : Int32) [(.int x0), (.int x1), (.int x2), (.int x3), (.int x4), (.int 0), (.int 0)] (.int 0) := V127q
 have pre131 : own_P p e below T127 (mkF m 31 #[vR a0, vI 7, vR b118] []) s₁ (entryFrame m #[(.ref a0), (.int 7)] 3) := fun t k => pre126 t (st127 t k)
 obtain ⟨fs, hr, hrun, hended, hW, hsame⟩ := X127.leave (v := some (.ref b118)) (fun h => by rw [Bd.returns] at h; cases h)
 refine ⟨_, _, pre131 _ ?_, hrun, hended, _, _, rfl, ?_, ⟨_, rfl⟩, hW, hsame.mono (by decide) (by decide)⟩
 ·
  refine XS.aloadN X127.here hx rfl (hb hby d6_31) rfl rfl ?_
  exact retOut X127 hx Bd.returns rfl (Or.inr (Or.inr (Or.inr (Or.inr ⟨rfl, rfl, rfl⟩)))) (hb hby d6_32) hr
 ·
  show Q6_7 Z a0 k_a0 x0 x1 x2 x3 x4 h0 n0 _ T127.heap _
  rw [e127]
  exact ⟨b118, k118, rfl, N127, K127, sz_b118, Ef130, V127⟩
theorem ef_6_8 (m : MethodId) (x0 : Addr) (x1 : Int32) : entryFrame m #[(.ref x0), (.int x1)] 3 = mkF m 0 #[vR x0, vI x1, .unset] [] := by first | (simp [entryFrame, mkF, argsToLocals, Value.category]; done) | rfl
def Q6_8 (Z : State) (a0 : Addr) (k_a0 : ClassId) (x0 : Int32) (x1 : Int32) (x2 : Int32) (x3 : Int32) (x4 : Int32) (h0 : Heap) (n0 : Nat) (v : Option Value) (h : Heap) (L : List Loc) : Prop := ∃ (b : Addr) (k_b : ClassId), v = some (.ref b) ∧ Fr n0 L ∧ Keep h0 h [] ∧ h0.size ≤ b ∧ Exa Z h b "[B" ∧ Arv Z h b k_b .byte (8 : Int32) [(.int x0), (.int x1), (.int x2), (.int x3), (.int x4), (.int 0), (.int 0), (.int 0)] (.int 0)
set_option maxRecDepth 65536 in
set_option maxHeartbeats 40000000 in
theorem rm6_8 (l : Launch) (Z : State) (ar0 : Array Value) (hw : ∀ d ∈ tables_1, d.before ar0 Z = true) (ws : List Jvm.Cond) (a0 : Addr) (k_a0 : ClassId) (x0 : Int32) (x1 : Int32) (x2 : Int32) (x3 : Int32) (x4 : Int32) (h0 : Heap) (n0 : Nat) (Z0 : n0 ≤ h0.size) (V_a0 : Arv Z h0 a0 k_a0 .byte (5 : Int32) [(.int x0), (.int x1), (.int x2), (.int x3), (.int x4)] (.int 0)) (E_a0 : Exa Z h0 a0 "[B") :
  MetFree l (⟨"java/util/Arrays", "copyOf", "([BI)[B"⟩ : MethodName) (head1 (Jvm.Cond.code (⟨"java/util/Arrays", "copyOf", "([BI)[B"⟩ : MethodName) jdk_65_method_121_code 3 (some (.array .byte)) :: ws) ({ frames := 1, cells := 1, slots := 8, locals := 18 } : Room)) (fun a U => a = #[(.ref a0), (.int 8)] ∧ Z.Warmed39 U.vm ∧ U.heap = h0) (fun _ _ _ _ _ => True) (fun _ U o U' => ∃ v L, o = .returned v ∧ Q6_8 Z a0 k_a0 x0 x1 x2 x3 x4 h0 n0 v U'.heap L ∧ FrameEnd U o U' L ({ frames := 1, cells := 1, slots := 8, locals := 18 } : Room).cells ({ frames := 1, cells := 1, slots := 8, locals := 18 } : Room).slots) := by
 refine MetFree.of_bodySF (plainFor_of_name pn_4) hisR ?_
 intro p e s m args below meth c s₁ Bd hml0 hP hK
 obtain ⟨rfl, hZ, hh⟩ := hP
 have hx := Bd.exec
 have hby := Bd.bytes
 have hml : c.maxLocals = 3 := hml0
 have hown : s.vm.findClass "java/util/Arrays" = some m.cls := by have q := findClass_of_methodNamed Bd.named; exact q
 have hnm := (name_of_methodNamed Bd.named Bd.method).1
 have X0 : Stand p l e ({ frames := 1, cells := 1, slots := 8, locals := 18 } : Room) s m #[(.ref a0), (.int 8)] below meth c s₁ [] 0 0 := Stand.of_body Bd
 have e0 : s₁.heap = h0 := by rw [← hh, Bd.state]; rfl
 have N0 := Fr.nil n0
 have pre0 : own_P p e below s₁ (mkF m 0 #[vR a0, vI 8, .unset] []) s₁ (entryFrame m #[(.ref a0), (.int 8)] 3) := fun t k => castTop (ef_6_8 m a0 (8 : Int32)) k
 have pre132 : own_P p e below s₁ (mkF m 2 #[vR a0, vI 8, .unset] [(.ref a0), (.int 8)]) s₁ (entryFrame m #[(.ref a0), (.int 8)] 3) := by
  intro t k
  refine pre0 t ?_
  refine XS.iloadN X0.here hx rfl (hb hby d6_0) rfl ?_
  refine XS.aloadN X0.here hx rfl (hb hby d6_1) rfl rfl ?_
  exact k
 obtain ⟨cl133, Ar133, q133, S133, M133, H133, G133⟩ := id V_a0
 have pre134 : own_P p e below s₁ (mkF m 15 #[vR a0, vI 8, .unset] [(.int 8)]) s₁ (entryFrame m #[(.ref a0), (.int 8)] 3) := by
  intro t k
  refine pre132 t ?_
  refine X0.arraylength hx (by rw [e0]; exact Ar133.1) (State.isArrayOf_alike hZ.alike Ar133.2.1) (g := (mkF m 2 #[vR a0, vI 8, .unset] [(.ref a0), (.int 8)])) rfl rfl (hb hby d6_2) _ ?_
  rw [len_of S133 M133]
  refine XS.icmpYes X0.here hx rfl (pc0 := 3) (pc' := 14) rfl (hb hby d6_3) rfl (feq (by decide : ¬ (8 : Int32) = (5 : Int32))).2 (by decide) (by decide) ?_
  refine XS.iloadN X0.here hx rfl (hb hby d6_14) rfl ?_
  exact k
 obtain ⟨T135, h135, k135, X135, e135, E135, A135, C135, st135⟩ := newPE X0 hx hZ (own_w hw 0 rfl) e0 (g := (mkF m 15 #[vR a0, vI 8, .unset] [(.int 8)])) rfl (hb hby d6_15) rfl (by decide) (cap := 8) (by decide) (by decide) (by decide) (by decide) (ad := "[B") rfl
 obtain ⟨b135, g135⟩ : ∃ z, z = h0.size := ⟨_, rfl⟩
 rw [← g135] at A135 C135 st135
 have ne_a0_b135 : a0 ≠ b135 := Nat.ne_of_lt (Nat.lt_of_lt_of_le (V_a0).lt (Nat.le_of_eq g135.symm))
 have g_b135 : n0 ≤ b135 := Nat.le_trans Z0 (Nat.le_of_eq g135.symm)
 have sz_b135 : h0.size ≤ b135 := Nat.le_trans (Keep.refl h0 []).1 (Nat.le_of_eq g135.symm)
 have Z135 : n0 ≤ h135.size := Nat.le_trans Z0 E135.1
 have K135 : Keep h0 h135 [] := (Keep.refl h0 []).ext E135
 have Vf136 : Arv Z h135 a0 k_a0 .byte (5 : Int32) [(.int x0), (.int x1), (.int x2), (.int x3), (.int x4)] (.int 0) := (V_a0).ext E135
 have Ef137 : Exa Z h135 a0 "[B" := (E_a0).ext E135
 have V_b135 : Arv Z h135 b135 k135 .byte (8 : Int32) [(.int 0), (.int 0), (.int 0), (.int 0), (.int 0), (.int 0), (.int 0), (.int 0)] (.int 0) := (Arv.new A135 (by decide)).pad (pad_rep [] (.int 0) 8)
 have pre138 : own_P p e below T135 (mkF m 17 #[vR a0, vI 8, .unset] [(.ref b135)]) s₁ (entryFrame m #[(.ref a0), (.int 8)] 3) := fun t k => pre134 t (st135 t k)
 have pre139 : own_P p e below T135 (mkF m 23 #[vR a0, vI 8, vR b135] [(.ref a0), (.int 0), (.ref b135), (.int 0), (.ref a0)]) s₁ (entryFrame m #[(.ref a0), (.int 8)] 3) := by
  intro t k
  refine pre138 t ?_
  refine XS.astoreN X135.here hx rfl (hb hby d6_17) rfl rfl (l' := #[vR a0, vI 8, vR b135]) rfl ?_
  refine XS.aloadN X135.here hx rfl (hb hby d6_18) rfl rfl ?_
  refine XS.iconst X135.here hx rfl (hb hby d6_19) ?_
  refine XS.aloadN X135.here hx rfl (hb hby d6_20) rfl rfl ?_
  refine XS.iconst X135.here hx rfl (hb hby d6_21) ?_
  refine XS.aloadN X135.here hx rfl (hb hby d6_22) rfl rfl ?_
  exact k
 obtain ⟨cl140, Ar140, q140, S140, M140, H140, G140⟩ := id Vf136
 have pre141 : own_P p e below T135 (mkF m 25 #[vR a0, vI 8, vR b135] [(.int 8), (.int 5), (.int 0), (.ref b135), (.int 0), (.ref a0)]) s₁ (entryFrame m #[(.ref a0), (.int 8)] 3) := by
  intro t k
  refine pre139 t ?_
  refine X135.arraylength hx (by rw [e135]; exact Ar140.1) (State.isArrayOf_alike hZ.alike Ar140.2.1) (g := (mkF m 23 #[vR a0, vI 8, vR b135] [(.ref a0), (.int 0), (.ref b135), (.int 0), (.ref a0)])) rfl rfl (hb hby d6_23) _ ?_
  rw [len_of S140 M140]
  refine XS.iloadN X135.here hx rfl (hb hby d6_24) rfl ?_
  exact k
 obtain ⟨_, _, ⟨T142, L142, k142, n142⟩, -, X142, ⟨Lc142, hQ142, l142, y142, z142⟩, st142⟩ := Jvm.LawKit.callS X135 hx (y := (⟨"java/lang/Math", "min", "(II)I"⟩ : MethodName)) hown (mvT hZ (own_w hw 34 rfl)) (mvT hZ (own_w hw 35 rfl)) (mvT hZ (own_w hw 36 rfl)) (mvT hZ (own_w hw 37 rfl)) (by decide) (backOf (W := 4) (rm7 l Z ar0 hw [] (5 : Int32) (8 : Int32) h135 n0 Z135) hZ (own_w hw 37 rfl) (own_w hw 36 rfl) (by decide) (by decide)) (g := (mkF m 25 #[vR a0, vI 8, vR b135] [(.int 8), (.int 5), (.int 0), (.ref b135), (.int 0), (.ref a0)])) rfl (by rw [hml]; rfl) (argsL := [(.int 5), (.int 8)]) (rest := [(.int 0), (.ref b135), (.int 0), (.ref a0)]) (lenOf pd_1 rfl) rfl (by show 2 * 0 + _ ≤ _; exact Nat.le_of_eq rfl) (hb hby d6_25) (fun _ _ => ⟨rfl, e135, (by decide : 1 + 0 ≤ _), (by decide : 8 + 0 ≤ _)⟩)
 dsimp only [Pt.U, Pt.locs, Pt.cells, Pt.slots] at X142 l142 y142 z142 st142 hQ142
 subst l142 y142 z142
 obtain ⟨rfl, N142q, e142⟩ := hQ142
 have N142 := Fr.app N0 N142q
 have hm142 : (f7 (5 : Int32) (8 : Int32)) = (5 : Int32) := by decide
 rw [hm142] at st142
 have pre143 : own_P p e below T142 (mkF m 28 #[vR a0, vI 8, vR b135] [(.int 5), (.int 0), (.ref b135), (.int 0), (.ref a0)]) s₁ (entryFrame m #[(.ref a0), (.int 8)] 3) := fun t k => pre141 t (st142 t k)
 obtain ⟨T144, h144, L144, X144, e144, N144, K144q, V144q, st144⟩ := cpA X142 hx hZ hown (own_w hw 38 rfl) (own_w hw 41 rfl) (own_w hw 39 rfl) (own_w hw 40 rfl) e142 Vf136 V_b135 (Or.inl ⟨rfl, rfl⟩) (by decide) (by decide) (by decide) (by decide) (by decide) (us := [(.int x0), (.int x1), (.int x2), (.int x3), (.int x4)]) rfl (Nat.le_of_ble_eq_true rfl) N142 g_b135 (g := (mkF m 28 #[vR a0, vI 8, vR b135] [(.int 5), (.int 0), (.ref b135), (.int 0), (.ref a0)])) rfl (by rw [hml]; rfl) rfl (hb hby d6_28) (by decide) (W := 0) (by show 2 * 0 + _ ≤ _; exact Nat.le_of_eq rfl) (by decide)
 have Z144 : n0 ≤ h144.size := Nat.le_trans Z135 K144q.1
 have K144 : Keep h0 h144 [] := K135.trans K144q (fun x hx => by cases List.mem_singleton.mp hx; exact Or.inr sz_b135)
 have Vf145 : Arv Z h144 a0 k_a0 .byte (5 : Int32) [(.int x0), (.int x1), (.int x2), (.int x3), (.int x4)] (.int 0) := (Vf136).keep K144q (fun q => absurd (List.mem_singleton.mp q) ne_a0_b135)
 have Ef146 : Exa Z h144 a0 "[B" := (Ef137).keep K144q
 have Ef147 : Exa Z h144 b135 "[B" := (C135).keep K144q
 have V144 : Arv Z h144 b135 k135 .byte (8 : Int32) [(.int x0), (.int x1), (.int x2), (.int x3), (.int x4), (.int 0), (.int 0), (.int 0)] (.int 0) := V144q
 have pre148 : own_P p e below T144 (mkF m 31 #[vR a0, vI 8, vR b135] []) s₁ (entryFrame m #[(.ref a0), (.int 8)] 3) := fun t k => pre143 t (st144 t k)
 obtain ⟨fs, hr, hrun, hended, hW, hsame⟩ := X144.leave (v := some (.ref b135)) (fun h => by rw [Bd.returns] at h; cases h)
 refine ⟨_, _, pre148 _ ?_, hrun, hended, _, _, rfl, ?_, ⟨_, rfl⟩, hW, hsame.mono (by decide) (by decide)⟩
 ·
  refine XS.aloadN X144.here hx rfl (hb hby d6_31) rfl rfl ?_
  exact retOut X144 hx Bd.returns rfl (Or.inr (Or.inr (Or.inr (Or.inr ⟨rfl, rfl, rfl⟩)))) (hb hby d6_32) hr
 ·
  show Q6_8 Z a0 k_a0 x0 x1 x2 x3 x4 h0 n0 _ T144.heap _
  rw [e144]
  exact ⟨b135, k135, rfl, N144, K144, sz_b135, Ef147, V144⟩
theorem own_n3 {p v : Int32} (hv : v = (p &&& (3 : Int32))) : v = 0 ∨ v = 1 ∨ v = 2 ∨ v = 3 := by
 have e0 : (0 : Int32).toInt = 0 := by decide
 have e1 : (1 : Int32).toInt = 1 := by decide
 have e2 : (2 : Int32).toInt = 2 := by decide
 have e3 : (3 : Int32).toInt = 3 := by decide
 have m : (p &&& 3).toInt = p.toInt % 2 ^ 2 := Jvm.Kit.i32_mask p 3 (k := 2) (by decide) (by decide)
 simp only [← Int32.toInt_inj, e0, e1, e2, e3]
 rw [hv, m]
 omega
theorem own_idem (c : Int32) : own_d c = c.toInt8.toInt32 := by simp [own_d]
theorem own_I0 (p : Int32) : 0 ≤ (own_u0 p).toInt ∧ (own_u0 p).toInt < 4294967296 := by
 have e : (own_u0 p).toInt = p.toInt64.toInt % 2 ^ 32 := Jvm.Kit.i64_mask p.toInt64 4294967295 (by decide) (by decide)
 omega
theorem own_sh7 (x : Int64) (h : 0 ≤ x.toInt) : ((x.toUInt64 >>> ((7 : Int32) &&& 0x3f).toInt64.toUInt64).toInt64).toInt = x.toInt / 128 := Jvm.Kit.i64_lushr (k := 7) (Int64.le_iff_toInt_le.mpr h) (by decide) (by decide)
theorem own_I1 (p : Int32) : (own_u1 p).toInt = (own_u0 p).toInt / 128 := by
 have h := own_I0 p
 have e : (own_u1 p).toInt = (own_u0 p).toInt / 128 := own_sh7 _ (by omega)
 rw [e]; try omega
theorem own_I2 (p : Int32) : (own_u2 p).toInt = (own_u0 p).toInt / 16384 := by
 have h := own_I0 p
 have e : (own_u2 p).toInt = (own_u1 p).toInt / 128 := own_sh7 _ (by rw [own_I1 p]; omega)
 rw [e, own_I1 p]; omega
theorem own_I3 (p : Int32) : (own_u3 p).toInt = (own_u0 p).toInt / 2097152 := by
 have h := own_I0 p
 have e : (own_u3 p).toInt = (own_u2 p).toInt / 128 := own_sh7 _ (by rw [own_I2 p]; omega)
 rw [e, own_I2 p]; omega
theorem own_I4 (p : Int32) : (own_u4 p).toInt = (own_u0 p).toInt / 268435456 := by
 have h := own_I0 p
 have e : (own_u4 p).toInt = (own_u3 p).toInt / 128 := own_sh7 _ (by rw [own_I3 p]; omega)
 rw [e, own_I3 p]; omega
theorem own_I5 (p : Int32) : (own_u5 p).toInt = (own_u0 p).toInt / 34359738368 := by
 have h := own_I0 p
 have e : (own_u5 p).toInt = (own_u4 p).toInt / 128 := own_sh7 _ (by rw [own_I4 p]; omega)
 rw [e, own_I4 p]; omega
theorem own_z1 (p : Int32) : own_u1 p = (0 : Int64) ↔ own_u0 p < (128 : Int64) := by
 have h := own_I0 p
 have e := own_I1 p
 have c0 : (0 : Int64).toInt = 0 := by decide
 have c1 : (128 : Int64).toInt = 128 := by decide
 rw [← Int64.toInt_inj, Int64.lt_iff_toInt_lt, c0, c1, e]; omega
theorem own_z2 (p : Int32) : own_u2 p = (0 : Int64) ↔ own_u0 p < (16384 : Int64) := by
 have h := own_I0 p
 have e := own_I2 p
 have c0 : (0 : Int64).toInt = 0 := by decide
 have c1 : (16384 : Int64).toInt = 16384 := by decide
 rw [← Int64.toInt_inj, Int64.lt_iff_toInt_lt, c0, c1, e]; omega
theorem own_z3 (p : Int32) : own_u3 p = (0 : Int64) ↔ own_u0 p < (2097152 : Int64) := by
 have h := own_I0 p
 have e := own_I3 p
 have c0 : (0 : Int64).toInt = 0 := by decide
 have c1 : (2097152 : Int64).toInt = 2097152 := by decide
 rw [← Int64.toInt_inj, Int64.lt_iff_toInt_lt, c0, c1, e]; omega
theorem own_z4 (p : Int32) : own_u4 p = (0 : Int64) ↔ own_u0 p < (268435456 : Int64) := by
 have h := own_I0 p
 have e := own_I4 p
 have c0 : (0 : Int64).toInt = 0 := by decide
 have c1 : (268435456 : Int64).toInt = 268435456 := by decide
 rw [← Int64.toInt_inj, Int64.lt_iff_toInt_lt, c0, c1, e]; omega
theorem own_z5 (p : Int32) : own_u5 p = (0 : Int64) := by
 have h := own_I0 p
 have e := own_I5 p
 have c0 : (0 : Int64).toInt = 0 := by decide
 rw [← Int64.toInt_inj, c0, e]; omega
theorem own_S0 (p : Int32) : own_u0 p = (((own_u0 p).toUInt64 >>> (((7 : Int32) * (0 : Int32)) &&& 0x3f).toInt64.toUInt64).toInt64) := by
 have h := own_I0 p
 have e : (((own_u0 p).toUInt64 >>> (((7 : Int32) * (0 : Int32)) &&& 0x3f).toInt64.toUInt64).toInt64).toInt = (own_u0 p).toInt / 2 ^ 0 := Jvm.Kit.i64_lushr (k := 0) (Int64.le_iff_toInt_le.mpr h.1) (by decide) (by decide)
 rw [← Int64.toInt_inj, e]; omega
theorem own_S1 (p : Int32) : own_u1 p = (((own_u0 p).toUInt64 >>> (((7 : Int32) * (1 : Int32)) &&& 0x3f).toInt64.toUInt64).toInt64) := by
 have h := own_I0 p
 have e : (((own_u0 p).toUInt64 >>> (((7 : Int32) * (1 : Int32)) &&& 0x3f).toInt64.toUInt64).toInt64).toInt = (own_u0 p).toInt / 2 ^ 7 := Jvm.Kit.i64_lushr (k := 7) (Int64.le_iff_toInt_le.mpr h.1) (by decide) (by decide)
 rw [← Int64.toInt_inj, e, own_I1 p]; try rfl
theorem own_S2 (p : Int32) : own_u2 p = (((own_u0 p).toUInt64 >>> (((7 : Int32) * (2 : Int32)) &&& 0x3f).toInt64.toUInt64).toInt64) := by
 have h := own_I0 p
 have e : (((own_u0 p).toUInt64 >>> (((7 : Int32) * (2 : Int32)) &&& 0x3f).toInt64.toUInt64).toInt64).toInt = (own_u0 p).toInt / 2 ^ 14 := Jvm.Kit.i64_lushr (k := 14) (Int64.le_iff_toInt_le.mpr h.1) (by decide) (by decide)
 rw [← Int64.toInt_inj, e, own_I2 p]; try rfl
theorem own_S3 (p : Int32) : own_u3 p = (((own_u0 p).toUInt64 >>> (((7 : Int32) * (3 : Int32)) &&& 0x3f).toInt64.toUInt64).toInt64) := by
 have h := own_I0 p
 have e : (((own_u0 p).toUInt64 >>> (((7 : Int32) * (3 : Int32)) &&& 0x3f).toInt64.toUInt64).toInt64).toInt = (own_u0 p).toInt / 2 ^ 21 := Jvm.Kit.i64_lushr (k := 21) (Int64.le_iff_toInt_le.mpr h.1) (by decide) (by decide)
 rw [← Int64.toInt_inj, e, own_I3 p]; try rfl
theorem own_S4 (p : Int32) : own_u4 p = (((own_u0 p).toUInt64 >>> (((7 : Int32) * (4 : Int32)) &&& 0x3f).toInt64.toUInt64).toInt64) := by
 have h := own_I0 p
 have e : (((own_u0 p).toUInt64 >>> (((7 : Int32) * (4 : Int32)) &&& 0x3f).toInt64.toUInt64).toInt64).toInt = (own_u0 p).toInt / 2 ^ 28 := Jvm.Kit.i64_lushr (k := 28) (Int64.le_iff_toInt_le.mpr h.1) (by decide) (by decide)
 rw [← Int64.toInt_inj, e, own_I4 p]; try rfl

theorem pd_2 : parseMethodDescriptor "(I)J" = some ⟨[.int], some .long⟩ := by decide +kernel
theorem pd_3 : parseMethodDescriptor "([BI)[B" = some ⟨[(.array .byte), .int], some (.array .byte)⟩ := by decide +kernel
theorem d4_0 : decode prog_8_method_3_code 0 = .ok (.iconst 5, 1) := by decide +kernel
theorem d4_1 : decode prog_8_method_3_code 1 = .ok (.newarray .byte, 2) := by decide +kernel
theorem d4_3 : decode prog_8_method_3_code 3 = .ok (.astore_n 1, 1) := by decide +kernel
theorem d4_4 : decode prog_8_method_3_code 4 = .ok (.iconst 0, 1) := by decide +kernel
theorem d4_5 : decode prog_8_method_3_code 5 = .ok (.istore_n 2, 1) := by decide +kernel
theorem d4_6 : decode prog_8_method_3_code 6 = .ok (.aload_n 0, 1) := by decide +kernel
theorem d4_7 : decode prog_8_method_3_code 7 = .ok (.getfield 7, 3) := by decide +kernel
theorem d4_10 : decode prog_8_method_3_code 10 = .ok (.invokestatic 48, 3) := by decide +kernel
theorem d4_13 : decode prog_8_method_3_code 13 = .ok (.lstore_n 3, 1) := by decide +kernel
theorem d4_14 : decode prog_8_method_3_code 14 = .ok (.lload_n 3, 1) := by decide +kernel
theorem d4_15 : decode prog_8_method_3_code 15 = .ok (.ldc2_w 54, 3) := by decide +kernel
theorem d4_18 : decode prog_8_method_3_code 18 = .ok (.land, 1) := by decide +kernel
theorem d4_19 : decode prog_8_method_3_code 19 = .ok (.l2i, 1) := by decide +kernel
theorem d4_20 : decode prog_8_method_3_code 20 = .ok (.istore 5, 2) := by decide +kernel
theorem d4_22 : decode prog_8_method_3_code 22 = .ok (.lload_n 3, 1) := by decide +kernel
theorem d4_23 : decode prog_8_method_3_code 23 = .ok (.bipush 7, 2) := by decide +kernel
theorem d4_25 : decode prog_8_method_3_code 25 = .ok (.lushr, 1) := by decide +kernel
theorem d4_26 : decode prog_8_method_3_code 26 = .ok (.lstore_n 3, 1) := by decide +kernel
theorem d4_27 : decode prog_8_method_3_code 27 = .ok (.aload_n 1, 1) := by decide +kernel
theorem d4_28 : decode prog_8_method_3_code 28 = .ok (.iload_n 2, 1) := by decide +kernel
theorem d4_29 : decode prog_8_method_3_code 29 = .ok (.lload_n 3, 1) := by decide +kernel
theorem d4_30 : decode prog_8_method_3_code 30 = .ok (.lconst 0, 1) := by decide +kernel
theorem d4_31 : decode prog_8_method_3_code 31 = .ok (.lcmp, 1) := by decide +kernel
theorem d4_32 : decode prog_8_method_3_code 32 = .ok (.ifCond .ne 8, 3) := by decide +kernel
theorem d4_35 : decode prog_8_method_3_code 35 = .ok (.iload 5, 2) := by decide +kernel
theorem d4_37 : decode prog_8_method_3_code 37 = .ok (.goto 9, 3) := by decide +kernel
theorem d4_46 : decode prog_8_method_3_code 46 = .ok (.i2b, 1) := by decide +kernel
theorem d4_47 : decode prog_8_method_3_code 47 = .ok (.bastore, 1) := by decide +kernel
theorem d4_48 : decode prog_8_method_3_code 48 = .ok (.iinc 2 1, 3) := by decide +kernel
theorem d4_51 : decode prog_8_method_3_code 51 = .ok (.lload_n 3, 1) := by decide +kernel
theorem d4_52 : decode prog_8_method_3_code 52 = .ok (.lconst 0, 1) := by decide +kernel
theorem d4_53 : decode prog_8_method_3_code 53 = .ok (.lcmp, 1) := by decide +kernel
theorem d4_54 : decode prog_8_method_3_code 54 = .ok (.ifCond .ne (-40), 3) := by decide +kernel
theorem d4_57 : decode prog_8_method_3_code 57 = .ok (.aload_n 1, 1) := by decide +kernel
theorem d4_58 : decode prog_8_method_3_code 58 = .ok (.iload_n 2, 1) := by decide +kernel
theorem d4_59 : decode prog_8_method_3_code 59 = .ok (.aload_n 0, 1) := by decide +kernel
theorem d4_60 : decode prog_8_method_3_code 60 = .ok (.getfield 13, 3) := by decide +kernel
theorem d4_63 : decode prog_8_method_3_code 63 = .ok (.arraylength, 1) := by decide +kernel
theorem d4_64 : decode prog_8_method_3_code 64 = .ok (.iadd, 1) := by decide +kernel
theorem d4_65 : decode prog_8_method_3_code 65 = .ok (.invokestatic 56, 3) := by decide +kernel
theorem d4_68 : decode prog_8_method_3_code 68 = .ok (.astore 5, 2) := by decide +kernel
theorem d4_70 : decode prog_8_method_3_code 70 = .ok (.aload_n 0, 1) := by decide +kernel
theorem d4_71 : decode prog_8_method_3_code 71 = .ok (.getfield 13, 3) := by decide +kernel
theorem d4_74 : decode prog_8_method_3_code 74 = .ok (.iconst 0, 1) := by decide +kernel
theorem d4_75 : decode prog_8_method_3_code 75 = .ok (.aload 5, 2) := by decide +kernel
theorem d4_77 : decode prog_8_method_3_code 77 = .ok (.iload_n 2, 1) := by decide +kernel
theorem d4_78 : decode prog_8_method_3_code 78 = .ok (.aload_n 0, 1) := by decide +kernel
theorem d4_79 : decode prog_8_method_3_code 79 = .ok (.getfield 13, 3) := by decide +kernel
theorem d4_82 : decode prog_8_method_3_code 82 = .ok (.arraylength, 1) := by decide +kernel
theorem d4_83 : decode prog_8_method_3_code 83 = .ok (.invokestatic 60, 3) := by decide +kernel
theorem d4_86 : decode prog_8_method_3_code 86 = .ok (.aload 5, 2) := by decide +kernel
theorem d4_88 : decode prog_8_method_3_code 88 = .ok (.areturn, 1) := by decide +kernel
theorem ef_4 (m : MethodId) (x0 : Addr) : entryFrame m #[(.ref x0)] 6 = mkF m 0 #[vR x0, .unset, .unset, .unset, .unset, .unset] [] := by first | (simp [entryFrame, mkF, argsToLocals, Value.category]; done) | rfl
def Q4_1_0 (Z : State) (a0 : Addr) (cc : Int32) (r1 : Addr) (k_r1 : ClassId) (h0 : Heap) (n0 : Nat) (v : Option Value) (h : Heap) (L : List Loc) : Prop := ∃ (b : Addr) (k_b : ClassId), v = some (.ref b) ∧ Fr n0 L ∧ Keep h0 h [] ∧ h0.size ≤ b ∧ Exa Z h b "[B" ∧ Arv Z h b k_b .byte (1 : Int32) [(.int (own_l0 cc))] (.int 0)
set_option maxRecDepth 65536 in
set_option maxHeartbeats 40000000 in
theorem rm4_1_0 (l : Launch) (Z : State) (ar0 : Array Value) (hw : ∀ d ∈ tables_1, d.before ar0 Z = true) (ws : List Jvm.Cond) (a0 : Addr) (cc : Int32) (r1 : Addr) (k_r1 : ClassId) (h0 : Heap) (n0 : Nat) (Z0 : n0 ≤ h0.size) (F_collection_a0 : Fld Z h0 a0 own_CK "collection" "I" (.int cc)) (F_documentKey_a0 : Fld Z h0 a0 own_CK "documentKey" "[B" (.ref r1)) (V_r1 : Arv Z h0 r1 k_r1 .byte (0 : Int32) [] (.int 0)) (hz1 : (own_u1 cc) = (0 : Int64)) :
  MetFree l (⟨own_CK, "write", "()[B"⟩ : MethodName) (head1 (Jvm.Cond.code (⟨own_CK, "write", "()[B"⟩ : MethodName) prog_8_method_3_code 6 (some (.array .byte)) :: ws) ({ frames := 2, cells := 2, slots := 6, locals := 32 } : Room)) (fun a U => a = #[(.ref a0)] ∧ Z.Warmed39 U.vm ∧ U.heap = h0) (fun _ _ _ _ _ => True) (fun _ U o U' => ∃ v L, o = .returned v ∧ Q4_1_0 Z a0 cc r1 k_r1 h0 n0 v U'.heap L ∧ FrameEnd U o U' L ({ frames := 2, cells := 2, slots := 6, locals := 32 } : Room).cells ({ frames := 2, cells := 2, slots := 6, locals := 32 } : Room).slots) := by
 refine MetFree.of_bodySF (plainFor_of_name pn_1) hisR ?_
 intro p e s m args below meth c s₁ Bd hml0 hP hK
 obtain ⟨rfl, hZ, hh⟩ := hP
 have hx := Bd.exec
 have hby := Bd.bytes
 have hml : c.maxLocals = 6 := hml0
 have hown : s.vm.findClass own_CK = some m.cls := by have q := findClass_of_methodNamed Bd.named; exact q
 have hnm := (name_of_methodNamed Bd.named Bd.method).1
 have X0 : Stand p l e ({ frames := 2, cells := 2, slots := 6, locals := 32 } : Room) s m #[(.ref a0)] below meth c s₁ [] 0 0 := Stand.of_body Bd
 have e0 : s₁.heap = h0 := by rw [← hh, Bd.state]; rfl
 have N0 := Fr.nil n0
 have pre0 : own_P p e below s₁ (mkF m 0 #[vR a0, .unset, .unset, .unset, .unset, .unset] []) s₁ (entryFrame m #[(.ref a0)] 6) := fun t k => castTop (ef_4 m a0) k
 have pre149 : own_P p e below s₁ (mkF m 1 #[vR a0, .unset, .unset, .unset, .unset, .unset] [(.int 5)]) s₁ (entryFrame m #[(.ref a0)] 6) := by
  intro t k
  refine pre0 t ?_
  refine XS.iconst X0.here hx rfl (hb hby d4_0) ?_
  exact k
 obtain ⟨T150, h150, k150, X150, e150, E150, A150, C150, st150⟩ := newPE X0 hx hZ (own_w hw 0 rfl) e0 (g := (mkF m 1 #[vR a0, .unset, .unset, .unset, .unset, .unset] [(.int 5)])) rfl (hb hby d4_1) rfl (by decide) (cap := 5) (by decide) (by decide) (by decide) (by decide) (ad := "[B") rfl
 obtain ⟨b150, g150⟩ : ∃ z, z = h0.size := ⟨_, rfl⟩
 rw [← g150] at A150 C150 st150
 have ne_a0_b150 : a0 ≠ b150 := Nat.ne_of_lt (Nat.lt_of_lt_of_le (F_collection_a0).lt (Nat.le_of_eq g150.symm))
 have ne_r1_b150 : r1 ≠ b150 := Nat.ne_of_lt (Nat.lt_of_lt_of_le (V_r1).lt (Nat.le_of_eq g150.symm))
 have g_b150 : n0 ≤ b150 := Nat.le_trans Z0 (Nat.le_of_eq g150.symm)
 have sz_b150 : h0.size ≤ b150 := Nat.le_trans (Keep.refl h0 []).1 (Nat.le_of_eq g150.symm)
 have Z150 : n0 ≤ h150.size := Nat.le_trans Z0 E150.1
 have K150 : Keep h0 h150 [] := (Keep.refl h0 []).ext E150
 have Ff151 : Fld Z h150 a0 own_CK "collection" "I" (.int cc) := (F_collection_a0).ext E150
 have Ff152 : Fld Z h150 a0 own_CK "documentKey" "[B" (.ref r1) := (F_documentKey_a0).ext E150
 have Vf153 : Arv Z h150 r1 k_r1 .byte (0 : Int32) [] (.int 0) := (V_r1).ext E150
 have V_b150 : Arv Z h150 b150 k150 .byte (5 : Int32) [(.int 0), (.int 0), (.int 0), (.int 0), (.int 0)] (.int 0) := (Arv.new A150 (by decide)).pad (pad_rep [] (.int 0) 5)
 have pre154 : own_P p e below T150 (mkF m 3 #[vR a0, .unset, .unset, .unset, .unset, .unset] [(.ref b150)]) s₁ (entryFrame m #[(.ref a0)] 6) := fun t k => pre149 t (st150 t k)
 have pre155 : own_P p e below T150 (mkF m 7 #[vR a0, vR b150, vI 0, .unset, .unset, .unset] [(.ref a0)]) s₁ (entryFrame m #[(.ref a0)] 6) := by
  intro t k
  refine pre154 t ?_
  refine XS.astoreN X150.here hx rfl (hb hby d4_3) rfl rfl (l' := #[vR a0, vR b150, .unset, .unset, .unset, .unset]) rfl ?_
  refine XS.iconst X150.here hx rfl (hb hby d4_4) ?_
  refine XS.istoreN X150.here hx rfl (hb hby d4_5) rfl (l' := #[vR a0, vR b150, vI 0, .unset, .unset, .unset]) rfl ?_
  refine XS.aloadN X150.here hx rfl (hb hby d4_6) rfl rfl ?_
  exact k
 obtain ⟨T156, X156, e156, st156⟩ := getF X150 hx hZ hown (host := "") (Or.inl (own_w hw 15 rfl)) Via.refl e150 Ff151 (g := (mkF m 7 #[vR a0, vR b150, vI 0, .unset, .unset, .unset] [(.ref a0)])) rfl rfl (hb hby d4_7)
 have pre157 : own_P p e below T156 (mkF m 10 #[vR a0, vR b150, vI 0, .unset, .unset, .unset] [(.int cc)]) s₁ (entryFrame m #[(.ref a0)] 6) := fun t k => pre155 t (st156 t k)
 obtain ⟨_, _, ⟨T158, L158, k158, n158⟩, -, X158, ⟨Lc158, hQ158, l158, y158, z158⟩, st158⟩ := Jvm.LawKit.callS X156 hx (y := (⟨"java/lang/Integer", "toUnsignedLong", "(I)J"⟩ : MethodName)) hown (mvT hZ (own_w hw 24 rfl)) (mvT hZ (own_w hw 25 rfl)) (mvT hZ (own_w hw 26 rfl)) (mvT hZ (own_w hw 27 rfl)) (by decide) (backOf (W := 0) (rm5 l Z ar0 hw [] cc h150 n0 Z150) hZ (own_w hw 27 rfl) (own_w hw 26 rfl) (by decide) (by decide)) (g := (mkF m 10 #[vR a0, vR b150, vI 0, .unset, .unset, .unset] [(.int cc)])) rfl (by rw [hml]; rfl) (argsL := [(.int cc)]) (rest := []) (lenOf pd_2 rfl) rfl (by show 2 * 0 + _ ≤ _; exact Nat.le_of_eq rfl) (hb hby d4_10) (fun _ _ => ⟨rfl, e156, (by decide : 1 + 0 ≤ _), (by decide : 5 + 0 ≤ _)⟩)
 dsimp only [Pt.U, Pt.locs, Pt.cells, Pt.slots] at X158 l158 y158 z158 st158 hQ158
 subst l158 y158 z158
 obtain ⟨rfl, N158q, e158⟩ := hQ158
 have N158 := Fr.app N0 N158q
 have pre159 : own_P p e below T158 (mkF m 13 #[vR a0, vR b150, vI 0, .unset, .unset, .unset] [(.long (own_u0 cc))]) s₁ (entryFrame m #[(.ref a0)] 6) := fun t k => pre157 t (st158 t k)
 have pre160 : own_P p e below T158 (mkF m 32 #[vR a0, vR b150, vI 0, vJ (own_u1 cc), .second, vI (own_g0 cc)] [(.int (lcmpW (own_u1 cc) (0 : Int64))), (.int 0), (.ref b150)]) s₁ (entryFrame m #[(.ref a0)] 6) := by
  intro t k
  refine pre159 t ?_
  refine XS.lstoreN X158.here hx rfl (hb hby d4_13) rfl (l' := #[vR a0, vR b150, vI 0, vJ (own_u0 cc), .second, .unset]) rfl ?_
  refine XS.lloadN X158.here hx rfl (hb hby d4_14) rfl ?_
  refine X158.ldc2Long hx hown (mvT hZ (own_w hw 29 rfl)) (g := (mkF m 15 #[vR a0, vR b150, vI 0, vJ (own_u0 cc), .second, .unset] [(.long (own_u0 cc))])) rfl (hb hby d4_15) _ ?_
  refine XS.land X158.here hx rfl (hb hby d4_18) rfl ?_
  refine XS.l2i X158.here hx rfl (hb hby d4_19) rfl ?_
  refine XS.istore X158.here hx rfl (hb hby d4_20) rfl (l' := #[vR a0, vR b150, vI 0, vJ (own_u0 cc), .second, vI (own_g0 cc)]) rfl ?_
  refine XS.lloadN X158.here hx rfl (hb hby d4_22) rfl ?_
  refine XS.bipush X158.here hx rfl (hb hby d4_23) ?_
  refine XS.lushr X158.here hx rfl (hb hby d4_25) rfl ?_
  refine XS.lstoreN X158.here hx rfl (hb hby d4_26) rfl (l' := #[vR a0, vR b150, vI 0, vJ (own_u1 cc), .second, vI (own_g0 cc)]) rfl ?_
  refine XS.aloadN X158.here hx rfl (hb hby d4_27) rfl rfl ?_
  refine XS.iloadN X158.here hx rfl (hb hby d4_28) rfl ?_
  refine XS.lloadN X158.here hx rfl (hb hby d4_29) rfl ?_
  refine XS.lconst X158.here hx rfl (hb hby d4_30) ?_
  refine XS.lcmp X158.here hx rfl (hb hby d4_31) rfl ?_
  exact k
 have hk161 : (own_u1 cc) = (0 : Int64) := hz1
 have pre162 : own_P p e below T158 (mkF m 47 #[vR a0, vR b150, vI 0, vJ (own_u1 cc), .second, vI (own_g0 cc)] [(.int ((own_g0 cc).toInt8.toInt32)), (.int 0), (.ref b150)]) s₁ (entryFrame m #[(.ref a0)] 6) := by
  intro t k
  refine pre160 t ?_
  refine XS.ifNo X158.here hx rfl (hb hby d4_32) rfl ((if0 _ _).trans (teq (own_eqL hk161)).2) ?_
  refine XS.iload X158.here hx rfl (hb hby d4_35) rfl ?_
  refine XS.goto X158.here hx rfl (pc0 := 37) (pc' := 46) rfl (hb hby d4_37) (by decide) (by decide) ?_
  refine XS.i2b X158.here hx rfl (hb hby d4_46) rfl ?_
  exact k
 obtain ⟨cl163, Ar163, q163, S163, M163, H163, G163⟩ := id V_b150
 have hin163 : ¬ ((0 : Int32) < 0 ∨ cl163.slots.size ≤ ((0 : Int32)).toNatClampNeg) := inb_of S163 ⟨by decide, by decide⟩
 obtain ⟨T163, h163, X163, e163, W163, st163⟩ := stB X158 hx hZ e158 Ar163 (j := (0 : Int32)) hin163 (g := (mkF m 47 #[vR a0, vR b150, vI 0, vJ (own_u1 cc), .second, vI (own_g0 cc)] [(.int ((own_g0 cc).toInt8.toInt32)), (.int 0), (.ref b150)])) rfl rfl (hb hby d4_47)
 have Z163 : n0 ≤ h163.size := Nat.le_trans Z150 (Keep.of_wr W163).1
 have K163 : Keep h0 h163 [] := K150.wr W163 (Or.inr sz_b150)
 have N163 := Fr.snoc X163 N158 g_b150
 have Ff164 : Fld Z h163 a0 own_CK "collection" "I" (.int cc) := (Ff151).other W163 (Or.inl ne_a0_b150)
 have Ff165 : Fld Z h163 a0 own_CK "documentKey" "[B" (.ref r1) := (Ff152).other W163 (Or.inl ne_a0_b150)
 have Vf166 : Arv Z h163 r1 k_r1 .byte (0 : Int32) [] (.int 0) := (Vf153).other W163 ne_r1_b150
 have Ef167 : Exa Z h163 b150 "[B" := (C150).wr W163
 have V163 : Arv Z h163 b150 k150 .byte (5 : Int32) [(.int (own_l0 cc)), (.int 0), (.int 0), (.int 0), (.int 0)] (.int 0) := Arv.set Ar163 q163 S163 M163 H163 G163 (fits_nar_byte _) W163 0 rfl (Nat.le_of_ble_eq_true rfl)
 have pre168 : own_P p e below T163 (mkF m 48 #[vR a0, vR b150, vI 0, vJ (own_u1 cc), .second, vI (own_g0 cc)] []) s₁ (entryFrame m #[(.ref a0)] 6) := fun t k => pre162 t (st163 t k)
 have pre169 : own_P p e below T163 (mkF m 60 #[vR a0, vR b150, vI 1, vJ (own_u1 cc), .second, vI (own_g0 cc)] [(.ref a0), (.int 1), (.ref b150)]) s₁ (entryFrame m #[(.ref a0)] 6) := by
  intro t k
  refine pre168 t ?_
  refine XS.iinc X163.here hx rfl (hb hby d4_48) rfl (l' := #[vR a0, vR b150, vI 1, vJ (own_u1 cc), .second, vI (own_g0 cc)]) rfl ?_
  refine XS.lloadN X163.here hx rfl (hb hby d4_51) rfl ?_
  refine XS.lconst X163.here hx rfl (hb hby d4_52) ?_
  refine XS.lcmp X163.here hx rfl (hb hby d4_53) rfl ?_
  refine XS.ifNo X163.here hx rfl (hb hby d4_54) rfl ((if0 _ _).trans (teq (own_eqL hk161)).2) ?_
  refine XS.aloadN X163.here hx rfl (hb hby d4_57) rfl rfl ?_
  refine XS.iloadN X163.here hx rfl (hb hby d4_58) rfl ?_
  refine XS.aloadN X163.here hx rfl (hb hby d4_59) rfl rfl ?_
  exact k
 obtain ⟨T170, X170, e170, st170⟩ := getF X163 hx hZ hown (host := "") (Or.inl (own_w hw 17 rfl)) Via.refl e163 Ff165 (g := (mkF m 60 #[vR a0, vR b150, vI 1, vJ (own_u1 cc), .second, vI (own_g0 cc)] [(.ref a0), (.int 1), (.ref b150)])) rfl rfl (hb hby d4_60)
 have pre171 : own_P p e below T170 (mkF m 63 #[vR a0, vR b150, vI 1, vJ (own_u1 cc), .second, vI (own_g0 cc)] [(.ref r1), (.int 1), (.ref b150)]) s₁ (entryFrame m #[(.ref a0)] 6) := fun t k => pre169 t (st170 t k)
 obtain ⟨cl172, Ar172, q172, S172, M172, H172, G172⟩ := id Vf166
 have pre173 : own_P p e below T170 (mkF m 65 #[vR a0, vR b150, vI 1, vJ (own_u1 cc), .second, vI (own_g0 cc)] [(.int 1), (.ref b150)]) s₁ (entryFrame m #[(.ref a0)] 6) := by
  intro t k
  refine pre171 t ?_
  refine X170.arraylength hx (by rw [e170]; exact Ar172.1) (State.isArrayOf_alike hZ.alike Ar172.2.1) (g := (mkF m 63 #[vR a0, vR b150, vI 1, vJ (own_u1 cc), .second, vI (own_g0 cc)] [(.ref r1), (.int 1), (.ref b150)])) rfl rfl (hb hby d4_63) _ ?_
  rw [len_of S172 M172]
  refine XS.iadd X170.here hx rfl (hb hby d4_64) rfl ?_
  exact k
 obtain ⟨_, _, ⟨T174, L174, k174, n174⟩, -, X174, ⟨Lc174, hQ174, l174, y174, z174⟩, st174⟩ := Jvm.LawKit.callS X170 hx (y := (⟨"java/util/Arrays", "copyOf", "([BI)[B"⟩ : MethodName)) hown (mvT hZ (own_w hw 30 rfl)) (mvT hZ (own_w hw 31 rfl)) (mvT hZ (own_w hw 32 rfl)) (mvT hZ (own_w hw 33 rfl)) (by decide) (backOf (W := 0) (rm6_1 l Z ar0 hw [] b150 k150 (own_l0 cc) (0 : Int32) (0 : Int32) (0 : Int32) (0 : Int32) h163 n0 Z163 V163 Ef167) hZ (own_w hw 33 rfl) (own_w hw 32 rfl) (by decide) (by decide)) (g := (mkF m 65 #[vR a0, vR b150, vI 1, vJ (own_u1 cc), .second, vI (own_g0 cc)] [(.int 1), (.ref b150)])) rfl (by rw [hml]; rfl) (argsL := [(.ref b150), (.int 1)]) (rest := []) (lenOf pd_3 rfl) rfl (by show 2 * 0 + _ ≤ _; exact Nat.le_of_eq rfl) (hb hby d4_65) (fun _ _ => ⟨rfl, e170, (by decide : 1 + 1 ≤ _), (by decide : 5 + 1 ≤ _)⟩)
 dsimp only [Pt.U, Pt.locs, Pt.cells, Pt.slots] at X174 l174 y174 z174 st174 hQ174
 subst l174 y174 z174
 obtain ⟨h174, e174⟩ : ∃ h, T174.heap = h := ⟨_, rfl⟩
 rw [e174] at hQ174
 obtain ⟨b174, kb174, rfl, N174q, K174q, y_b174, Ob174_0, Ob174_1⟩ := hQ174
 have N174 := Fr.app N163 N174q
 have ne_a0_b174 : a0 ≠ b174 := Nat.ne_of_lt (Nat.lt_of_lt_of_le (Ff164).lt y_b174)
 have ne_r1_b174 : r1 ≠ b174 := Nat.ne_of_lt (Nat.lt_of_lt_of_le (Vf166).lt y_b174)
 have ne_b150_b174 : b150 ≠ b174 := Nat.ne_of_lt (Nat.lt_of_lt_of_le (Ef167).lt y_b174)
 have g_b174 : n0 ≤ b174 := Nat.le_trans Z163 y_b174
 have sz_b174 : h0.size ≤ b174 := Nat.le_trans K163.1 y_b174
 have Z174 : n0 ≤ h174.size := Nat.le_trans Z163 K174q.1
 have K174 : Keep h0 h174 [] := K163.trans K174q (fun x hx => absurd hx List.not_mem_nil)
 have Ff175 : Fld Z h174 a0 own_CK "collection" "I" (.int cc) := (Ff164).keep K174q List.not_mem_nil
 have Ff176 : Fld Z h174 a0 own_CK "documentKey" "[B" (.ref r1) := (Ff165).keep K174q List.not_mem_nil
 have Vf177 : Arv Z h174 r1 k_r1 .byte (0 : Int32) [] (.int 0) := (Vf166).keep K174q List.not_mem_nil
 have Ef178 : Exa Z h174 b150 "[B" := (Ef167).keep K174q
 have Vf179 : Arv Z h174 b150 k150 .byte (5 : Int32) [(.int (own_l0 cc)), (.int 0), (.int 0), (.int 0), (.int 0)] (.int 0) := (V163).keep K174q List.not_mem_nil
 have pre180 : own_P p e below T174 (mkF m 68 #[vR a0, vR b150, vI 1, vJ (own_u1 cc), .second, vI (own_g0 cc)] [(.ref b174)]) s₁ (entryFrame m #[(.ref a0)] 6) := fun t k => pre173 t (st174 t k)
 have pre181 : own_P p e below T174 (mkF m 71 #[vR a0, vR b150, vI 1, vJ (own_u1 cc), .second, vR b174] [(.ref a0)]) s₁ (entryFrame m #[(.ref a0)] 6) := by
  intro t k
  refine pre180 t ?_
  refine XS.astore X174.here hx rfl (hb hby d4_68) rfl rfl (l' := #[vR a0, vR b150, vI 1, vJ (own_u1 cc), .second, vR b174]) rfl ?_
  refine XS.aloadN X174.here hx rfl (hb hby d4_70) rfl rfl ?_
  exact k
 obtain ⟨T182, X182, e182, st182⟩ := getF X174 hx hZ hown (host := "") (Or.inl (own_w hw 17 rfl)) Via.refl e174 Ff176 (g := (mkF m 71 #[vR a0, vR b150, vI 1, vJ (own_u1 cc), .second, vR b174] [(.ref a0)])) rfl rfl (hb hby d4_71)
 have pre183 : own_P p e below T182 (mkF m 74 #[vR a0, vR b150, vI 1, vJ (own_u1 cc), .second, vR b174] [(.ref r1)]) s₁ (entryFrame m #[(.ref a0)] 6) := fun t k => pre181 t (st182 t k)
 have pre184 : own_P p e below T182 (mkF m 79 #[vR a0, vR b150, vI 1, vJ (own_u1 cc), .second, vR b174] [(.ref a0), (.int 1), (.ref b174), (.int 0), (.ref r1)]) s₁ (entryFrame m #[(.ref a0)] 6) := by
  intro t k
  refine pre183 t ?_
  refine XS.iconst X182.here hx rfl (hb hby d4_74) ?_
  refine XS.aload X182.here hx rfl (hb hby d4_75) rfl rfl ?_
  refine XS.iloadN X182.here hx rfl (hb hby d4_77) rfl ?_
  refine XS.aloadN X182.here hx rfl (hb hby d4_78) rfl rfl ?_
  exact k
 obtain ⟨T185, X185, e185, st185⟩ := getF X182 hx hZ hown (host := "") (Or.inl (own_w hw 17 rfl)) Via.refl e182 Ff176 (g := (mkF m 79 #[vR a0, vR b150, vI 1, vJ (own_u1 cc), .second, vR b174] [(.ref a0), (.int 1), (.ref b174), (.int 0), (.ref r1)])) rfl rfl (hb hby d4_79)
 have pre186 : own_P p e below T185 (mkF m 82 #[vR a0, vR b150, vI 1, vJ (own_u1 cc), .second, vR b174] [(.ref r1), (.int 1), (.ref b174), (.int 0), (.ref r1)]) s₁ (entryFrame m #[(.ref a0)] 6) := fun t k => pre184 t (st185 t k)
 obtain ⟨cl187, Ar187, q187, S187, M187, H187, G187⟩ := id Vf177
 have pre188 : own_P p e below T185 (mkF m 83 #[vR a0, vR b150, vI 1, vJ (own_u1 cc), .second, vR b174] [(.int 0), (.int 1), (.ref b174), (.int 0), (.ref r1)]) s₁ (entryFrame m #[(.ref a0)] 6) := by
  intro t k
  refine pre186 t ?_
  refine X185.arraylength hx (by rw [e185]; exact Ar187.1) (State.isArrayOf_alike hZ.alike Ar187.2.1) (g := (mkF m 82 #[vR a0, vR b150, vI 1, vJ (own_u1 cc), .second, vR b174] [(.ref r1), (.int 1), (.ref b174), (.int 0), (.ref r1)])) rfl rfl (hb hby d4_82) _ ?_
  rw [len_of S187 M187]
  exact k
 obtain ⟨T189, h189, L189, X189, e189, N189, K189q, V189q, st189⟩ := cpA X185 hx hZ hown (own_w hw 42 rfl) (own_w hw 41 rfl) (own_w hw 39 rfl) (own_w hw 40 rfl) e185 Vf177 Ob174_1 (Or.inl ⟨rfl, rfl⟩) (by decide) (by decide) (by decide) (by decide) (by decide) (us := []) rfl (Nat.le_of_ble_eq_true rfl) N174 g_b174 (g := (mkF m 83 #[vR a0, vR b150, vI 1, vJ (own_u1 cc), .second, vR b174] [(.int 0), (.int 1), (.ref b174), (.int 0), (.ref r1)])) rfl (by rw [hml]; rfl) rfl (hb hby d4_83) (by decide) (W := 0) (by show 2 * 0 + _ ≤ _; exact Nat.le_of_eq rfl) (by decide)
 have Z189 : n0 ≤ h189.size := Nat.le_trans Z174 K189q.1
 have K189 : Keep h0 h189 [] := K174.trans K189q (fun x hx => by cases List.mem_singleton.mp hx; exact Or.inr sz_b174)
 have Ff190 : Fld Z h189 a0 own_CK "collection" "I" (.int cc) := (Ff175).keep K189q (fun q => absurd (List.mem_singleton.mp q) ne_a0_b174)
 have Ff191 : Fld Z h189 a0 own_CK "documentKey" "[B" (.ref r1) := (Ff176).keep K189q (fun q => absurd (List.mem_singleton.mp q) ne_a0_b174)
 have Vf192 : Arv Z h189 r1 k_r1 .byte (0 : Int32) [] (.int 0) := (Vf177).keep K189q (fun q => absurd (List.mem_singleton.mp q) ne_r1_b174)
 have Ef193 : Exa Z h189 b150 "[B" := (Ef178).keep K189q
 have Vf194 : Arv Z h189 b150 k150 .byte (5 : Int32) [(.int (own_l0 cc)), (.int 0), (.int 0), (.int 0), (.int 0)] (.int 0) := (Vf179).keep K189q (fun q => absurd (List.mem_singleton.mp q) ne_b150_b174)
 have Ef195 : Exa Z h189 b174 "[B" := (Ob174_0).keep K189q
 have V189 : Arv Z h189 b174 kb174 .byte (1 : Int32) [(.int (own_l0 cc))] (.int 0) := V189q
 have pre196 : own_P p e below T189 (mkF m 86 #[vR a0, vR b150, vI 1, vJ (own_u1 cc), .second, vR b174] []) s₁ (entryFrame m #[(.ref a0)] 6) := fun t k => pre188 t (st189 t k)
 obtain ⟨fs, hr, hrun, hended, hW, hsame⟩ := X189.leave (v := some (.ref b174)) (fun h => by rw [Bd.returns] at h; cases h)
 refine ⟨_, _, pre196 _ ?_, hrun, hended, _, _, rfl, ?_, ⟨_, rfl⟩, hW, hsame.mono (by decide) (by decide)⟩
 ·
  refine XS.aload X189.here hx rfl (hb hby d4_86) rfl rfl ?_
  exact retOut X189 hx Bd.returns rfl (Or.inr (Or.inr (Or.inr (Or.inr ⟨rfl, rfl, rfl⟩)))) (hb hby d4_88) hr
 ·
  show Q4_1_0 Z a0 cc r1 k_r1 h0 n0 _ T189.heap _
  rw [e189]
  exact ⟨b174, kb174, rfl, N189, K189, sz_b174, Ef195, V189⟩
def Q4_1_1 (Z : State) (a0 : Addr) (cc : Int32) (r1 : Addr) (k_r1 : ClassId) (y0 : Int32) (h0 : Heap) (n0 : Nat) (v : Option Value) (h : Heap) (L : List Loc) : Prop := ∃ (b : Addr) (k_b : ClassId), v = some (.ref b) ∧ Fr n0 L ∧ Keep h0 h [] ∧ h0.size ≤ b ∧ Exa Z h b "[B" ∧ Arv Z h b k_b .byte (2 : Int32) [(.int (own_l0 cc)), (.int y0)] (.int 0)
set_option maxRecDepth 65536 in
set_option maxHeartbeats 40000000 in
theorem rm4_1_1 (l : Launch) (Z : State) (ar0 : Array Value) (hw : ∀ d ∈ tables_1, d.before ar0 Z = true) (ws : List Jvm.Cond) (a0 : Addr) (cc : Int32) (r1 : Addr) (k_r1 : ClassId) (y0 : Int32) (h0 : Heap) (n0 : Nat) (Z0 : n0 ≤ h0.size) (F_collection_a0 : Fld Z h0 a0 own_CK "collection" "I" (.int cc)) (F_documentKey_a0 : Fld Z h0 a0 own_CK "documentKey" "[B" (.ref r1)) (V_r1 : Arv Z h0 r1 k_r1 .byte (1 : Int32) [(.int y0)] (.int 0)) (hz1 : (own_u1 cc) = (0 : Int64)) :
  MetFree l (⟨own_CK, "write", "()[B"⟩ : MethodName) (head1 (Jvm.Cond.code (⟨own_CK, "write", "()[B"⟩ : MethodName) prog_8_method_3_code 6 (some (.array .byte)) :: ws) ({ frames := 2, cells := 2, slots := 7, locals := 32 } : Room)) (fun a U => a = #[(.ref a0)] ∧ Z.Warmed39 U.vm ∧ U.heap = h0) (fun _ _ _ _ _ => True) (fun _ U o U' => ∃ v L, o = .returned v ∧ Q4_1_1 Z a0 cc r1 k_r1 y0 h0 n0 v U'.heap L ∧ FrameEnd U o U' L ({ frames := 2, cells := 2, slots := 7, locals := 32 } : Room).cells ({ frames := 2, cells := 2, slots := 7, locals := 32 } : Room).slots) := by
 refine MetFree.of_bodySF (plainFor_of_name pn_1) hisR ?_
 intro p e s m args below meth c s₁ Bd hml0 hP hK
 obtain ⟨rfl, hZ, hh⟩ := hP
 have hx := Bd.exec
 have hby := Bd.bytes
 have hml : c.maxLocals = 6 := hml0
 have hown : s.vm.findClass own_CK = some m.cls := by have q := findClass_of_methodNamed Bd.named; exact q
 have hnm := (name_of_methodNamed Bd.named Bd.method).1
 have X0 : Stand p l e ({ frames := 2, cells := 2, slots := 7, locals := 32 } : Room) s m #[(.ref a0)] below meth c s₁ [] 0 0 := Stand.of_body Bd
 have e0 : s₁.heap = h0 := by rw [← hh, Bd.state]; rfl
 have N0 := Fr.nil n0
 have pre0 : own_P p e below s₁ (mkF m 0 #[vR a0, .unset, .unset, .unset, .unset, .unset] []) s₁ (entryFrame m #[(.ref a0)] 6) := fun t k => castTop (ef_4 m a0) k
 have pre197 : own_P p e below s₁ (mkF m 1 #[vR a0, .unset, .unset, .unset, .unset, .unset] [(.int 5)]) s₁ (entryFrame m #[(.ref a0)] 6) := by
  intro t k
  refine pre0 t ?_
  refine XS.iconst X0.here hx rfl (hb hby d4_0) ?_
  exact k
 obtain ⟨T198, h198, k198, X198, e198, E198, A198, C198, st198⟩ := newPE X0 hx hZ (own_w hw 0 rfl) e0 (g := (mkF m 1 #[vR a0, .unset, .unset, .unset, .unset, .unset] [(.int 5)])) rfl (hb hby d4_1) rfl (by decide) (cap := 5) (by decide) (by decide) (by decide) (by decide) (ad := "[B") rfl
 obtain ⟨b198, g198⟩ : ∃ z, z = h0.size := ⟨_, rfl⟩
 rw [← g198] at A198 C198 st198
 have ne_a0_b198 : a0 ≠ b198 := Nat.ne_of_lt (Nat.lt_of_lt_of_le (F_collection_a0).lt (Nat.le_of_eq g198.symm))
 have ne_r1_b198 : r1 ≠ b198 := Nat.ne_of_lt (Nat.lt_of_lt_of_le (V_r1).lt (Nat.le_of_eq g198.symm))
 have g_b198 : n0 ≤ b198 := Nat.le_trans Z0 (Nat.le_of_eq g198.symm)
 have sz_b198 : h0.size ≤ b198 := Nat.le_trans (Keep.refl h0 []).1 (Nat.le_of_eq g198.symm)
 have Z198 : n0 ≤ h198.size := Nat.le_trans Z0 E198.1
 have K198 : Keep h0 h198 [] := (Keep.refl h0 []).ext E198
 have Ff199 : Fld Z h198 a0 own_CK "collection" "I" (.int cc) := (F_collection_a0).ext E198
 have Ff200 : Fld Z h198 a0 own_CK "documentKey" "[B" (.ref r1) := (F_documentKey_a0).ext E198
 have Vf201 : Arv Z h198 r1 k_r1 .byte (1 : Int32) [(.int y0)] (.int 0) := (V_r1).ext E198
 have V_b198 : Arv Z h198 b198 k198 .byte (5 : Int32) [(.int 0), (.int 0), (.int 0), (.int 0), (.int 0)] (.int 0) := (Arv.new A198 (by decide)).pad (pad_rep [] (.int 0) 5)
 have pre202 : own_P p e below T198 (mkF m 3 #[vR a0, .unset, .unset, .unset, .unset, .unset] [(.ref b198)]) s₁ (entryFrame m #[(.ref a0)] 6) := fun t k => pre197 t (st198 t k)
 have pre203 : own_P p e below T198 (mkF m 7 #[vR a0, vR b198, vI 0, .unset, .unset, .unset] [(.ref a0)]) s₁ (entryFrame m #[(.ref a0)] 6) := by
  intro t k
  refine pre202 t ?_
  refine XS.astoreN X198.here hx rfl (hb hby d4_3) rfl rfl (l' := #[vR a0, vR b198, .unset, .unset, .unset, .unset]) rfl ?_
  refine XS.iconst X198.here hx rfl (hb hby d4_4) ?_
  refine XS.istoreN X198.here hx rfl (hb hby d4_5) rfl (l' := #[vR a0, vR b198, vI 0, .unset, .unset, .unset]) rfl ?_
  refine XS.aloadN X198.here hx rfl (hb hby d4_6) rfl rfl ?_
  exact k
 obtain ⟨T204, X204, e204, st204⟩ := getF X198 hx hZ hown (host := "") (Or.inl (own_w hw 15 rfl)) Via.refl e198 Ff199 (g := (mkF m 7 #[vR a0, vR b198, vI 0, .unset, .unset, .unset] [(.ref a0)])) rfl rfl (hb hby d4_7)
 have pre205 : own_P p e below T204 (mkF m 10 #[vR a0, vR b198, vI 0, .unset, .unset, .unset] [(.int cc)]) s₁ (entryFrame m #[(.ref a0)] 6) := fun t k => pre203 t (st204 t k)
 obtain ⟨_, _, ⟨T206, L206, k206, n206⟩, -, X206, ⟨Lc206, hQ206, l206, y206, z206⟩, st206⟩ := Jvm.LawKit.callS X204 hx (y := (⟨"java/lang/Integer", "toUnsignedLong", "(I)J"⟩ : MethodName)) hown (mvT hZ (own_w hw 24 rfl)) (mvT hZ (own_w hw 25 rfl)) (mvT hZ (own_w hw 26 rfl)) (mvT hZ (own_w hw 27 rfl)) (by decide) (backOf (W := 0) (rm5 l Z ar0 hw [] cc h198 n0 Z198) hZ (own_w hw 27 rfl) (own_w hw 26 rfl) (by decide) (by decide)) (g := (mkF m 10 #[vR a0, vR b198, vI 0, .unset, .unset, .unset] [(.int cc)])) rfl (by rw [hml]; rfl) (argsL := [(.int cc)]) (rest := []) (lenOf pd_2 rfl) rfl (by show 2 * 0 + _ ≤ _; exact Nat.le_of_eq rfl) (hb hby d4_10) (fun _ _ => ⟨rfl, e204, (by decide : 1 + 0 ≤ _), (by decide : 5 + 0 ≤ _)⟩)
 dsimp only [Pt.U, Pt.locs, Pt.cells, Pt.slots] at X206 l206 y206 z206 st206 hQ206
 subst l206 y206 z206
 obtain ⟨rfl, N206q, e206⟩ := hQ206
 have N206 := Fr.app N0 N206q
 have pre207 : own_P p e below T206 (mkF m 13 #[vR a0, vR b198, vI 0, .unset, .unset, .unset] [(.long (own_u0 cc))]) s₁ (entryFrame m #[(.ref a0)] 6) := fun t k => pre205 t (st206 t k)
 have pre208 : own_P p e below T206 (mkF m 32 #[vR a0, vR b198, vI 0, vJ (own_u1 cc), .second, vI (own_g0 cc)] [(.int (lcmpW (own_u1 cc) (0 : Int64))), (.int 0), (.ref b198)]) s₁ (entryFrame m #[(.ref a0)] 6) := by
  intro t k
  refine pre207 t ?_
  refine XS.lstoreN X206.here hx rfl (hb hby d4_13) rfl (l' := #[vR a0, vR b198, vI 0, vJ (own_u0 cc), .second, .unset]) rfl ?_
  refine XS.lloadN X206.here hx rfl (hb hby d4_14) rfl ?_
  refine X206.ldc2Long hx hown (mvT hZ (own_w hw 29 rfl)) (g := (mkF m 15 #[vR a0, vR b198, vI 0, vJ (own_u0 cc), .second, .unset] [(.long (own_u0 cc))])) rfl (hb hby d4_15) _ ?_
  refine XS.land X206.here hx rfl (hb hby d4_18) rfl ?_
  refine XS.l2i X206.here hx rfl (hb hby d4_19) rfl ?_
  refine XS.istore X206.here hx rfl (hb hby d4_20) rfl (l' := #[vR a0, vR b198, vI 0, vJ (own_u0 cc), .second, vI (own_g0 cc)]) rfl ?_
  refine XS.lloadN X206.here hx rfl (hb hby d4_22) rfl ?_
  refine XS.bipush X206.here hx rfl (hb hby d4_23) ?_
  refine XS.lushr X206.here hx rfl (hb hby d4_25) rfl ?_
  refine XS.lstoreN X206.here hx rfl (hb hby d4_26) rfl (l' := #[vR a0, vR b198, vI 0, vJ (own_u1 cc), .second, vI (own_g0 cc)]) rfl ?_
  refine XS.aloadN X206.here hx rfl (hb hby d4_27) rfl rfl ?_
  refine XS.iloadN X206.here hx rfl (hb hby d4_28) rfl ?_
  refine XS.lloadN X206.here hx rfl (hb hby d4_29) rfl ?_
  refine XS.lconst X206.here hx rfl (hb hby d4_30) ?_
  refine XS.lcmp X206.here hx rfl (hb hby d4_31) rfl ?_
  exact k
 have hk209 : (own_u1 cc) = (0 : Int64) := hz1
 have pre210 : own_P p e below T206 (mkF m 47 #[vR a0, vR b198, vI 0, vJ (own_u1 cc), .second, vI (own_g0 cc)] [(.int ((own_g0 cc).toInt8.toInt32)), (.int 0), (.ref b198)]) s₁ (entryFrame m #[(.ref a0)] 6) := by
  intro t k
  refine pre208 t ?_
  refine XS.ifNo X206.here hx rfl (hb hby d4_32) rfl ((if0 _ _).trans (teq (own_eqL hk209)).2) ?_
  refine XS.iload X206.here hx rfl (hb hby d4_35) rfl ?_
  refine XS.goto X206.here hx rfl (pc0 := 37) (pc' := 46) rfl (hb hby d4_37) (by decide) (by decide) ?_
  refine XS.i2b X206.here hx rfl (hb hby d4_46) rfl ?_
  exact k
 obtain ⟨cl211, Ar211, q211, S211, M211, H211, G211⟩ := id V_b198
 have hin211 : ¬ ((0 : Int32) < 0 ∨ cl211.slots.size ≤ ((0 : Int32)).toNatClampNeg) := inb_of S211 ⟨by decide, by decide⟩
 obtain ⟨T211, h211, X211, e211, W211, st211⟩ := stB X206 hx hZ e206 Ar211 (j := (0 : Int32)) hin211 (g := (mkF m 47 #[vR a0, vR b198, vI 0, vJ (own_u1 cc), .second, vI (own_g0 cc)] [(.int ((own_g0 cc).toInt8.toInt32)), (.int 0), (.ref b198)])) rfl rfl (hb hby d4_47)
 have Z211 : n0 ≤ h211.size := Nat.le_trans Z198 (Keep.of_wr W211).1
 have K211 : Keep h0 h211 [] := K198.wr W211 (Or.inr sz_b198)
 have N211 := Fr.snoc X211 N206 g_b198
 have Ff212 : Fld Z h211 a0 own_CK "collection" "I" (.int cc) := (Ff199).other W211 (Or.inl ne_a0_b198)
 have Ff213 : Fld Z h211 a0 own_CK "documentKey" "[B" (.ref r1) := (Ff200).other W211 (Or.inl ne_a0_b198)
 have Vf214 : Arv Z h211 r1 k_r1 .byte (1 : Int32) [(.int y0)] (.int 0) := (Vf201).other W211 ne_r1_b198
 have Ef215 : Exa Z h211 b198 "[B" := (C198).wr W211
 have V211 : Arv Z h211 b198 k198 .byte (5 : Int32) [(.int (own_l0 cc)), (.int 0), (.int 0), (.int 0), (.int 0)] (.int 0) := Arv.set Ar211 q211 S211 M211 H211 G211 (fits_nar_byte _) W211 0 rfl (Nat.le_of_ble_eq_true rfl)
 have pre216 : own_P p e below T211 (mkF m 48 #[vR a0, vR b198, vI 0, vJ (own_u1 cc), .second, vI (own_g0 cc)] []) s₁ (entryFrame m #[(.ref a0)] 6) := fun t k => pre210 t (st211 t k)
 have pre217 : own_P p e below T211 (mkF m 60 #[vR a0, vR b198, vI 1, vJ (own_u1 cc), .second, vI (own_g0 cc)] [(.ref a0), (.int 1), (.ref b198)]) s₁ (entryFrame m #[(.ref a0)] 6) := by
  intro t k
  refine pre216 t ?_
  refine XS.iinc X211.here hx rfl (hb hby d4_48) rfl (l' := #[vR a0, vR b198, vI 1, vJ (own_u1 cc), .second, vI (own_g0 cc)]) rfl ?_
  refine XS.lloadN X211.here hx rfl (hb hby d4_51) rfl ?_
  refine XS.lconst X211.here hx rfl (hb hby d4_52) ?_
  refine XS.lcmp X211.here hx rfl (hb hby d4_53) rfl ?_
  refine XS.ifNo X211.here hx rfl (hb hby d4_54) rfl ((if0 _ _).trans (teq (own_eqL hk209)).2) ?_
  refine XS.aloadN X211.here hx rfl (hb hby d4_57) rfl rfl ?_
  refine XS.iloadN X211.here hx rfl (hb hby d4_58) rfl ?_
  refine XS.aloadN X211.here hx rfl (hb hby d4_59) rfl rfl ?_
  exact k
 obtain ⟨T218, X218, e218, st218⟩ := getF X211 hx hZ hown (host := "") (Or.inl (own_w hw 17 rfl)) Via.refl e211 Ff213 (g := (mkF m 60 #[vR a0, vR b198, vI 1, vJ (own_u1 cc), .second, vI (own_g0 cc)] [(.ref a0), (.int 1), (.ref b198)])) rfl rfl (hb hby d4_60)
 have pre219 : own_P p e below T218 (mkF m 63 #[vR a0, vR b198, vI 1, vJ (own_u1 cc), .second, vI (own_g0 cc)] [(.ref r1), (.int 1), (.ref b198)]) s₁ (entryFrame m #[(.ref a0)] 6) := fun t k => pre217 t (st218 t k)
 obtain ⟨cl220, Ar220, q220, S220, M220, H220, G220⟩ := id Vf214
 have pre221 : own_P p e below T218 (mkF m 65 #[vR a0, vR b198, vI 1, vJ (own_u1 cc), .second, vI (own_g0 cc)] [(.int 2), (.ref b198)]) s₁ (entryFrame m #[(.ref a0)] 6) := by
  intro t k
  refine pre219 t ?_
  refine X218.arraylength hx (by rw [e218]; exact Ar220.1) (State.isArrayOf_alike hZ.alike Ar220.2.1) (g := (mkF m 63 #[vR a0, vR b198, vI 1, vJ (own_u1 cc), .second, vI (own_g0 cc)] [(.ref r1), (.int 1), (.ref b198)])) rfl rfl (hb hby d4_63) _ ?_
  rw [len_of S220 M220]
  refine XS.iadd X218.here hx rfl (hb hby d4_64) rfl ?_
  exact k
 obtain ⟨_, _, ⟨T222, L222, k222, n222⟩, -, X222, ⟨Lc222, hQ222, l222, y222, z222⟩, st222⟩ := Jvm.LawKit.callS X218 hx (y := (⟨"java/util/Arrays", "copyOf", "([BI)[B"⟩ : MethodName)) hown (mvT hZ (own_w hw 30 rfl)) (mvT hZ (own_w hw 31 rfl)) (mvT hZ (own_w hw 32 rfl)) (mvT hZ (own_w hw 33 rfl)) (by decide) (backOf (W := 0) (rm6_2 l Z ar0 hw [] b198 k198 (own_l0 cc) (0 : Int32) (0 : Int32) (0 : Int32) (0 : Int32) h211 n0 Z211 V211 Ef215) hZ (own_w hw 33 rfl) (own_w hw 32 rfl) (by decide) (by decide)) (g := (mkF m 65 #[vR a0, vR b198, vI 1, vJ (own_u1 cc), .second, vI (own_g0 cc)] [(.int 2), (.ref b198)])) rfl (by rw [hml]; rfl) (argsL := [(.ref b198), (.int 2)]) (rest := []) (lenOf pd_3 rfl) rfl (by show 2 * 0 + _ ≤ _; exact Nat.le_of_eq rfl) (hb hby d4_65) (fun _ _ => ⟨rfl, e218, (by decide : 1 + 1 ≤ _), (by decide : 5 + 2 ≤ _)⟩)
 dsimp only [Pt.U, Pt.locs, Pt.cells, Pt.slots] at X222 l222 y222 z222 st222 hQ222
 subst l222 y222 z222
 obtain ⟨h222, e222⟩ : ∃ h, T222.heap = h := ⟨_, rfl⟩
 rw [e222] at hQ222
 obtain ⟨b222, kb222, rfl, N222q, K222q, y_b222, Ob222_0, Ob222_1⟩ := hQ222
 have N222 := Fr.app N211 N222q
 have ne_a0_b222 : a0 ≠ b222 := Nat.ne_of_lt (Nat.lt_of_lt_of_le (Ff212).lt y_b222)
 have ne_r1_b222 : r1 ≠ b222 := Nat.ne_of_lt (Nat.lt_of_lt_of_le (Vf214).lt y_b222)
 have ne_b198_b222 : b198 ≠ b222 := Nat.ne_of_lt (Nat.lt_of_lt_of_le (Ef215).lt y_b222)
 have g_b222 : n0 ≤ b222 := Nat.le_trans Z211 y_b222
 have sz_b222 : h0.size ≤ b222 := Nat.le_trans K211.1 y_b222
 have Z222 : n0 ≤ h222.size := Nat.le_trans Z211 K222q.1
 have K222 : Keep h0 h222 [] := K211.trans K222q (fun x hx => absurd hx List.not_mem_nil)
 have Ff223 : Fld Z h222 a0 own_CK "collection" "I" (.int cc) := (Ff212).keep K222q List.not_mem_nil
 have Ff224 : Fld Z h222 a0 own_CK "documentKey" "[B" (.ref r1) := (Ff213).keep K222q List.not_mem_nil
 have Vf225 : Arv Z h222 r1 k_r1 .byte (1 : Int32) [(.int y0)] (.int 0) := (Vf214).keep K222q List.not_mem_nil
 have Ef226 : Exa Z h222 b198 "[B" := (Ef215).keep K222q
 have Vf227 : Arv Z h222 b198 k198 .byte (5 : Int32) [(.int (own_l0 cc)), (.int 0), (.int 0), (.int 0), (.int 0)] (.int 0) := (V211).keep K222q List.not_mem_nil
 have pre228 : own_P p e below T222 (mkF m 68 #[vR a0, vR b198, vI 1, vJ (own_u1 cc), .second, vI (own_g0 cc)] [(.ref b222)]) s₁ (entryFrame m #[(.ref a0)] 6) := fun t k => pre221 t (st222 t k)
 have pre229 : own_P p e below T222 (mkF m 71 #[vR a0, vR b198, vI 1, vJ (own_u1 cc), .second, vR b222] [(.ref a0)]) s₁ (entryFrame m #[(.ref a0)] 6) := by
  intro t k
  refine pre228 t ?_
  refine XS.astore X222.here hx rfl (hb hby d4_68) rfl rfl (l' := #[vR a0, vR b198, vI 1, vJ (own_u1 cc), .second, vR b222]) rfl ?_
  refine XS.aloadN X222.here hx rfl (hb hby d4_70) rfl rfl ?_
  exact k
 obtain ⟨T230, X230, e230, st230⟩ := getF X222 hx hZ hown (host := "") (Or.inl (own_w hw 17 rfl)) Via.refl e222 Ff224 (g := (mkF m 71 #[vR a0, vR b198, vI 1, vJ (own_u1 cc), .second, vR b222] [(.ref a0)])) rfl rfl (hb hby d4_71)
 have pre231 : own_P p e below T230 (mkF m 74 #[vR a0, vR b198, vI 1, vJ (own_u1 cc), .second, vR b222] [(.ref r1)]) s₁ (entryFrame m #[(.ref a0)] 6) := fun t k => pre229 t (st230 t k)
 have pre232 : own_P p e below T230 (mkF m 79 #[vR a0, vR b198, vI 1, vJ (own_u1 cc), .second, vR b222] [(.ref a0), (.int 1), (.ref b222), (.int 0), (.ref r1)]) s₁ (entryFrame m #[(.ref a0)] 6) := by
  intro t k
  refine pre231 t ?_
  refine XS.iconst X230.here hx rfl (hb hby d4_74) ?_
  refine XS.aload X230.here hx rfl (hb hby d4_75) rfl rfl ?_
  refine XS.iloadN X230.here hx rfl (hb hby d4_77) rfl ?_
  refine XS.aloadN X230.here hx rfl (hb hby d4_78) rfl rfl ?_
  exact k
 obtain ⟨T233, X233, e233, st233⟩ := getF X230 hx hZ hown (host := "") (Or.inl (own_w hw 17 rfl)) Via.refl e230 Ff224 (g := (mkF m 79 #[vR a0, vR b198, vI 1, vJ (own_u1 cc), .second, vR b222] [(.ref a0), (.int 1), (.ref b222), (.int 0), (.ref r1)])) rfl rfl (hb hby d4_79)
 have pre234 : own_P p e below T233 (mkF m 82 #[vR a0, vR b198, vI 1, vJ (own_u1 cc), .second, vR b222] [(.ref r1), (.int 1), (.ref b222), (.int 0), (.ref r1)]) s₁ (entryFrame m #[(.ref a0)] 6) := fun t k => pre232 t (st233 t k)
 obtain ⟨cl235, Ar235, q235, S235, M235, H235, G235⟩ := id Vf225
 have pre236 : own_P p e below T233 (mkF m 83 #[vR a0, vR b198, vI 1, vJ (own_u1 cc), .second, vR b222] [(.int 1), (.int 1), (.ref b222), (.int 0), (.ref r1)]) s₁ (entryFrame m #[(.ref a0)] 6) := by
  intro t k
  refine pre234 t ?_
  refine X233.arraylength hx (by rw [e233]; exact Ar235.1) (State.isArrayOf_alike hZ.alike Ar235.2.1) (g := (mkF m 82 #[vR a0, vR b198, vI 1, vJ (own_u1 cc), .second, vR b222] [(.ref r1), (.int 1), (.ref b222), (.int 0), (.ref r1)])) rfl rfl (hb hby d4_82) _ ?_
  rw [len_of S235 M235]
  exact k
 obtain ⟨T237, h237, L237, X237, e237, N237, K237q, V237q, st237⟩ := cpA X233 hx hZ hown (own_w hw 42 rfl) (own_w hw 41 rfl) (own_w hw 39 rfl) (own_w hw 40 rfl) e233 Vf225 Ob222_1 (Or.inl ⟨rfl, rfl⟩) (by decide) (by decide) (by decide) (by decide) (by decide) (us := [(.int y0)]) rfl (Nat.le_of_ble_eq_true rfl) N222 g_b222 (g := (mkF m 83 #[vR a0, vR b198, vI 1, vJ (own_u1 cc), .second, vR b222] [(.int 1), (.int 1), (.ref b222), (.int 0), (.ref r1)])) rfl (by rw [hml]; rfl) rfl (hb hby d4_83) (by decide) (W := 0) (by show 2 * 0 + _ ≤ _; exact Nat.le_of_eq rfl) (by decide)
 have Z237 : n0 ≤ h237.size := Nat.le_trans Z222 K237q.1
 have K237 : Keep h0 h237 [] := K222.trans K237q (fun x hx => by cases List.mem_singleton.mp hx; exact Or.inr sz_b222)
 have Ff238 : Fld Z h237 a0 own_CK "collection" "I" (.int cc) := (Ff223).keep K237q (fun q => absurd (List.mem_singleton.mp q) ne_a0_b222)
 have Ff239 : Fld Z h237 a0 own_CK "documentKey" "[B" (.ref r1) := (Ff224).keep K237q (fun q => absurd (List.mem_singleton.mp q) ne_a0_b222)
 have Vf240 : Arv Z h237 r1 k_r1 .byte (1 : Int32) [(.int y0)] (.int 0) := (Vf225).keep K237q (fun q => absurd (List.mem_singleton.mp q) ne_r1_b222)
 have Ef241 : Exa Z h237 b198 "[B" := (Ef226).keep K237q
 have Vf242 : Arv Z h237 b198 k198 .byte (5 : Int32) [(.int (own_l0 cc)), (.int 0), (.int 0), (.int 0), (.int 0)] (.int 0) := (Vf227).keep K237q (fun q => absurd (List.mem_singleton.mp q) ne_b198_b222)
 have Ef243 : Exa Z h237 b222 "[B" := (Ob222_0).keep K237q
 have V237 : Arv Z h237 b222 kb222 .byte (2 : Int32) [(.int (own_l0 cc)), (.int y0)] (.int 0) := V237q
 have pre244 : own_P p e below T237 (mkF m 86 #[vR a0, vR b198, vI 1, vJ (own_u1 cc), .second, vR b222] []) s₁ (entryFrame m #[(.ref a0)] 6) := fun t k => pre236 t (st237 t k)
 obtain ⟨fs, hr, hrun, hended, hW, hsame⟩ := X237.leave (v := some (.ref b222)) (fun h => by rw [Bd.returns] at h; cases h)
 refine ⟨_, _, pre244 _ ?_, hrun, hended, _, _, rfl, ?_, ⟨_, rfl⟩, hW, hsame.mono (by decide) (by decide)⟩
 ·
  refine XS.aload X237.here hx rfl (hb hby d4_86) rfl rfl ?_
  exact retOut X237 hx Bd.returns rfl (Or.inr (Or.inr (Or.inr (Or.inr ⟨rfl, rfl, rfl⟩)))) (hb hby d4_88) hr
 ·
  show Q4_1_1 Z a0 cc r1 k_r1 y0 h0 n0 _ T237.heap _
  rw [e237]
  exact ⟨b222, kb222, rfl, N237, K237, sz_b222, Ef243, V237⟩
def Q4_1_2 (Z : State) (a0 : Addr) (cc : Int32) (r1 : Addr) (k_r1 : ClassId) (y0 : Int32) (y1 : Int32) (h0 : Heap) (n0 : Nat) (v : Option Value) (h : Heap) (L : List Loc) : Prop := ∃ (b : Addr) (k_b : ClassId), v = some (.ref b) ∧ Fr n0 L ∧ Keep h0 h [] ∧ h0.size ≤ b ∧ Exa Z h b "[B" ∧ Arv Z h b k_b .byte (3 : Int32) [(.int (own_l0 cc)), (.int y0), (.int y1)] (.int 0)
set_option maxRecDepth 65536 in
set_option maxHeartbeats 40000000 in
theorem rm4_1_2 (l : Launch) (Z : State) (ar0 : Array Value) (hw : ∀ d ∈ tables_1, d.before ar0 Z = true) (ws : List Jvm.Cond) (a0 : Addr) (cc : Int32) (r1 : Addr) (k_r1 : ClassId) (y0 : Int32) (y1 : Int32) (h0 : Heap) (n0 : Nat) (Z0 : n0 ≤ h0.size) (F_collection_a0 : Fld Z h0 a0 own_CK "collection" "I" (.int cc)) (F_documentKey_a0 : Fld Z h0 a0 own_CK "documentKey" "[B" (.ref r1)) (V_r1 : Arv Z h0 r1 k_r1 .byte (2 : Int32) [(.int y0), (.int y1)] (.int 0)) (hz1 : (own_u1 cc) = (0 : Int64)) :
  MetFree l (⟨own_CK, "write", "()[B"⟩ : MethodName) (head1 (Jvm.Cond.code (⟨own_CK, "write", "()[B"⟩ : MethodName) prog_8_method_3_code 6 (some (.array .byte)) :: ws) ({ frames := 2, cells := 2, slots := 8, locals := 32 } : Room)) (fun a U => a = #[(.ref a0)] ∧ Z.Warmed39 U.vm ∧ U.heap = h0) (fun _ _ _ _ _ => True) (fun _ U o U' => ∃ v L, o = .returned v ∧ Q4_1_2 Z a0 cc r1 k_r1 y0 y1 h0 n0 v U'.heap L ∧ FrameEnd U o U' L ({ frames := 2, cells := 2, slots := 8, locals := 32 } : Room).cells ({ frames := 2, cells := 2, slots := 8, locals := 32 } : Room).slots) := by
 refine MetFree.of_bodySF (plainFor_of_name pn_1) hisR ?_
 intro p e s m args below meth c s₁ Bd hml0 hP hK
 obtain ⟨rfl, hZ, hh⟩ := hP
 have hx := Bd.exec
 have hby := Bd.bytes
 have hml : c.maxLocals = 6 := hml0
 have hown : s.vm.findClass own_CK = some m.cls := by have q := findClass_of_methodNamed Bd.named; exact q
 have hnm := (name_of_methodNamed Bd.named Bd.method).1
 have X0 : Stand p l e ({ frames := 2, cells := 2, slots := 8, locals := 32 } : Room) s m #[(.ref a0)] below meth c s₁ [] 0 0 := Stand.of_body Bd
 have e0 : s₁.heap = h0 := by rw [← hh, Bd.state]; rfl
 have N0 := Fr.nil n0
 have pre0 : own_P p e below s₁ (mkF m 0 #[vR a0, .unset, .unset, .unset, .unset, .unset] []) s₁ (entryFrame m #[(.ref a0)] 6) := fun t k => castTop (ef_4 m a0) k
 have pre245 : own_P p e below s₁ (mkF m 1 #[vR a0, .unset, .unset, .unset, .unset, .unset] [(.int 5)]) s₁ (entryFrame m #[(.ref a0)] 6) := by
  intro t k
  refine pre0 t ?_
  refine XS.iconst X0.here hx rfl (hb hby d4_0) ?_
  exact k
 obtain ⟨T246, h246, k246, X246, e246, E246, A246, C246, st246⟩ := newPE X0 hx hZ (own_w hw 0 rfl) e0 (g := (mkF m 1 #[vR a0, .unset, .unset, .unset, .unset, .unset] [(.int 5)])) rfl (hb hby d4_1) rfl (by decide) (cap := 5) (by decide) (by decide) (by decide) (by decide) (ad := "[B") rfl
 obtain ⟨b246, g246⟩ : ∃ z, z = h0.size := ⟨_, rfl⟩
 rw [← g246] at A246 C246 st246
 have ne_a0_b246 : a0 ≠ b246 := Nat.ne_of_lt (Nat.lt_of_lt_of_le (F_collection_a0).lt (Nat.le_of_eq g246.symm))
 have ne_r1_b246 : r1 ≠ b246 := Nat.ne_of_lt (Nat.lt_of_lt_of_le (V_r1).lt (Nat.le_of_eq g246.symm))
 have g_b246 : n0 ≤ b246 := Nat.le_trans Z0 (Nat.le_of_eq g246.symm)
 have sz_b246 : h0.size ≤ b246 := Nat.le_trans (Keep.refl h0 []).1 (Nat.le_of_eq g246.symm)
 have Z246 : n0 ≤ h246.size := Nat.le_trans Z0 E246.1
 have K246 : Keep h0 h246 [] := (Keep.refl h0 []).ext E246
 have Ff247 : Fld Z h246 a0 own_CK "collection" "I" (.int cc) := (F_collection_a0).ext E246
 have Ff248 : Fld Z h246 a0 own_CK "documentKey" "[B" (.ref r1) := (F_documentKey_a0).ext E246
 have Vf249 : Arv Z h246 r1 k_r1 .byte (2 : Int32) [(.int y0), (.int y1)] (.int 0) := (V_r1).ext E246
 have V_b246 : Arv Z h246 b246 k246 .byte (5 : Int32) [(.int 0), (.int 0), (.int 0), (.int 0), (.int 0)] (.int 0) := (Arv.new A246 (by decide)).pad (pad_rep [] (.int 0) 5)
 have pre250 : own_P p e below T246 (mkF m 3 #[vR a0, .unset, .unset, .unset, .unset, .unset] [(.ref b246)]) s₁ (entryFrame m #[(.ref a0)] 6) := fun t k => pre245 t (st246 t k)
 have pre251 : own_P p e below T246 (mkF m 7 #[vR a0, vR b246, vI 0, .unset, .unset, .unset] [(.ref a0)]) s₁ (entryFrame m #[(.ref a0)] 6) := by
  intro t k
  refine pre250 t ?_
  refine XS.astoreN X246.here hx rfl (hb hby d4_3) rfl rfl (l' := #[vR a0, vR b246, .unset, .unset, .unset, .unset]) rfl ?_
  refine XS.iconst X246.here hx rfl (hb hby d4_4) ?_
  refine XS.istoreN X246.here hx rfl (hb hby d4_5) rfl (l' := #[vR a0, vR b246, vI 0, .unset, .unset, .unset]) rfl ?_
  refine XS.aloadN X246.here hx rfl (hb hby d4_6) rfl rfl ?_
  exact k
 obtain ⟨T252, X252, e252, st252⟩ := getF X246 hx hZ hown (host := "") (Or.inl (own_w hw 15 rfl)) Via.refl e246 Ff247 (g := (mkF m 7 #[vR a0, vR b246, vI 0, .unset, .unset, .unset] [(.ref a0)])) rfl rfl (hb hby d4_7)
 have pre253 : own_P p e below T252 (mkF m 10 #[vR a0, vR b246, vI 0, .unset, .unset, .unset] [(.int cc)]) s₁ (entryFrame m #[(.ref a0)] 6) := fun t k => pre251 t (st252 t k)
 obtain ⟨_, _, ⟨T254, L254, k254, n254⟩, -, X254, ⟨Lc254, hQ254, l254, y254, z254⟩, st254⟩ := Jvm.LawKit.callS X252 hx (y := (⟨"java/lang/Integer", "toUnsignedLong", "(I)J"⟩ : MethodName)) hown (mvT hZ (own_w hw 24 rfl)) (mvT hZ (own_w hw 25 rfl)) (mvT hZ (own_w hw 26 rfl)) (mvT hZ (own_w hw 27 rfl)) (by decide) (backOf (W := 0) (rm5 l Z ar0 hw [] cc h246 n0 Z246) hZ (own_w hw 27 rfl) (own_w hw 26 rfl) (by decide) (by decide)) (g := (mkF m 10 #[vR a0, vR b246, vI 0, .unset, .unset, .unset] [(.int cc)])) rfl (by rw [hml]; rfl) (argsL := [(.int cc)]) (rest := []) (lenOf pd_2 rfl) rfl (by show 2 * 0 + _ ≤ _; exact Nat.le_of_eq rfl) (hb hby d4_10) (fun _ _ => ⟨rfl, e252, (by decide : 1 + 0 ≤ _), (by decide : 5 + 0 ≤ _)⟩)
 dsimp only [Pt.U, Pt.locs, Pt.cells, Pt.slots] at X254 l254 y254 z254 st254 hQ254
 subst l254 y254 z254
 obtain ⟨rfl, N254q, e254⟩ := hQ254
 have N254 := Fr.app N0 N254q
 have pre255 : own_P p e below T254 (mkF m 13 #[vR a0, vR b246, vI 0, .unset, .unset, .unset] [(.long (own_u0 cc))]) s₁ (entryFrame m #[(.ref a0)] 6) := fun t k => pre253 t (st254 t k)
 have pre256 : own_P p e below T254 (mkF m 32 #[vR a0, vR b246, vI 0, vJ (own_u1 cc), .second, vI (own_g0 cc)] [(.int (lcmpW (own_u1 cc) (0 : Int64))), (.int 0), (.ref b246)]) s₁ (entryFrame m #[(.ref a0)] 6) := by
  intro t k
  refine pre255 t ?_
  refine XS.lstoreN X254.here hx rfl (hb hby d4_13) rfl (l' := #[vR a0, vR b246, vI 0, vJ (own_u0 cc), .second, .unset]) rfl ?_
  refine XS.lloadN X254.here hx rfl (hb hby d4_14) rfl ?_
  refine X254.ldc2Long hx hown (mvT hZ (own_w hw 29 rfl)) (g := (mkF m 15 #[vR a0, vR b246, vI 0, vJ (own_u0 cc), .second, .unset] [(.long (own_u0 cc))])) rfl (hb hby d4_15) _ ?_
  refine XS.land X254.here hx rfl (hb hby d4_18) rfl ?_
  refine XS.l2i X254.here hx rfl (hb hby d4_19) rfl ?_
  refine XS.istore X254.here hx rfl (hb hby d4_20) rfl (l' := #[vR a0, vR b246, vI 0, vJ (own_u0 cc), .second, vI (own_g0 cc)]) rfl ?_
  refine XS.lloadN X254.here hx rfl (hb hby d4_22) rfl ?_
  refine XS.bipush X254.here hx rfl (hb hby d4_23) ?_
  refine XS.lushr X254.here hx rfl (hb hby d4_25) rfl ?_
  refine XS.lstoreN X254.here hx rfl (hb hby d4_26) rfl (l' := #[vR a0, vR b246, vI 0, vJ (own_u1 cc), .second, vI (own_g0 cc)]) rfl ?_
  refine XS.aloadN X254.here hx rfl (hb hby d4_27) rfl rfl ?_
  refine XS.iloadN X254.here hx rfl (hb hby d4_28) rfl ?_
  refine XS.lloadN X254.here hx rfl (hb hby d4_29) rfl ?_
  refine XS.lconst X254.here hx rfl (hb hby d4_30) ?_
  refine XS.lcmp X254.here hx rfl (hb hby d4_31) rfl ?_
  exact k
 have hk257 : (own_u1 cc) = (0 : Int64) := hz1
 have pre258 : own_P p e below T254 (mkF m 47 #[vR a0, vR b246, vI 0, vJ (own_u1 cc), .second, vI (own_g0 cc)] [(.int ((own_g0 cc).toInt8.toInt32)), (.int 0), (.ref b246)]) s₁ (entryFrame m #[(.ref a0)] 6) := by
  intro t k
  refine pre256 t ?_
  refine XS.ifNo X254.here hx rfl (hb hby d4_32) rfl ((if0 _ _).trans (teq (own_eqL hk257)).2) ?_
  refine XS.iload X254.here hx rfl (hb hby d4_35) rfl ?_
  refine XS.goto X254.here hx rfl (pc0 := 37) (pc' := 46) rfl (hb hby d4_37) (by decide) (by decide) ?_
  refine XS.i2b X254.here hx rfl (hb hby d4_46) rfl ?_
  exact k
 obtain ⟨cl259, Ar259, q259, S259, M259, H259, G259⟩ := id V_b246
 have hin259 : ¬ ((0 : Int32) < 0 ∨ cl259.slots.size ≤ ((0 : Int32)).toNatClampNeg) := inb_of S259 ⟨by decide, by decide⟩
 obtain ⟨T259, h259, X259, e259, W259, st259⟩ := stB X254 hx hZ e254 Ar259 (j := (0 : Int32)) hin259 (g := (mkF m 47 #[vR a0, vR b246, vI 0, vJ (own_u1 cc), .second, vI (own_g0 cc)] [(.int ((own_g0 cc).toInt8.toInt32)), (.int 0), (.ref b246)])) rfl rfl (hb hby d4_47)
 have Z259 : n0 ≤ h259.size := Nat.le_trans Z246 (Keep.of_wr W259).1
 have K259 : Keep h0 h259 [] := K246.wr W259 (Or.inr sz_b246)
 have N259 := Fr.snoc X259 N254 g_b246
 have Ff260 : Fld Z h259 a0 own_CK "collection" "I" (.int cc) := (Ff247).other W259 (Or.inl ne_a0_b246)
 have Ff261 : Fld Z h259 a0 own_CK "documentKey" "[B" (.ref r1) := (Ff248).other W259 (Or.inl ne_a0_b246)
 have Vf262 : Arv Z h259 r1 k_r1 .byte (2 : Int32) [(.int y0), (.int y1)] (.int 0) := (Vf249).other W259 ne_r1_b246
 have Ef263 : Exa Z h259 b246 "[B" := (C246).wr W259
 have V259 : Arv Z h259 b246 k246 .byte (5 : Int32) [(.int (own_l0 cc)), (.int 0), (.int 0), (.int 0), (.int 0)] (.int 0) := Arv.set Ar259 q259 S259 M259 H259 G259 (fits_nar_byte _) W259 0 rfl (Nat.le_of_ble_eq_true rfl)
 have pre264 : own_P p e below T259 (mkF m 48 #[vR a0, vR b246, vI 0, vJ (own_u1 cc), .second, vI (own_g0 cc)] []) s₁ (entryFrame m #[(.ref a0)] 6) := fun t k => pre258 t (st259 t k)
 have pre265 : own_P p e below T259 (mkF m 60 #[vR a0, vR b246, vI 1, vJ (own_u1 cc), .second, vI (own_g0 cc)] [(.ref a0), (.int 1), (.ref b246)]) s₁ (entryFrame m #[(.ref a0)] 6) := by
  intro t k
  refine pre264 t ?_
  refine XS.iinc X259.here hx rfl (hb hby d4_48) rfl (l' := #[vR a0, vR b246, vI 1, vJ (own_u1 cc), .second, vI (own_g0 cc)]) rfl ?_
  refine XS.lloadN X259.here hx rfl (hb hby d4_51) rfl ?_
  refine XS.lconst X259.here hx rfl (hb hby d4_52) ?_
  refine XS.lcmp X259.here hx rfl (hb hby d4_53) rfl ?_
  refine XS.ifNo X259.here hx rfl (hb hby d4_54) rfl ((if0 _ _).trans (teq (own_eqL hk257)).2) ?_
  refine XS.aloadN X259.here hx rfl (hb hby d4_57) rfl rfl ?_
  refine XS.iloadN X259.here hx rfl (hb hby d4_58) rfl ?_
  refine XS.aloadN X259.here hx rfl (hb hby d4_59) rfl rfl ?_
  exact k
 obtain ⟨T266, X266, e266, st266⟩ := getF X259 hx hZ hown (host := "") (Or.inl (own_w hw 17 rfl)) Via.refl e259 Ff261 (g := (mkF m 60 #[vR a0, vR b246, vI 1, vJ (own_u1 cc), .second, vI (own_g0 cc)] [(.ref a0), (.int 1), (.ref b246)])) rfl rfl (hb hby d4_60)
 have pre267 : own_P p e below T266 (mkF m 63 #[vR a0, vR b246, vI 1, vJ (own_u1 cc), .second, vI (own_g0 cc)] [(.ref r1), (.int 1), (.ref b246)]) s₁ (entryFrame m #[(.ref a0)] 6) := fun t k => pre265 t (st266 t k)
 obtain ⟨cl268, Ar268, q268, S268, M268, H268, G268⟩ := id Vf262
 have pre269 : own_P p e below T266 (mkF m 65 #[vR a0, vR b246, vI 1, vJ (own_u1 cc), .second, vI (own_g0 cc)] [(.int 3), (.ref b246)]) s₁ (entryFrame m #[(.ref a0)] 6) := by
  intro t k
  refine pre267 t ?_
  refine X266.arraylength hx (by rw [e266]; exact Ar268.1) (State.isArrayOf_alike hZ.alike Ar268.2.1) (g := (mkF m 63 #[vR a0, vR b246, vI 1, vJ (own_u1 cc), .second, vI (own_g0 cc)] [(.ref r1), (.int 1), (.ref b246)])) rfl rfl (hb hby d4_63) _ ?_
  rw [len_of S268 M268]
  refine XS.iadd X266.here hx rfl (hb hby d4_64) rfl ?_
  exact k
 obtain ⟨_, _, ⟨T270, L270, k270, n270⟩, -, X270, ⟨Lc270, hQ270, l270, y270, z270⟩, st270⟩ := Jvm.LawKit.callS X266 hx (y := (⟨"java/util/Arrays", "copyOf", "([BI)[B"⟩ : MethodName)) hown (mvT hZ (own_w hw 30 rfl)) (mvT hZ (own_w hw 31 rfl)) (mvT hZ (own_w hw 32 rfl)) (mvT hZ (own_w hw 33 rfl)) (by decide) (backOf (W := 0) (rm6_3 l Z ar0 hw [] b246 k246 (own_l0 cc) (0 : Int32) (0 : Int32) (0 : Int32) (0 : Int32) h259 n0 Z259 V259 Ef263) hZ (own_w hw 33 rfl) (own_w hw 32 rfl) (by decide) (by decide)) (g := (mkF m 65 #[vR a0, vR b246, vI 1, vJ (own_u1 cc), .second, vI (own_g0 cc)] [(.int 3), (.ref b246)])) rfl (by rw [hml]; rfl) (argsL := [(.ref b246), (.int 3)]) (rest := []) (lenOf pd_3 rfl) rfl (by show 2 * 0 + _ ≤ _; exact Nat.le_of_eq rfl) (hb hby d4_65) (fun _ _ => ⟨rfl, e266, (by decide : 1 + 1 ≤ _), (by decide : 5 + 3 ≤ _)⟩)
 dsimp only [Pt.U, Pt.locs, Pt.cells, Pt.slots] at X270 l270 y270 z270 st270 hQ270
 subst l270 y270 z270
 obtain ⟨h270, e270⟩ : ∃ h, T270.heap = h := ⟨_, rfl⟩
 rw [e270] at hQ270
 obtain ⟨b270, kb270, rfl, N270q, K270q, y_b270, Ob270_0, Ob270_1⟩ := hQ270
 have N270 := Fr.app N259 N270q
 have ne_a0_b270 : a0 ≠ b270 := Nat.ne_of_lt (Nat.lt_of_lt_of_le (Ff260).lt y_b270)
 have ne_r1_b270 : r1 ≠ b270 := Nat.ne_of_lt (Nat.lt_of_lt_of_le (Vf262).lt y_b270)
 have ne_b246_b270 : b246 ≠ b270 := Nat.ne_of_lt (Nat.lt_of_lt_of_le (Ef263).lt y_b270)
 have g_b270 : n0 ≤ b270 := Nat.le_trans Z259 y_b270
 have sz_b270 : h0.size ≤ b270 := Nat.le_trans K259.1 y_b270
 have Z270 : n0 ≤ h270.size := Nat.le_trans Z259 K270q.1
 have K270 : Keep h0 h270 [] := K259.trans K270q (fun x hx => absurd hx List.not_mem_nil)
 have Ff271 : Fld Z h270 a0 own_CK "collection" "I" (.int cc) := (Ff260).keep K270q List.not_mem_nil
 have Ff272 : Fld Z h270 a0 own_CK "documentKey" "[B" (.ref r1) := (Ff261).keep K270q List.not_mem_nil
 have Vf273 : Arv Z h270 r1 k_r1 .byte (2 : Int32) [(.int y0), (.int y1)] (.int 0) := (Vf262).keep K270q List.not_mem_nil
 have Ef274 : Exa Z h270 b246 "[B" := (Ef263).keep K270q
 have Vf275 : Arv Z h270 b246 k246 .byte (5 : Int32) [(.int (own_l0 cc)), (.int 0), (.int 0), (.int 0), (.int 0)] (.int 0) := (V259).keep K270q List.not_mem_nil
 have pre276 : own_P p e below T270 (mkF m 68 #[vR a0, vR b246, vI 1, vJ (own_u1 cc), .second, vI (own_g0 cc)] [(.ref b270)]) s₁ (entryFrame m #[(.ref a0)] 6) := fun t k => pre269 t (st270 t k)
 have pre277 : own_P p e below T270 (mkF m 71 #[vR a0, vR b246, vI 1, vJ (own_u1 cc), .second, vR b270] [(.ref a0)]) s₁ (entryFrame m #[(.ref a0)] 6) := by
  intro t k
  refine pre276 t ?_
  refine XS.astore X270.here hx rfl (hb hby d4_68) rfl rfl (l' := #[vR a0, vR b246, vI 1, vJ (own_u1 cc), .second, vR b270]) rfl ?_
  refine XS.aloadN X270.here hx rfl (hb hby d4_70) rfl rfl ?_
  exact k
 obtain ⟨T278, X278, e278, st278⟩ := getF X270 hx hZ hown (host := "") (Or.inl (own_w hw 17 rfl)) Via.refl e270 Ff272 (g := (mkF m 71 #[vR a0, vR b246, vI 1, vJ (own_u1 cc), .second, vR b270] [(.ref a0)])) rfl rfl (hb hby d4_71)
 have pre279 : own_P p e below T278 (mkF m 74 #[vR a0, vR b246, vI 1, vJ (own_u1 cc), .second, vR b270] [(.ref r1)]) s₁ (entryFrame m #[(.ref a0)] 6) := fun t k => pre277 t (st278 t k)
 have pre280 : own_P p e below T278 (mkF m 79 #[vR a0, vR b246, vI 1, vJ (own_u1 cc), .second, vR b270] [(.ref a0), (.int 1), (.ref b270), (.int 0), (.ref r1)]) s₁ (entryFrame m #[(.ref a0)] 6) := by
  intro t k
  refine pre279 t ?_
  refine XS.iconst X278.here hx rfl (hb hby d4_74) ?_
  refine XS.aload X278.here hx rfl (hb hby d4_75) rfl rfl ?_
  refine XS.iloadN X278.here hx rfl (hb hby d4_77) rfl ?_
  refine XS.aloadN X278.here hx rfl (hb hby d4_78) rfl rfl ?_
  exact k
 obtain ⟨T281, X281, e281, st281⟩ := getF X278 hx hZ hown (host := "") (Or.inl (own_w hw 17 rfl)) Via.refl e278 Ff272 (g := (mkF m 79 #[vR a0, vR b246, vI 1, vJ (own_u1 cc), .second, vR b270] [(.ref a0), (.int 1), (.ref b270), (.int 0), (.ref r1)])) rfl rfl (hb hby d4_79)
 have pre282 : own_P p e below T281 (mkF m 82 #[vR a0, vR b246, vI 1, vJ (own_u1 cc), .second, vR b270] [(.ref r1), (.int 1), (.ref b270), (.int 0), (.ref r1)]) s₁ (entryFrame m #[(.ref a0)] 6) := fun t k => pre280 t (st281 t k)
 obtain ⟨cl283, Ar283, q283, S283, M283, H283, G283⟩ := id Vf273
 have pre284 : own_P p e below T281 (mkF m 83 #[vR a0, vR b246, vI 1, vJ (own_u1 cc), .second, vR b270] [(.int 2), (.int 1), (.ref b270), (.int 0), (.ref r1)]) s₁ (entryFrame m #[(.ref a0)] 6) := by
  intro t k
  refine pre282 t ?_
  refine X281.arraylength hx (by rw [e281]; exact Ar283.1) (State.isArrayOf_alike hZ.alike Ar283.2.1) (g := (mkF m 82 #[vR a0, vR b246, vI 1, vJ (own_u1 cc), .second, vR b270] [(.ref r1), (.int 1), (.ref b270), (.int 0), (.ref r1)])) rfl rfl (hb hby d4_82) _ ?_
  rw [len_of S283 M283]
  exact k
 obtain ⟨T285, h285, L285, X285, e285, N285, K285q, V285q, st285⟩ := cpA X281 hx hZ hown (own_w hw 42 rfl) (own_w hw 41 rfl) (own_w hw 39 rfl) (own_w hw 40 rfl) e281 Vf273 Ob270_1 (Or.inl ⟨rfl, rfl⟩) (by decide) (by decide) (by decide) (by decide) (by decide) (us := [(.int y0), (.int y1)]) rfl (Nat.le_of_ble_eq_true rfl) N270 g_b270 (g := (mkF m 83 #[vR a0, vR b246, vI 1, vJ (own_u1 cc), .second, vR b270] [(.int 2), (.int 1), (.ref b270), (.int 0), (.ref r1)])) rfl (by rw [hml]; rfl) rfl (hb hby d4_83) (by decide) (W := 0) (by show 2 * 0 + _ ≤ _; exact Nat.le_of_eq rfl) (by decide)
 have Z285 : n0 ≤ h285.size := Nat.le_trans Z270 K285q.1
 have K285 : Keep h0 h285 [] := K270.trans K285q (fun x hx => by cases List.mem_singleton.mp hx; exact Or.inr sz_b270)
 have Ff286 : Fld Z h285 a0 own_CK "collection" "I" (.int cc) := (Ff271).keep K285q (fun q => absurd (List.mem_singleton.mp q) ne_a0_b270)
 have Ff287 : Fld Z h285 a0 own_CK "documentKey" "[B" (.ref r1) := (Ff272).keep K285q (fun q => absurd (List.mem_singleton.mp q) ne_a0_b270)
 have Vf288 : Arv Z h285 r1 k_r1 .byte (2 : Int32) [(.int y0), (.int y1)] (.int 0) := (Vf273).keep K285q (fun q => absurd (List.mem_singleton.mp q) ne_r1_b270)
 have Ef289 : Exa Z h285 b246 "[B" := (Ef274).keep K285q
 have Vf290 : Arv Z h285 b246 k246 .byte (5 : Int32) [(.int (own_l0 cc)), (.int 0), (.int 0), (.int 0), (.int 0)] (.int 0) := (Vf275).keep K285q (fun q => absurd (List.mem_singleton.mp q) ne_b246_b270)
 have Ef291 : Exa Z h285 b270 "[B" := (Ob270_0).keep K285q
 have V285 : Arv Z h285 b270 kb270 .byte (3 : Int32) [(.int (own_l0 cc)), (.int y0), (.int y1)] (.int 0) := V285q
 have pre292 : own_P p e below T285 (mkF m 86 #[vR a0, vR b246, vI 1, vJ (own_u1 cc), .second, vR b270] []) s₁ (entryFrame m #[(.ref a0)] 6) := fun t k => pre284 t (st285 t k)
 obtain ⟨fs, hr, hrun, hended, hW, hsame⟩ := X285.leave (v := some (.ref b270)) (fun h => by rw [Bd.returns] at h; cases h)
 refine ⟨_, _, pre292 _ ?_, hrun, hended, _, _, rfl, ?_, ⟨_, rfl⟩, hW, hsame.mono (by decide) (by decide)⟩
 ·
  refine XS.aload X285.here hx rfl (hb hby d4_86) rfl rfl ?_
  exact retOut X285 hx Bd.returns rfl (Or.inr (Or.inr (Or.inr (Or.inr ⟨rfl, rfl, rfl⟩)))) (hb hby d4_88) hr
 ·
  show Q4_1_2 Z a0 cc r1 k_r1 y0 y1 h0 n0 _ T285.heap _
  rw [e285]
  exact ⟨b270, kb270, rfl, N285, K285, sz_b270, Ef291, V285⟩
def Q4_1_3 (Z : State) (a0 : Addr) (cc : Int32) (r1 : Addr) (k_r1 : ClassId) (y0 : Int32) (y1 : Int32) (y2 : Int32) (h0 : Heap) (n0 : Nat) (v : Option Value) (h : Heap) (L : List Loc) : Prop := ∃ (b : Addr) (k_b : ClassId), v = some (.ref b) ∧ Fr n0 L ∧ Keep h0 h [] ∧ h0.size ≤ b ∧ Exa Z h b "[B" ∧ Arv Z h b k_b .byte (4 : Int32) [(.int (own_l0 cc)), (.int y0), (.int y1), (.int y2)] (.int 0)
set_option maxRecDepth 65536 in
set_option maxHeartbeats 40000000 in
theorem rm4_1_3 (l : Launch) (Z : State) (ar0 : Array Value) (hw : ∀ d ∈ tables_1, d.before ar0 Z = true) (ws : List Jvm.Cond) (a0 : Addr) (cc : Int32) (r1 : Addr) (k_r1 : ClassId) (y0 : Int32) (y1 : Int32) (y2 : Int32) (h0 : Heap) (n0 : Nat) (Z0 : n0 ≤ h0.size) (F_collection_a0 : Fld Z h0 a0 own_CK "collection" "I" (.int cc)) (F_documentKey_a0 : Fld Z h0 a0 own_CK "documentKey" "[B" (.ref r1)) (V_r1 : Arv Z h0 r1 k_r1 .byte (3 : Int32) [(.int y0), (.int y1), (.int y2)] (.int 0)) (hz1 : (own_u1 cc) = (0 : Int64)) :
  MetFree l (⟨own_CK, "write", "()[B"⟩ : MethodName) (head1 (Jvm.Cond.code (⟨own_CK, "write", "()[B"⟩ : MethodName) prog_8_method_3_code 6 (some (.array .byte)) :: ws) ({ frames := 2, cells := 2, slots := 9, locals := 32 } : Room)) (fun a U => a = #[(.ref a0)] ∧ Z.Warmed39 U.vm ∧ U.heap = h0) (fun _ _ _ _ _ => True) (fun _ U o U' => ∃ v L, o = .returned v ∧ Q4_1_3 Z a0 cc r1 k_r1 y0 y1 y2 h0 n0 v U'.heap L ∧ FrameEnd U o U' L ({ frames := 2, cells := 2, slots := 9, locals := 32 } : Room).cells ({ frames := 2, cells := 2, slots := 9, locals := 32 } : Room).slots) := by
 refine MetFree.of_bodySF (plainFor_of_name pn_1) hisR ?_
 intro p e s m args below meth c s₁ Bd hml0 hP hK
 obtain ⟨rfl, hZ, hh⟩ := hP
 have hx := Bd.exec
 have hby := Bd.bytes
 have hml : c.maxLocals = 6 := hml0
 have hown : s.vm.findClass own_CK = some m.cls := by have q := findClass_of_methodNamed Bd.named; exact q
 have hnm := (name_of_methodNamed Bd.named Bd.method).1
 have X0 : Stand p l e ({ frames := 2, cells := 2, slots := 9, locals := 32 } : Room) s m #[(.ref a0)] below meth c s₁ [] 0 0 := Stand.of_body Bd
 have e0 : s₁.heap = h0 := by rw [← hh, Bd.state]; rfl
 have N0 := Fr.nil n0
 have pre0 : own_P p e below s₁ (mkF m 0 #[vR a0, .unset, .unset, .unset, .unset, .unset] []) s₁ (entryFrame m #[(.ref a0)] 6) := fun t k => castTop (ef_4 m a0) k
 have pre293 : own_P p e below s₁ (mkF m 1 #[vR a0, .unset, .unset, .unset, .unset, .unset] [(.int 5)]) s₁ (entryFrame m #[(.ref a0)] 6) := by
  intro t k
  refine pre0 t ?_
  refine XS.iconst X0.here hx rfl (hb hby d4_0) ?_
  exact k
 obtain ⟨T294, h294, k294, X294, e294, E294, A294, C294, st294⟩ := newPE X0 hx hZ (own_w hw 0 rfl) e0 (g := (mkF m 1 #[vR a0, .unset, .unset, .unset, .unset, .unset] [(.int 5)])) rfl (hb hby d4_1) rfl (by decide) (cap := 5) (by decide) (by decide) (by decide) (by decide) (ad := "[B") rfl
 obtain ⟨b294, g294⟩ : ∃ z, z = h0.size := ⟨_, rfl⟩
 rw [← g294] at A294 C294 st294
 have ne_a0_b294 : a0 ≠ b294 := Nat.ne_of_lt (Nat.lt_of_lt_of_le (F_collection_a0).lt (Nat.le_of_eq g294.symm))
 have ne_r1_b294 : r1 ≠ b294 := Nat.ne_of_lt (Nat.lt_of_lt_of_le (V_r1).lt (Nat.le_of_eq g294.symm))
 have g_b294 : n0 ≤ b294 := Nat.le_trans Z0 (Nat.le_of_eq g294.symm)
 have sz_b294 : h0.size ≤ b294 := Nat.le_trans (Keep.refl h0 []).1 (Nat.le_of_eq g294.symm)
 have Z294 : n0 ≤ h294.size := Nat.le_trans Z0 E294.1
 have K294 : Keep h0 h294 [] := (Keep.refl h0 []).ext E294
 have Ff295 : Fld Z h294 a0 own_CK "collection" "I" (.int cc) := (F_collection_a0).ext E294
 have Ff296 : Fld Z h294 a0 own_CK "documentKey" "[B" (.ref r1) := (F_documentKey_a0).ext E294
 have Vf297 : Arv Z h294 r1 k_r1 .byte (3 : Int32) [(.int y0), (.int y1), (.int y2)] (.int 0) := (V_r1).ext E294
 have V_b294 : Arv Z h294 b294 k294 .byte (5 : Int32) [(.int 0), (.int 0), (.int 0), (.int 0), (.int 0)] (.int 0) := (Arv.new A294 (by decide)).pad (pad_rep [] (.int 0) 5)
 have pre298 : own_P p e below T294 (mkF m 3 #[vR a0, .unset, .unset, .unset, .unset, .unset] [(.ref b294)]) s₁ (entryFrame m #[(.ref a0)] 6) := fun t k => pre293 t (st294 t k)
 have pre299 : own_P p e below T294 (mkF m 7 #[vR a0, vR b294, vI 0, .unset, .unset, .unset] [(.ref a0)]) s₁ (entryFrame m #[(.ref a0)] 6) := by
  intro t k
  refine pre298 t ?_
  refine XS.astoreN X294.here hx rfl (hb hby d4_3) rfl rfl (l' := #[vR a0, vR b294, .unset, .unset, .unset, .unset]) rfl ?_
  refine XS.iconst X294.here hx rfl (hb hby d4_4) ?_
  refine XS.istoreN X294.here hx rfl (hb hby d4_5) rfl (l' := #[vR a0, vR b294, vI 0, .unset, .unset, .unset]) rfl ?_
  refine XS.aloadN X294.here hx rfl (hb hby d4_6) rfl rfl ?_
  exact k
 obtain ⟨T300, X300, e300, st300⟩ := getF X294 hx hZ hown (host := "") (Or.inl (own_w hw 15 rfl)) Via.refl e294 Ff295 (g := (mkF m 7 #[vR a0, vR b294, vI 0, .unset, .unset, .unset] [(.ref a0)])) rfl rfl (hb hby d4_7)
 have pre301 : own_P p e below T300 (mkF m 10 #[vR a0, vR b294, vI 0, .unset, .unset, .unset] [(.int cc)]) s₁ (entryFrame m #[(.ref a0)] 6) := fun t k => pre299 t (st300 t k)
 obtain ⟨_, _, ⟨T302, L302, k302, n302⟩, -, X302, ⟨Lc302, hQ302, l302, y302, z302⟩, st302⟩ := Jvm.LawKit.callS X300 hx (y := (⟨"java/lang/Integer", "toUnsignedLong", "(I)J"⟩ : MethodName)) hown (mvT hZ (own_w hw 24 rfl)) (mvT hZ (own_w hw 25 rfl)) (mvT hZ (own_w hw 26 rfl)) (mvT hZ (own_w hw 27 rfl)) (by decide) (backOf (W := 0) (rm5 l Z ar0 hw [] cc h294 n0 Z294) hZ (own_w hw 27 rfl) (own_w hw 26 rfl) (by decide) (by decide)) (g := (mkF m 10 #[vR a0, vR b294, vI 0, .unset, .unset, .unset] [(.int cc)])) rfl (by rw [hml]; rfl) (argsL := [(.int cc)]) (rest := []) (lenOf pd_2 rfl) rfl (by show 2 * 0 + _ ≤ _; exact Nat.le_of_eq rfl) (hb hby d4_10) (fun _ _ => ⟨rfl, e300, (by decide : 1 + 0 ≤ _), (by decide : 5 + 0 ≤ _)⟩)
 dsimp only [Pt.U, Pt.locs, Pt.cells, Pt.slots] at X302 l302 y302 z302 st302 hQ302
 subst l302 y302 z302
 obtain ⟨rfl, N302q, e302⟩ := hQ302
 have N302 := Fr.app N0 N302q
 have pre303 : own_P p e below T302 (mkF m 13 #[vR a0, vR b294, vI 0, .unset, .unset, .unset] [(.long (own_u0 cc))]) s₁ (entryFrame m #[(.ref a0)] 6) := fun t k => pre301 t (st302 t k)
 have pre304 : own_P p e below T302 (mkF m 32 #[vR a0, vR b294, vI 0, vJ (own_u1 cc), .second, vI (own_g0 cc)] [(.int (lcmpW (own_u1 cc) (0 : Int64))), (.int 0), (.ref b294)]) s₁ (entryFrame m #[(.ref a0)] 6) := by
  intro t k
  refine pre303 t ?_
  refine XS.lstoreN X302.here hx rfl (hb hby d4_13) rfl (l' := #[vR a0, vR b294, vI 0, vJ (own_u0 cc), .second, .unset]) rfl ?_
  refine XS.lloadN X302.here hx rfl (hb hby d4_14) rfl ?_
  refine X302.ldc2Long hx hown (mvT hZ (own_w hw 29 rfl)) (g := (mkF m 15 #[vR a0, vR b294, vI 0, vJ (own_u0 cc), .second, .unset] [(.long (own_u0 cc))])) rfl (hb hby d4_15) _ ?_
  refine XS.land X302.here hx rfl (hb hby d4_18) rfl ?_
  refine XS.l2i X302.here hx rfl (hb hby d4_19) rfl ?_
  refine XS.istore X302.here hx rfl (hb hby d4_20) rfl (l' := #[vR a0, vR b294, vI 0, vJ (own_u0 cc), .second, vI (own_g0 cc)]) rfl ?_
  refine XS.lloadN X302.here hx rfl (hb hby d4_22) rfl ?_
  refine XS.bipush X302.here hx rfl (hb hby d4_23) ?_
  refine XS.lushr X302.here hx rfl (hb hby d4_25) rfl ?_
  refine XS.lstoreN X302.here hx rfl (hb hby d4_26) rfl (l' := #[vR a0, vR b294, vI 0, vJ (own_u1 cc), .second, vI (own_g0 cc)]) rfl ?_
  refine XS.aloadN X302.here hx rfl (hb hby d4_27) rfl rfl ?_
  refine XS.iloadN X302.here hx rfl (hb hby d4_28) rfl ?_
  refine XS.lloadN X302.here hx rfl (hb hby d4_29) rfl ?_
  refine XS.lconst X302.here hx rfl (hb hby d4_30) ?_
  refine XS.lcmp X302.here hx rfl (hb hby d4_31) rfl ?_
  exact k
 have hk305 : (own_u1 cc) = (0 : Int64) := hz1
 have pre306 : own_P p e below T302 (mkF m 47 #[vR a0, vR b294, vI 0, vJ (own_u1 cc), .second, vI (own_g0 cc)] [(.int ((own_g0 cc).toInt8.toInt32)), (.int 0), (.ref b294)]) s₁ (entryFrame m #[(.ref a0)] 6) := by
  intro t k
  refine pre304 t ?_
  refine XS.ifNo X302.here hx rfl (hb hby d4_32) rfl ((if0 _ _).trans (teq (own_eqL hk305)).2) ?_
  refine XS.iload X302.here hx rfl (hb hby d4_35) rfl ?_
  refine XS.goto X302.here hx rfl (pc0 := 37) (pc' := 46) rfl (hb hby d4_37) (by decide) (by decide) ?_
  refine XS.i2b X302.here hx rfl (hb hby d4_46) rfl ?_
  exact k
 obtain ⟨cl307, Ar307, q307, S307, M307, H307, G307⟩ := id V_b294
 have hin307 : ¬ ((0 : Int32) < 0 ∨ cl307.slots.size ≤ ((0 : Int32)).toNatClampNeg) := inb_of S307 ⟨by decide, by decide⟩
 obtain ⟨T307, h307, X307, e307, W307, st307⟩ := stB X302 hx hZ e302 Ar307 (j := (0 : Int32)) hin307 (g := (mkF m 47 #[vR a0, vR b294, vI 0, vJ (own_u1 cc), .second, vI (own_g0 cc)] [(.int ((own_g0 cc).toInt8.toInt32)), (.int 0), (.ref b294)])) rfl rfl (hb hby d4_47)
 have Z307 : n0 ≤ h307.size := Nat.le_trans Z294 (Keep.of_wr W307).1
 have K307 : Keep h0 h307 [] := K294.wr W307 (Or.inr sz_b294)
 have N307 := Fr.snoc X307 N302 g_b294
 have Ff308 : Fld Z h307 a0 own_CK "collection" "I" (.int cc) := (Ff295).other W307 (Or.inl ne_a0_b294)
 have Ff309 : Fld Z h307 a0 own_CK "documentKey" "[B" (.ref r1) := (Ff296).other W307 (Or.inl ne_a0_b294)
 have Vf310 : Arv Z h307 r1 k_r1 .byte (3 : Int32) [(.int y0), (.int y1), (.int y2)] (.int 0) := (Vf297).other W307 ne_r1_b294
 have Ef311 : Exa Z h307 b294 "[B" := (C294).wr W307
 have V307 : Arv Z h307 b294 k294 .byte (5 : Int32) [(.int (own_l0 cc)), (.int 0), (.int 0), (.int 0), (.int 0)] (.int 0) := Arv.set Ar307 q307 S307 M307 H307 G307 (fits_nar_byte _) W307 0 rfl (Nat.le_of_ble_eq_true rfl)
 have pre312 : own_P p e below T307 (mkF m 48 #[vR a0, vR b294, vI 0, vJ (own_u1 cc), .second, vI (own_g0 cc)] []) s₁ (entryFrame m #[(.ref a0)] 6) := fun t k => pre306 t (st307 t k)
 have pre313 : own_P p e below T307 (mkF m 60 #[vR a0, vR b294, vI 1, vJ (own_u1 cc), .second, vI (own_g0 cc)] [(.ref a0), (.int 1), (.ref b294)]) s₁ (entryFrame m #[(.ref a0)] 6) := by
  intro t k
  refine pre312 t ?_
  refine XS.iinc X307.here hx rfl (hb hby d4_48) rfl (l' := #[vR a0, vR b294, vI 1, vJ (own_u1 cc), .second, vI (own_g0 cc)]) rfl ?_
  refine XS.lloadN X307.here hx rfl (hb hby d4_51) rfl ?_
  refine XS.lconst X307.here hx rfl (hb hby d4_52) ?_
  refine XS.lcmp X307.here hx rfl (hb hby d4_53) rfl ?_
  refine XS.ifNo X307.here hx rfl (hb hby d4_54) rfl ((if0 _ _).trans (teq (own_eqL hk305)).2) ?_
  refine XS.aloadN X307.here hx rfl (hb hby d4_57) rfl rfl ?_
  refine XS.iloadN X307.here hx rfl (hb hby d4_58) rfl ?_
  refine XS.aloadN X307.here hx rfl (hb hby d4_59) rfl rfl ?_
  exact k
 obtain ⟨T314, X314, e314, st314⟩ := getF X307 hx hZ hown (host := "") (Or.inl (own_w hw 17 rfl)) Via.refl e307 Ff309 (g := (mkF m 60 #[vR a0, vR b294, vI 1, vJ (own_u1 cc), .second, vI (own_g0 cc)] [(.ref a0), (.int 1), (.ref b294)])) rfl rfl (hb hby d4_60)
 have pre315 : own_P p e below T314 (mkF m 63 #[vR a0, vR b294, vI 1, vJ (own_u1 cc), .second, vI (own_g0 cc)] [(.ref r1), (.int 1), (.ref b294)]) s₁ (entryFrame m #[(.ref a0)] 6) := fun t k => pre313 t (st314 t k)
 obtain ⟨cl316, Ar316, q316, S316, M316, H316, G316⟩ := id Vf310
 have pre317 : own_P p e below T314 (mkF m 65 #[vR a0, vR b294, vI 1, vJ (own_u1 cc), .second, vI (own_g0 cc)] [(.int 4), (.ref b294)]) s₁ (entryFrame m #[(.ref a0)] 6) := by
  intro t k
  refine pre315 t ?_
  refine X314.arraylength hx (by rw [e314]; exact Ar316.1) (State.isArrayOf_alike hZ.alike Ar316.2.1) (g := (mkF m 63 #[vR a0, vR b294, vI 1, vJ (own_u1 cc), .second, vI (own_g0 cc)] [(.ref r1), (.int 1), (.ref b294)])) rfl rfl (hb hby d4_63) _ ?_
  rw [len_of S316 M316]
  refine XS.iadd X314.here hx rfl (hb hby d4_64) rfl ?_
  exact k
 obtain ⟨_, _, ⟨T318, L318, k318, n318⟩, -, X318, ⟨Lc318, hQ318, l318, y318, z318⟩, st318⟩ := Jvm.LawKit.callS X314 hx (y := (⟨"java/util/Arrays", "copyOf", "([BI)[B"⟩ : MethodName)) hown (mvT hZ (own_w hw 30 rfl)) (mvT hZ (own_w hw 31 rfl)) (mvT hZ (own_w hw 32 rfl)) (mvT hZ (own_w hw 33 rfl)) (by decide) (backOf (W := 0) (rm6_4 l Z ar0 hw [] b294 k294 (own_l0 cc) (0 : Int32) (0 : Int32) (0 : Int32) (0 : Int32) h307 n0 Z307 V307 Ef311) hZ (own_w hw 33 rfl) (own_w hw 32 rfl) (by decide) (by decide)) (g := (mkF m 65 #[vR a0, vR b294, vI 1, vJ (own_u1 cc), .second, vI (own_g0 cc)] [(.int 4), (.ref b294)])) rfl (by rw [hml]; rfl) (argsL := [(.ref b294), (.int 4)]) (rest := []) (lenOf pd_3 rfl) rfl (by show 2 * 0 + _ ≤ _; exact Nat.le_of_eq rfl) (hb hby d4_65) (fun _ _ => ⟨rfl, e314, (by decide : 1 + 1 ≤ _), (by decide : 5 + 4 ≤ _)⟩)
 dsimp only [Pt.U, Pt.locs, Pt.cells, Pt.slots] at X318 l318 y318 z318 st318 hQ318
 subst l318 y318 z318
 obtain ⟨h318, e318⟩ : ∃ h, T318.heap = h := ⟨_, rfl⟩
 rw [e318] at hQ318
 obtain ⟨b318, kb318, rfl, N318q, K318q, y_b318, Ob318_0, Ob318_1⟩ := hQ318
 have N318 := Fr.app N307 N318q
 have ne_a0_b318 : a0 ≠ b318 := Nat.ne_of_lt (Nat.lt_of_lt_of_le (Ff308).lt y_b318)
 have ne_r1_b318 : r1 ≠ b318 := Nat.ne_of_lt (Nat.lt_of_lt_of_le (Vf310).lt y_b318)
 have ne_b294_b318 : b294 ≠ b318 := Nat.ne_of_lt (Nat.lt_of_lt_of_le (Ef311).lt y_b318)
 have g_b318 : n0 ≤ b318 := Nat.le_trans Z307 y_b318
 have sz_b318 : h0.size ≤ b318 := Nat.le_trans K307.1 y_b318
 have Z318 : n0 ≤ h318.size := Nat.le_trans Z307 K318q.1
 have K318 : Keep h0 h318 [] := K307.trans K318q (fun x hx => absurd hx List.not_mem_nil)
 have Ff319 : Fld Z h318 a0 own_CK "collection" "I" (.int cc) := (Ff308).keep K318q List.not_mem_nil
 have Ff320 : Fld Z h318 a0 own_CK "documentKey" "[B" (.ref r1) := (Ff309).keep K318q List.not_mem_nil
 have Vf321 : Arv Z h318 r1 k_r1 .byte (3 : Int32) [(.int y0), (.int y1), (.int y2)] (.int 0) := (Vf310).keep K318q List.not_mem_nil
 have Ef322 : Exa Z h318 b294 "[B" := (Ef311).keep K318q
 have Vf323 : Arv Z h318 b294 k294 .byte (5 : Int32) [(.int (own_l0 cc)), (.int 0), (.int 0), (.int 0), (.int 0)] (.int 0) := (V307).keep K318q List.not_mem_nil
 have pre324 : own_P p e below T318 (mkF m 68 #[vR a0, vR b294, vI 1, vJ (own_u1 cc), .second, vI (own_g0 cc)] [(.ref b318)]) s₁ (entryFrame m #[(.ref a0)] 6) := fun t k => pre317 t (st318 t k)
 have pre325 : own_P p e below T318 (mkF m 71 #[vR a0, vR b294, vI 1, vJ (own_u1 cc), .second, vR b318] [(.ref a0)]) s₁ (entryFrame m #[(.ref a0)] 6) := by
  intro t k
  refine pre324 t ?_
  refine XS.astore X318.here hx rfl (hb hby d4_68) rfl rfl (l' := #[vR a0, vR b294, vI 1, vJ (own_u1 cc), .second, vR b318]) rfl ?_
  refine XS.aloadN X318.here hx rfl (hb hby d4_70) rfl rfl ?_
  exact k
 obtain ⟨T326, X326, e326, st326⟩ := getF X318 hx hZ hown (host := "") (Or.inl (own_w hw 17 rfl)) Via.refl e318 Ff320 (g := (mkF m 71 #[vR a0, vR b294, vI 1, vJ (own_u1 cc), .second, vR b318] [(.ref a0)])) rfl rfl (hb hby d4_71)
 have pre327 : own_P p e below T326 (mkF m 74 #[vR a0, vR b294, vI 1, vJ (own_u1 cc), .second, vR b318] [(.ref r1)]) s₁ (entryFrame m #[(.ref a0)] 6) := fun t k => pre325 t (st326 t k)
 have pre328 : own_P p e below T326 (mkF m 79 #[vR a0, vR b294, vI 1, vJ (own_u1 cc), .second, vR b318] [(.ref a0), (.int 1), (.ref b318), (.int 0), (.ref r1)]) s₁ (entryFrame m #[(.ref a0)] 6) := by
  intro t k
  refine pre327 t ?_
  refine XS.iconst X326.here hx rfl (hb hby d4_74) ?_
  refine XS.aload X326.here hx rfl (hb hby d4_75) rfl rfl ?_
  refine XS.iloadN X326.here hx rfl (hb hby d4_77) rfl ?_
  refine XS.aloadN X326.here hx rfl (hb hby d4_78) rfl rfl ?_
  exact k
 obtain ⟨T329, X329, e329, st329⟩ := getF X326 hx hZ hown (host := "") (Or.inl (own_w hw 17 rfl)) Via.refl e326 Ff320 (g := (mkF m 79 #[vR a0, vR b294, vI 1, vJ (own_u1 cc), .second, vR b318] [(.ref a0), (.int 1), (.ref b318), (.int 0), (.ref r1)])) rfl rfl (hb hby d4_79)
 have pre330 : own_P p e below T329 (mkF m 82 #[vR a0, vR b294, vI 1, vJ (own_u1 cc), .second, vR b318] [(.ref r1), (.int 1), (.ref b318), (.int 0), (.ref r1)]) s₁ (entryFrame m #[(.ref a0)] 6) := fun t k => pre328 t (st329 t k)
 obtain ⟨cl331, Ar331, q331, S331, M331, H331, G331⟩ := id Vf321
 have pre332 : own_P p e below T329 (mkF m 83 #[vR a0, vR b294, vI 1, vJ (own_u1 cc), .second, vR b318] [(.int 3), (.int 1), (.ref b318), (.int 0), (.ref r1)]) s₁ (entryFrame m #[(.ref a0)] 6) := by
  intro t k
  refine pre330 t ?_
  refine X329.arraylength hx (by rw [e329]; exact Ar331.1) (State.isArrayOf_alike hZ.alike Ar331.2.1) (g := (mkF m 82 #[vR a0, vR b294, vI 1, vJ (own_u1 cc), .second, vR b318] [(.ref r1), (.int 1), (.ref b318), (.int 0), (.ref r1)])) rfl rfl (hb hby d4_82) _ ?_
  rw [len_of S331 M331]
  exact k
 obtain ⟨T333, h333, L333, X333, e333, N333, K333q, V333q, st333⟩ := cpA X329 hx hZ hown (own_w hw 42 rfl) (own_w hw 41 rfl) (own_w hw 39 rfl) (own_w hw 40 rfl) e329 Vf321 Ob318_1 (Or.inl ⟨rfl, rfl⟩) (by decide) (by decide) (by decide) (by decide) (by decide) (us := [(.int y0), (.int y1), (.int y2)]) rfl (Nat.le_of_ble_eq_true rfl) N318 g_b318 (g := (mkF m 83 #[vR a0, vR b294, vI 1, vJ (own_u1 cc), .second, vR b318] [(.int 3), (.int 1), (.ref b318), (.int 0), (.ref r1)])) rfl (by rw [hml]; rfl) rfl (hb hby d4_83) (by decide) (W := 0) (by show 2 * 0 + _ ≤ _; exact Nat.le_of_eq rfl) (by decide)
 have Z333 : n0 ≤ h333.size := Nat.le_trans Z318 K333q.1
 have K333 : Keep h0 h333 [] := K318.trans K333q (fun x hx => by cases List.mem_singleton.mp hx; exact Or.inr sz_b318)
 have Ff334 : Fld Z h333 a0 own_CK "collection" "I" (.int cc) := (Ff319).keep K333q (fun q => absurd (List.mem_singleton.mp q) ne_a0_b318)
 have Ff335 : Fld Z h333 a0 own_CK "documentKey" "[B" (.ref r1) := (Ff320).keep K333q (fun q => absurd (List.mem_singleton.mp q) ne_a0_b318)
 have Vf336 : Arv Z h333 r1 k_r1 .byte (3 : Int32) [(.int y0), (.int y1), (.int y2)] (.int 0) := (Vf321).keep K333q (fun q => absurd (List.mem_singleton.mp q) ne_r1_b318)
 have Ef337 : Exa Z h333 b294 "[B" := (Ef322).keep K333q
 have Vf338 : Arv Z h333 b294 k294 .byte (5 : Int32) [(.int (own_l0 cc)), (.int 0), (.int 0), (.int 0), (.int 0)] (.int 0) := (Vf323).keep K333q (fun q => absurd (List.mem_singleton.mp q) ne_b294_b318)
 have Ef339 : Exa Z h333 b318 "[B" := (Ob318_0).keep K333q
 have V333 : Arv Z h333 b318 kb318 .byte (4 : Int32) [(.int (own_l0 cc)), (.int y0), (.int y1), (.int y2)] (.int 0) := V333q
 have pre340 : own_P p e below T333 (mkF m 86 #[vR a0, vR b294, vI 1, vJ (own_u1 cc), .second, vR b318] []) s₁ (entryFrame m #[(.ref a0)] 6) := fun t k => pre332 t (st333 t k)
 obtain ⟨fs, hr, hrun, hended, hW, hsame⟩ := X333.leave (v := some (.ref b318)) (fun h => by rw [Bd.returns] at h; cases h)
 refine ⟨_, _, pre340 _ ?_, hrun, hended, _, _, rfl, ?_, ⟨_, rfl⟩, hW, hsame.mono (by decide) (by decide)⟩
 ·
  refine XS.aload X333.here hx rfl (hb hby d4_86) rfl rfl ?_
  exact retOut X333 hx Bd.returns rfl (Or.inr (Or.inr (Or.inr (Or.inr ⟨rfl, rfl, rfl⟩)))) (hb hby d4_88) hr
 ·
  show Q4_1_3 Z a0 cc r1 k_r1 y0 y1 y2 h0 n0 _ T333.heap _
  rw [e333]
  exact ⟨b318, kb318, rfl, N333, K333, sz_b318, Ef339, V333⟩
theorem d4_40 : decode prog_8_method_3_code 40 = .ok (.iload 5, 2) := by decide +kernel
theorem d4_42 : decode prog_8_method_3_code 42 = .ok (.sipush 128, 3) := by decide +kernel
theorem d4_45 : decode prog_8_method_3_code 45 = .ok (.ior, 1) := by decide +kernel
def Q4_2_0 (Z : State) (a0 : Addr) (cc : Int32) (r1 : Addr) (k_r1 : ClassId) (h0 : Heap) (n0 : Nat) (v : Option Value) (h : Heap) (L : List Loc) : Prop := ∃ (b : Addr) (k_b : ClassId), v = some (.ref b) ∧ Fr n0 L ∧ Keep h0 h [] ∧ h0.size ≤ b ∧ Exa Z h b "[B" ∧ Arv Z h b k_b .byte (2 : Int32) [(.int (own_m0 cc)), (.int (own_l1 cc))] (.int 0)
set_option maxRecDepth 65536 in
set_option maxHeartbeats 40000000 in
theorem rm4_2_0 (l : Launch) (Z : State) (ar0 : Array Value) (hw : ∀ d ∈ tables_1, d.before ar0 Z = true) (ws : List Jvm.Cond) (a0 : Addr) (cc : Int32) (r1 : Addr) (k_r1 : ClassId) (h0 : Heap) (n0 : Nat) (Z0 : n0 ≤ h0.size) (F_collection_a0 : Fld Z h0 a0 own_CK "collection" "I" (.int cc)) (F_documentKey_a0 : Fld Z h0 a0 own_CK "documentKey" "[B" (.ref r1)) (V_r1 : Arv Z h0 r1 k_r1 .byte (0 : Int32) [] (.int 0)) (hz1 : ¬ ((own_u1 cc) = (0 : Int64))) (hz2 : (own_u2 cc) = (0 : Int64)) :
  MetFree l (⟨own_CK, "write", "()[B"⟩ : MethodName) (head1 (Jvm.Cond.code (⟨own_CK, "write", "()[B"⟩ : MethodName) prog_8_method_3_code 6 (some (.array .byte)) :: ws) ({ frames := 2, cells := 2, slots := 7, locals := 32 } : Room)) (fun a U => a = #[(.ref a0)] ∧ Z.Warmed39 U.vm ∧ U.heap = h0) (fun _ _ _ _ _ => True) (fun _ U o U' => ∃ v L, o = .returned v ∧ Q4_2_0 Z a0 cc r1 k_r1 h0 n0 v U'.heap L ∧ FrameEnd U o U' L ({ frames := 2, cells := 2, slots := 7, locals := 32 } : Room).cells ({ frames := 2, cells := 2, slots := 7, locals := 32 } : Room).slots) := by
 refine MetFree.of_bodySF (plainFor_of_name pn_1) hisR ?_
 intro p e s m args below meth c s₁ Bd hml0 hP hK
 obtain ⟨rfl, hZ, hh⟩ := hP
 have hx := Bd.exec
 have hby := Bd.bytes
 have hml : c.maxLocals = 6 := hml0
 have hown : s.vm.findClass own_CK = some m.cls := by have q := findClass_of_methodNamed Bd.named; exact q
 have hnm := (name_of_methodNamed Bd.named Bd.method).1
 have X0 : Stand p l e ({ frames := 2, cells := 2, slots := 7, locals := 32 } : Room) s m #[(.ref a0)] below meth c s₁ [] 0 0 := Stand.of_body Bd
 have e0 : s₁.heap = h0 := by rw [← hh, Bd.state]; rfl
 have N0 := Fr.nil n0
 have pre0 : own_P p e below s₁ (mkF m 0 #[vR a0, .unset, .unset, .unset, .unset, .unset] []) s₁ (entryFrame m #[(.ref a0)] 6) := fun t k => castTop (ef_4 m a0) k
 have pre341 : own_P p e below s₁ (mkF m 1 #[vR a0, .unset, .unset, .unset, .unset, .unset] [(.int 5)]) s₁ (entryFrame m #[(.ref a0)] 6) := by
  intro t k
  refine pre0 t ?_
  refine XS.iconst X0.here hx rfl (hb hby d4_0) ?_
  exact k
 obtain ⟨T342, h342, k342, X342, e342, E342, A342, C342, st342⟩ := newPE X0 hx hZ (own_w hw 0 rfl) e0 (g := (mkF m 1 #[vR a0, .unset, .unset, .unset, .unset, .unset] [(.int 5)])) rfl (hb hby d4_1) rfl (by decide) (cap := 5) (by decide) (by decide) (by decide) (by decide) (ad := "[B") rfl
 obtain ⟨b342, g342⟩ : ∃ z, z = h0.size := ⟨_, rfl⟩
 rw [← g342] at A342 C342 st342
 have ne_a0_b342 : a0 ≠ b342 := Nat.ne_of_lt (Nat.lt_of_lt_of_le (F_collection_a0).lt (Nat.le_of_eq g342.symm))
 have ne_r1_b342 : r1 ≠ b342 := Nat.ne_of_lt (Nat.lt_of_lt_of_le (V_r1).lt (Nat.le_of_eq g342.symm))
 have g_b342 : n0 ≤ b342 := Nat.le_trans Z0 (Nat.le_of_eq g342.symm)
 have sz_b342 : h0.size ≤ b342 := Nat.le_trans (Keep.refl h0 []).1 (Nat.le_of_eq g342.symm)
 have Z342 : n0 ≤ h342.size := Nat.le_trans Z0 E342.1
 have K342 : Keep h0 h342 [] := (Keep.refl h0 []).ext E342
 have Ff343 : Fld Z h342 a0 own_CK "collection" "I" (.int cc) := (F_collection_a0).ext E342
 have Ff344 : Fld Z h342 a0 own_CK "documentKey" "[B" (.ref r1) := (F_documentKey_a0).ext E342
 have Vf345 : Arv Z h342 r1 k_r1 .byte (0 : Int32) [] (.int 0) := (V_r1).ext E342
 have V_b342 : Arv Z h342 b342 k342 .byte (5 : Int32) [(.int 0), (.int 0), (.int 0), (.int 0), (.int 0)] (.int 0) := (Arv.new A342 (by decide)).pad (pad_rep [] (.int 0) 5)
 have pre346 : own_P p e below T342 (mkF m 3 #[vR a0, .unset, .unset, .unset, .unset, .unset] [(.ref b342)]) s₁ (entryFrame m #[(.ref a0)] 6) := fun t k => pre341 t (st342 t k)
 have pre347 : own_P p e below T342 (mkF m 7 #[vR a0, vR b342, vI 0, .unset, .unset, .unset] [(.ref a0)]) s₁ (entryFrame m #[(.ref a0)] 6) := by
  intro t k
  refine pre346 t ?_
  refine XS.astoreN X342.here hx rfl (hb hby d4_3) rfl rfl (l' := #[vR a0, vR b342, .unset, .unset, .unset, .unset]) rfl ?_
  refine XS.iconst X342.here hx rfl (hb hby d4_4) ?_
  refine XS.istoreN X342.here hx rfl (hb hby d4_5) rfl (l' := #[vR a0, vR b342, vI 0, .unset, .unset, .unset]) rfl ?_
  refine XS.aloadN X342.here hx rfl (hb hby d4_6) rfl rfl ?_
  exact k
 obtain ⟨T348, X348, e348, st348⟩ := getF X342 hx hZ hown (host := "") (Or.inl (own_w hw 15 rfl)) Via.refl e342 Ff343 (g := (mkF m 7 #[vR a0, vR b342, vI 0, .unset, .unset, .unset] [(.ref a0)])) rfl rfl (hb hby d4_7)
 have pre349 : own_P p e below T348 (mkF m 10 #[vR a0, vR b342, vI 0, .unset, .unset, .unset] [(.int cc)]) s₁ (entryFrame m #[(.ref a0)] 6) := fun t k => pre347 t (st348 t k)
 obtain ⟨_, _, ⟨T350, L350, k350, n350⟩, -, X350, ⟨Lc350, hQ350, l350, y350, z350⟩, st350⟩ := Jvm.LawKit.callS X348 hx (y := (⟨"java/lang/Integer", "toUnsignedLong", "(I)J"⟩ : MethodName)) hown (mvT hZ (own_w hw 24 rfl)) (mvT hZ (own_w hw 25 rfl)) (mvT hZ (own_w hw 26 rfl)) (mvT hZ (own_w hw 27 rfl)) (by decide) (backOf (W := 0) (rm5 l Z ar0 hw [] cc h342 n0 Z342) hZ (own_w hw 27 rfl) (own_w hw 26 rfl) (by decide) (by decide)) (g := (mkF m 10 #[vR a0, vR b342, vI 0, .unset, .unset, .unset] [(.int cc)])) rfl (by rw [hml]; rfl) (argsL := [(.int cc)]) (rest := []) (lenOf pd_2 rfl) rfl (by show 2 * 0 + _ ≤ _; exact Nat.le_of_eq rfl) (hb hby d4_10) (fun _ _ => ⟨rfl, e348, (by decide : 1 + 0 ≤ _), (by decide : 5 + 0 ≤ _)⟩)
 dsimp only [Pt.U, Pt.locs, Pt.cells, Pt.slots] at X350 l350 y350 z350 st350 hQ350
 subst l350 y350 z350
 obtain ⟨rfl, N350q, e350⟩ := hQ350
 have N350 := Fr.app N0 N350q
 have pre351 : own_P p e below T350 (mkF m 13 #[vR a0, vR b342, vI 0, .unset, .unset, .unset] [(.long (own_u0 cc))]) s₁ (entryFrame m #[(.ref a0)] 6) := fun t k => pre349 t (st350 t k)
 have pre352 : own_P p e below T350 (mkF m 32 #[vR a0, vR b342, vI 0, vJ (own_u1 cc), .second, vI (own_g0 cc)] [(.int (lcmpW (own_u1 cc) (0 : Int64))), (.int 0), (.ref b342)]) s₁ (entryFrame m #[(.ref a0)] 6) := by
  intro t k
  refine pre351 t ?_
  refine XS.lstoreN X350.here hx rfl (hb hby d4_13) rfl (l' := #[vR a0, vR b342, vI 0, vJ (own_u0 cc), .second, .unset]) rfl ?_
  refine XS.lloadN X350.here hx rfl (hb hby d4_14) rfl ?_
  refine X350.ldc2Long hx hown (mvT hZ (own_w hw 29 rfl)) (g := (mkF m 15 #[vR a0, vR b342, vI 0, vJ (own_u0 cc), .second, .unset] [(.long (own_u0 cc))])) rfl (hb hby d4_15) _ ?_
  refine XS.land X350.here hx rfl (hb hby d4_18) rfl ?_
  refine XS.l2i X350.here hx rfl (hb hby d4_19) rfl ?_
  refine XS.istore X350.here hx rfl (hb hby d4_20) rfl (l' := #[vR a0, vR b342, vI 0, vJ (own_u0 cc), .second, vI (own_g0 cc)]) rfl ?_
  refine XS.lloadN X350.here hx rfl (hb hby d4_22) rfl ?_
  refine XS.bipush X350.here hx rfl (hb hby d4_23) ?_
  refine XS.lushr X350.here hx rfl (hb hby d4_25) rfl ?_
  refine XS.lstoreN X350.here hx rfl (hb hby d4_26) rfl (l' := #[vR a0, vR b342, vI 0, vJ (own_u1 cc), .second, vI (own_g0 cc)]) rfl ?_
  refine XS.aloadN X350.here hx rfl (hb hby d4_27) rfl rfl ?_
  refine XS.iloadN X350.here hx rfl (hb hby d4_28) rfl ?_
  refine XS.lloadN X350.here hx rfl (hb hby d4_29) rfl ?_
  refine XS.lconst X350.here hx rfl (hb hby d4_30) ?_
  refine XS.lcmp X350.here hx rfl (hb hby d4_31) rfl ?_
  exact k
 have hk353 : ¬ ((own_u1 cc) = (0 : Int64)) := hz1
 have pre354 : own_P p e below T350 (mkF m 47 #[vR a0, vR b342, vI 0, vJ (own_u1 cc), .second, vI (own_g0 cc)] [(.int (((own_g0 cc) ||| (128 : Int32)).toInt8.toInt32)), (.int 0), (.ref b342)]) s₁ (entryFrame m #[(.ref a0)] 6) := by
  intro t k
  refine pre352 t ?_
  refine XS.ifYes X350.here hx rfl (pc0 := 32) (pc' := 40) rfl (hb hby d4_32) rfl ((if0 _ _).trans (feq (own_neL hk353)).2) (by decide) (by decide) ?_
  refine XS.iload X350.here hx rfl (hb hby d4_40) rfl ?_
  refine XS.sipush X350.here hx rfl (hb hby d4_42) ?_
  refine XS.ior X350.here hx rfl (hb hby d4_45) rfl ?_
  refine XS.i2b X350.here hx rfl (hb hby d4_46) rfl ?_
  exact k
 obtain ⟨cl355, Ar355, q355, S355, M355, H355, G355⟩ := id V_b342
 have hin355 : ¬ ((0 : Int32) < 0 ∨ cl355.slots.size ≤ ((0 : Int32)).toNatClampNeg) := inb_of S355 ⟨by decide, by decide⟩
 obtain ⟨T355, h355, X355, e355, W355, st355⟩ := stB X350 hx hZ e350 Ar355 (j := (0 : Int32)) hin355 (g := (mkF m 47 #[vR a0, vR b342, vI 0, vJ (own_u1 cc), .second, vI (own_g0 cc)] [(.int (((own_g0 cc) ||| (128 : Int32)).toInt8.toInt32)), (.int 0), (.ref b342)])) rfl rfl (hb hby d4_47)
 have Z355 : n0 ≤ h355.size := Nat.le_trans Z342 (Keep.of_wr W355).1
 have K355 : Keep h0 h355 [] := K342.wr W355 (Or.inr sz_b342)
 have N355 := Fr.snoc X355 N350 g_b342
 have Ff356 : Fld Z h355 a0 own_CK "collection" "I" (.int cc) := (Ff343).other W355 (Or.inl ne_a0_b342)
 have Ff357 : Fld Z h355 a0 own_CK "documentKey" "[B" (.ref r1) := (Ff344).other W355 (Or.inl ne_a0_b342)
 have Vf358 : Arv Z h355 r1 k_r1 .byte (0 : Int32) [] (.int 0) := (Vf345).other W355 ne_r1_b342
 have Ef359 : Exa Z h355 b342 "[B" := (C342).wr W355
 have V355 : Arv Z h355 b342 k342 .byte (5 : Int32) [(.int (own_m0 cc)), (.int 0), (.int 0), (.int 0), (.int 0)] (.int 0) := Arv.set Ar355 q355 S355 M355 H355 G355 (fits_nar_byte _) W355 0 rfl (Nat.le_of_ble_eq_true rfl)
 have pre360 : own_P p e below T355 (mkF m 48 #[vR a0, vR b342, vI 0, vJ (own_u1 cc), .second, vI (own_g0 cc)] []) s₁ (entryFrame m #[(.ref a0)] 6) := fun t k => pre354 t (st355 t k)
 have pre361 : own_P p e below T355 (mkF m 32 #[vR a0, vR b342, vI 1, vJ (own_u2 cc), .second, vI (own_g1 cc)] [(.int (lcmpW (own_u2 cc) (0 : Int64))), (.int 1), (.ref b342)]) s₁ (entryFrame m #[(.ref a0)] 6) := by
  intro t k
  refine pre360 t ?_
  refine XS.iinc X355.here hx rfl (hb hby d4_48) rfl (l' := #[vR a0, vR b342, vI 1, vJ (own_u1 cc), .second, vI (own_g0 cc)]) rfl ?_
  refine XS.lloadN X355.here hx rfl (hb hby d4_51) rfl ?_
  refine XS.lconst X355.here hx rfl (hb hby d4_52) ?_
  refine XS.lcmp X355.here hx rfl (hb hby d4_53) rfl ?_
  refine XS.ifYes X355.here hx rfl (pc0 := 54) (pc' := 14) rfl (hb hby d4_54) rfl ((if0 _ _).trans (feq (own_neL hk353)).2) (by decide) (by decide) ?_
  refine XS.lloadN X355.here hx rfl (hb hby d4_14) rfl ?_
  refine X355.ldc2Long hx hown (mvT hZ (own_w hw 29 rfl)) (g := (mkF m 15 #[vR a0, vR b342, vI 1, vJ (own_u1 cc), .second, vI (own_g0 cc)] [(.long (own_u1 cc))])) rfl (hb hby d4_15) _ ?_
  refine XS.land X355.here hx rfl (hb hby d4_18) rfl ?_
  refine XS.l2i X355.here hx rfl (hb hby d4_19) rfl ?_
  refine XS.istore X355.here hx rfl (hb hby d4_20) rfl (l' := #[vR a0, vR b342, vI 1, vJ (own_u1 cc), .second, vI (own_g1 cc)]) rfl ?_
  refine XS.lloadN X355.here hx rfl (hb hby d4_22) rfl ?_
  refine XS.bipush X355.here hx rfl (hb hby d4_23) ?_
  refine XS.lushr X355.here hx rfl (hb hby d4_25) rfl ?_
  refine XS.lstoreN X355.here hx rfl (hb hby d4_26) rfl (l' := #[vR a0, vR b342, vI 1, vJ (own_u2 cc), .second, vI (own_g1 cc)]) rfl ?_
  refine XS.aloadN X355.here hx rfl (hb hby d4_27) rfl rfl ?_
  refine XS.iloadN X355.here hx rfl (hb hby d4_28) rfl ?_
  refine XS.lloadN X355.here hx rfl (hb hby d4_29) rfl ?_
  refine XS.lconst X355.here hx rfl (hb hby d4_30) ?_
  refine XS.lcmp X355.here hx rfl (hb hby d4_31) rfl ?_
  exact k
 have hk362 : (own_u2 cc) = (0 : Int64) := hz2
 have pre363 : own_P p e below T355 (mkF m 47 #[vR a0, vR b342, vI 1, vJ (own_u2 cc), .second, vI (own_g1 cc)] [(.int ((own_g1 cc).toInt8.toInt32)), (.int 1), (.ref b342)]) s₁ (entryFrame m #[(.ref a0)] 6) := by
  intro t k
  refine pre361 t ?_
  refine XS.ifNo X355.here hx rfl (hb hby d4_32) rfl ((if0 _ _).trans (teq (own_eqL hk362)).2) ?_
  refine XS.iload X355.here hx rfl (hb hby d4_35) rfl ?_
  refine XS.goto X355.here hx rfl (pc0 := 37) (pc' := 46) rfl (hb hby d4_37) (by decide) (by decide) ?_
  refine XS.i2b X355.here hx rfl (hb hby d4_46) rfl ?_
  exact k
 obtain ⟨cl364, Ar364, q364, S364, M364, H364, G364⟩ := id V355
 have hin364 : ¬ ((1 : Int32) < 0 ∨ cl364.slots.size ≤ ((1 : Int32)).toNatClampNeg) := inb_of S364 ⟨by decide, by decide⟩
 obtain ⟨T364, h364, X364, e364, W364, st364⟩ := stB X355 hx hZ e355 Ar364 (j := (1 : Int32)) hin364 (g := (mkF m 47 #[vR a0, vR b342, vI 1, vJ (own_u2 cc), .second, vI (own_g1 cc)] [(.int ((own_g1 cc).toInt8.toInt32)), (.int 1), (.ref b342)])) rfl rfl (hb hby d4_47)
 have Z364 : n0 ≤ h364.size := Nat.le_trans Z355 (Keep.of_wr W364).1
 have K364 : Keep h0 h364 [] := K355.wr W364 (Or.inr sz_b342)
 have N364 := Fr.snoc X364 N355 g_b342
 have Ff365 : Fld Z h364 a0 own_CK "collection" "I" (.int cc) := (Ff356).other W364 (Or.inl ne_a0_b342)
 have Ff366 : Fld Z h364 a0 own_CK "documentKey" "[B" (.ref r1) := (Ff357).other W364 (Or.inl ne_a0_b342)
 have Vf367 : Arv Z h364 r1 k_r1 .byte (0 : Int32) [] (.int 0) := (Vf358).other W364 ne_r1_b342
 have Ef368 : Exa Z h364 b342 "[B" := (Ef359).wr W364
 have V364 : Arv Z h364 b342 k342 .byte (5 : Int32) [(.int (own_m0 cc)), (.int (own_l1 cc)), (.int 0), (.int 0), (.int 0)] (.int 0) := Arv.set Ar364 q364 S364 M364 H364 G364 (fits_nar_byte _) W364 1 rfl (Nat.le_of_ble_eq_true rfl)
 have pre369 : own_P p e below T364 (mkF m 48 #[vR a0, vR b342, vI 1, vJ (own_u2 cc), .second, vI (own_g1 cc)] []) s₁ (entryFrame m #[(.ref a0)] 6) := fun t k => pre363 t (st364 t k)
 have pre370 : own_P p e below T364 (mkF m 60 #[vR a0, vR b342, vI 2, vJ (own_u2 cc), .second, vI (own_g1 cc)] [(.ref a0), (.int 2), (.ref b342)]) s₁ (entryFrame m #[(.ref a0)] 6) := by
  intro t k
  refine pre369 t ?_
  refine XS.iinc X364.here hx rfl (hb hby d4_48) rfl (l' := #[vR a0, vR b342, vI 2, vJ (own_u2 cc), .second, vI (own_g1 cc)]) rfl ?_
  refine XS.lloadN X364.here hx rfl (hb hby d4_51) rfl ?_
  refine XS.lconst X364.here hx rfl (hb hby d4_52) ?_
  refine XS.lcmp X364.here hx rfl (hb hby d4_53) rfl ?_
  refine XS.ifNo X364.here hx rfl (hb hby d4_54) rfl ((if0 _ _).trans (teq (own_eqL hk362)).2) ?_
  refine XS.aloadN X364.here hx rfl (hb hby d4_57) rfl rfl ?_
  refine XS.iloadN X364.here hx rfl (hb hby d4_58) rfl ?_
  refine XS.aloadN X364.here hx rfl (hb hby d4_59) rfl rfl ?_
  exact k
 obtain ⟨T371, X371, e371, st371⟩ := getF X364 hx hZ hown (host := "") (Or.inl (own_w hw 17 rfl)) Via.refl e364 Ff366 (g := (mkF m 60 #[vR a0, vR b342, vI 2, vJ (own_u2 cc), .second, vI (own_g1 cc)] [(.ref a0), (.int 2), (.ref b342)])) rfl rfl (hb hby d4_60)
 have pre372 : own_P p e below T371 (mkF m 63 #[vR a0, vR b342, vI 2, vJ (own_u2 cc), .second, vI (own_g1 cc)] [(.ref r1), (.int 2), (.ref b342)]) s₁ (entryFrame m #[(.ref a0)] 6) := fun t k => pre370 t (st371 t k)
 obtain ⟨cl373, Ar373, q373, S373, M373, H373, G373⟩ := id Vf367
 have pre374 : own_P p e below T371 (mkF m 65 #[vR a0, vR b342, vI 2, vJ (own_u2 cc), .second, vI (own_g1 cc)] [(.int 2), (.ref b342)]) s₁ (entryFrame m #[(.ref a0)] 6) := by
  intro t k
  refine pre372 t ?_
  refine X371.arraylength hx (by rw [e371]; exact Ar373.1) (State.isArrayOf_alike hZ.alike Ar373.2.1) (g := (mkF m 63 #[vR a0, vR b342, vI 2, vJ (own_u2 cc), .second, vI (own_g1 cc)] [(.ref r1), (.int 2), (.ref b342)])) rfl rfl (hb hby d4_63) _ ?_
  rw [len_of S373 M373]
  refine XS.iadd X371.here hx rfl (hb hby d4_64) rfl ?_
  exact k
 obtain ⟨_, _, ⟨T375, L375, k375, n375⟩, -, X375, ⟨Lc375, hQ375, l375, y375, z375⟩, st375⟩ := Jvm.LawKit.callS X371 hx (y := (⟨"java/util/Arrays", "copyOf", "([BI)[B"⟩ : MethodName)) hown (mvT hZ (own_w hw 30 rfl)) (mvT hZ (own_w hw 31 rfl)) (mvT hZ (own_w hw 32 rfl)) (mvT hZ (own_w hw 33 rfl)) (by decide) (backOf (W := 0) (rm6_2 l Z ar0 hw [] b342 k342 (own_m0 cc) (own_l1 cc) (0 : Int32) (0 : Int32) (0 : Int32) h364 n0 Z364 V364 Ef368) hZ (own_w hw 33 rfl) (own_w hw 32 rfl) (by decide) (by decide)) (g := (mkF m 65 #[vR a0, vR b342, vI 2, vJ (own_u2 cc), .second, vI (own_g1 cc)] [(.int 2), (.ref b342)])) rfl (by rw [hml]; rfl) (argsL := [(.ref b342), (.int 2)]) (rest := []) (lenOf pd_3 rfl) rfl (by show 2 * 0 + _ ≤ _; exact Nat.le_of_eq rfl) (hb hby d4_65) (fun _ _ => ⟨rfl, e371, (by decide : 1 + 1 ≤ _), (by decide : 5 + 2 ≤ _)⟩)
 dsimp only [Pt.U, Pt.locs, Pt.cells, Pt.slots] at X375 l375 y375 z375 st375 hQ375
 subst l375 y375 z375
 obtain ⟨h375, e375⟩ : ∃ h, T375.heap = h := ⟨_, rfl⟩
 rw [e375] at hQ375
 obtain ⟨b375, kb375, rfl, N375q, K375q, y_b375, Ob375_0, Ob375_1⟩ := hQ375
 have N375 := Fr.app N364 N375q
 have ne_a0_b375 : a0 ≠ b375 := Nat.ne_of_lt (Nat.lt_of_lt_of_le (Ff365).lt y_b375)
 have ne_r1_b375 : r1 ≠ b375 := Nat.ne_of_lt (Nat.lt_of_lt_of_le (Vf367).lt y_b375)
 have ne_b342_b375 : b342 ≠ b375 := Nat.ne_of_lt (Nat.lt_of_lt_of_le (Ef368).lt y_b375)
 have g_b375 : n0 ≤ b375 := Nat.le_trans Z364 y_b375
 have sz_b375 : h0.size ≤ b375 := Nat.le_trans K364.1 y_b375
 have Z375 : n0 ≤ h375.size := Nat.le_trans Z364 K375q.1
 have K375 : Keep h0 h375 [] := K364.trans K375q (fun x hx => absurd hx List.not_mem_nil)
 have Ff376 : Fld Z h375 a0 own_CK "collection" "I" (.int cc) := (Ff365).keep K375q List.not_mem_nil
 have Ff377 : Fld Z h375 a0 own_CK "documentKey" "[B" (.ref r1) := (Ff366).keep K375q List.not_mem_nil
 have Vf378 : Arv Z h375 r1 k_r1 .byte (0 : Int32) [] (.int 0) := (Vf367).keep K375q List.not_mem_nil
 have Ef379 : Exa Z h375 b342 "[B" := (Ef368).keep K375q
 have Vf380 : Arv Z h375 b342 k342 .byte (5 : Int32) [(.int (own_m0 cc)), (.int (own_l1 cc)), (.int 0), (.int 0), (.int 0)] (.int 0) := (V364).keep K375q List.not_mem_nil
 have pre381 : own_P p e below T375 (mkF m 68 #[vR a0, vR b342, vI 2, vJ (own_u2 cc), .second, vI (own_g1 cc)] [(.ref b375)]) s₁ (entryFrame m #[(.ref a0)] 6) := fun t k => pre374 t (st375 t k)
 have pre382 : own_P p e below T375 (mkF m 71 #[vR a0, vR b342, vI 2, vJ (own_u2 cc), .second, vR b375] [(.ref a0)]) s₁ (entryFrame m #[(.ref a0)] 6) := by
  intro t k
  refine pre381 t ?_
  refine XS.astore X375.here hx rfl (hb hby d4_68) rfl rfl (l' := #[vR a0, vR b342, vI 2, vJ (own_u2 cc), .second, vR b375]) rfl ?_
  refine XS.aloadN X375.here hx rfl (hb hby d4_70) rfl rfl ?_
  exact k
 obtain ⟨T383, X383, e383, st383⟩ := getF X375 hx hZ hown (host := "") (Or.inl (own_w hw 17 rfl)) Via.refl e375 Ff377 (g := (mkF m 71 #[vR a0, vR b342, vI 2, vJ (own_u2 cc), .second, vR b375] [(.ref a0)])) rfl rfl (hb hby d4_71)
 have pre384 : own_P p e below T383 (mkF m 74 #[vR a0, vR b342, vI 2, vJ (own_u2 cc), .second, vR b375] [(.ref r1)]) s₁ (entryFrame m #[(.ref a0)] 6) := fun t k => pre382 t (st383 t k)
 have pre385 : own_P p e below T383 (mkF m 79 #[vR a0, vR b342, vI 2, vJ (own_u2 cc), .second, vR b375] [(.ref a0), (.int 2), (.ref b375), (.int 0), (.ref r1)]) s₁ (entryFrame m #[(.ref a0)] 6) := by
  intro t k
  refine pre384 t ?_
  refine XS.iconst X383.here hx rfl (hb hby d4_74) ?_
  refine XS.aload X383.here hx rfl (hb hby d4_75) rfl rfl ?_
  refine XS.iloadN X383.here hx rfl (hb hby d4_77) rfl ?_
  refine XS.aloadN X383.here hx rfl (hb hby d4_78) rfl rfl ?_
  exact k
 obtain ⟨T386, X386, e386, st386⟩ := getF X383 hx hZ hown (host := "") (Or.inl (own_w hw 17 rfl)) Via.refl e383 Ff377 (g := (mkF m 79 #[vR a0, vR b342, vI 2, vJ (own_u2 cc), .second, vR b375] [(.ref a0), (.int 2), (.ref b375), (.int 0), (.ref r1)])) rfl rfl (hb hby d4_79)
 have pre387 : own_P p e below T386 (mkF m 82 #[vR a0, vR b342, vI 2, vJ (own_u2 cc), .second, vR b375] [(.ref r1), (.int 2), (.ref b375), (.int 0), (.ref r1)]) s₁ (entryFrame m #[(.ref a0)] 6) := fun t k => pre385 t (st386 t k)
 obtain ⟨cl388, Ar388, q388, S388, M388, H388, G388⟩ := id Vf378
 have pre389 : own_P p e below T386 (mkF m 83 #[vR a0, vR b342, vI 2, vJ (own_u2 cc), .second, vR b375] [(.int 0), (.int 2), (.ref b375), (.int 0), (.ref r1)]) s₁ (entryFrame m #[(.ref a0)] 6) := by
  intro t k
  refine pre387 t ?_
  refine X386.arraylength hx (by rw [e386]; exact Ar388.1) (State.isArrayOf_alike hZ.alike Ar388.2.1) (g := (mkF m 82 #[vR a0, vR b342, vI 2, vJ (own_u2 cc), .second, vR b375] [(.ref r1), (.int 2), (.ref b375), (.int 0), (.ref r1)])) rfl rfl (hb hby d4_82) _ ?_
  rw [len_of S388 M388]
  exact k
 obtain ⟨T390, h390, L390, X390, e390, N390, K390q, V390q, st390⟩ := cpA X386 hx hZ hown (own_w hw 42 rfl) (own_w hw 41 rfl) (own_w hw 39 rfl) (own_w hw 40 rfl) e386 Vf378 Ob375_1 (Or.inl ⟨rfl, rfl⟩) (by decide) (by decide) (by decide) (by decide) (by decide) (us := []) rfl (Nat.le_of_ble_eq_true rfl) N375 g_b375 (g := (mkF m 83 #[vR a0, vR b342, vI 2, vJ (own_u2 cc), .second, vR b375] [(.int 0), (.int 2), (.ref b375), (.int 0), (.ref r1)])) rfl (by rw [hml]; rfl) rfl (hb hby d4_83) (by decide) (W := 0) (by show 2 * 0 + _ ≤ _; exact Nat.le_of_eq rfl) (by decide)
 have Z390 : n0 ≤ h390.size := Nat.le_trans Z375 K390q.1
 have K390 : Keep h0 h390 [] := K375.trans K390q (fun x hx => by cases List.mem_singleton.mp hx; exact Or.inr sz_b375)
 have Ff391 : Fld Z h390 a0 own_CK "collection" "I" (.int cc) := (Ff376).keep K390q (fun q => absurd (List.mem_singleton.mp q) ne_a0_b375)
 have Ff392 : Fld Z h390 a0 own_CK "documentKey" "[B" (.ref r1) := (Ff377).keep K390q (fun q => absurd (List.mem_singleton.mp q) ne_a0_b375)
 have Vf393 : Arv Z h390 r1 k_r1 .byte (0 : Int32) [] (.int 0) := (Vf378).keep K390q (fun q => absurd (List.mem_singleton.mp q) ne_r1_b375)
 have Ef394 : Exa Z h390 b342 "[B" := (Ef379).keep K390q
 have Vf395 : Arv Z h390 b342 k342 .byte (5 : Int32) [(.int (own_m0 cc)), (.int (own_l1 cc)), (.int 0), (.int 0), (.int 0)] (.int 0) := (Vf380).keep K390q (fun q => absurd (List.mem_singleton.mp q) ne_b342_b375)
 have Ef396 : Exa Z h390 b375 "[B" := (Ob375_0).keep K390q
 have V390 : Arv Z h390 b375 kb375 .byte (2 : Int32) [(.int (own_m0 cc)), (.int (own_l1 cc))] (.int 0) := V390q
 have pre397 : own_P p e below T390 (mkF m 86 #[vR a0, vR b342, vI 2, vJ (own_u2 cc), .second, vR b375] []) s₁ (entryFrame m #[(.ref a0)] 6) := fun t k => pre389 t (st390 t k)
 obtain ⟨fs, hr, hrun, hended, hW, hsame⟩ := X390.leave (v := some (.ref b375)) (fun h => by rw [Bd.returns] at h; cases h)
 refine ⟨_, _, pre397 _ ?_, hrun, hended, _, _, rfl, ?_, ⟨_, rfl⟩, hW, hsame.mono (by decide) (by decide)⟩
 ·
  refine XS.aload X390.here hx rfl (hb hby d4_86) rfl rfl ?_
  exact retOut X390 hx Bd.returns rfl (Or.inr (Or.inr (Or.inr (Or.inr ⟨rfl, rfl, rfl⟩)))) (hb hby d4_88) hr
 ·
  show Q4_2_0 Z a0 cc r1 k_r1 h0 n0 _ T390.heap _
  rw [e390]
  exact ⟨b375, kb375, rfl, N390, K390, sz_b375, Ef396, V390⟩
def Q4_2_1 (Z : State) (a0 : Addr) (cc : Int32) (r1 : Addr) (k_r1 : ClassId) (y0 : Int32) (h0 : Heap) (n0 : Nat) (v : Option Value) (h : Heap) (L : List Loc) : Prop := ∃ (b : Addr) (k_b : ClassId), v = some (.ref b) ∧ Fr n0 L ∧ Keep h0 h [] ∧ h0.size ≤ b ∧ Exa Z h b "[B" ∧ Arv Z h b k_b .byte (3 : Int32) [(.int (own_m0 cc)), (.int (own_l1 cc)), (.int y0)] (.int 0)
set_option maxRecDepth 65536 in
set_option maxHeartbeats 40000000 in
theorem rm4_2_1 (l : Launch) (Z : State) (ar0 : Array Value) (hw : ∀ d ∈ tables_1, d.before ar0 Z = true) (ws : List Jvm.Cond) (a0 : Addr) (cc : Int32) (r1 : Addr) (k_r1 : ClassId) (y0 : Int32) (h0 : Heap) (n0 : Nat) (Z0 : n0 ≤ h0.size) (F_collection_a0 : Fld Z h0 a0 own_CK "collection" "I" (.int cc)) (F_documentKey_a0 : Fld Z h0 a0 own_CK "documentKey" "[B" (.ref r1)) (V_r1 : Arv Z h0 r1 k_r1 .byte (1 : Int32) [(.int y0)] (.int 0)) (hz1 : ¬ ((own_u1 cc) = (0 : Int64))) (hz2 : (own_u2 cc) = (0 : Int64)) :
  MetFree l (⟨own_CK, "write", "()[B"⟩ : MethodName) (head1 (Jvm.Cond.code (⟨own_CK, "write", "()[B"⟩ : MethodName) prog_8_method_3_code 6 (some (.array .byte)) :: ws) ({ frames := 2, cells := 2, slots := 8, locals := 32 } : Room)) (fun a U => a = #[(.ref a0)] ∧ Z.Warmed39 U.vm ∧ U.heap = h0) (fun _ _ _ _ _ => True) (fun _ U o U' => ∃ v L, o = .returned v ∧ Q4_2_1 Z a0 cc r1 k_r1 y0 h0 n0 v U'.heap L ∧ FrameEnd U o U' L ({ frames := 2, cells := 2, slots := 8, locals := 32 } : Room).cells ({ frames := 2, cells := 2, slots := 8, locals := 32 } : Room).slots) := by
 refine MetFree.of_bodySF (plainFor_of_name pn_1) hisR ?_
 intro p e s m args below meth c s₁ Bd hml0 hP hK
 obtain ⟨rfl, hZ, hh⟩ := hP
 have hx := Bd.exec
 have hby := Bd.bytes
 have hml : c.maxLocals = 6 := hml0
 have hown : s.vm.findClass own_CK = some m.cls := by have q := findClass_of_methodNamed Bd.named; exact q
 have hnm := (name_of_methodNamed Bd.named Bd.method).1
 have X0 : Stand p l e ({ frames := 2, cells := 2, slots := 8, locals := 32 } : Room) s m #[(.ref a0)] below meth c s₁ [] 0 0 := Stand.of_body Bd
 have e0 : s₁.heap = h0 := by rw [← hh, Bd.state]; rfl
 have N0 := Fr.nil n0
 have pre0 : own_P p e below s₁ (mkF m 0 #[vR a0, .unset, .unset, .unset, .unset, .unset] []) s₁ (entryFrame m #[(.ref a0)] 6) := fun t k => castTop (ef_4 m a0) k
 have pre398 : own_P p e below s₁ (mkF m 1 #[vR a0, .unset, .unset, .unset, .unset, .unset] [(.int 5)]) s₁ (entryFrame m #[(.ref a0)] 6) := by
  intro t k
  refine pre0 t ?_
  refine XS.iconst X0.here hx rfl (hb hby d4_0) ?_
  exact k
 obtain ⟨T399, h399, k399, X399, e399, E399, A399, C399, st399⟩ := newPE X0 hx hZ (own_w hw 0 rfl) e0 (g := (mkF m 1 #[vR a0, .unset, .unset, .unset, .unset, .unset] [(.int 5)])) rfl (hb hby d4_1) rfl (by decide) (cap := 5) (by decide) (by decide) (by decide) (by decide) (ad := "[B") rfl
 obtain ⟨b399, g399⟩ : ∃ z, z = h0.size := ⟨_, rfl⟩
 rw [← g399] at A399 C399 st399
 have ne_a0_b399 : a0 ≠ b399 := Nat.ne_of_lt (Nat.lt_of_lt_of_le (F_collection_a0).lt (Nat.le_of_eq g399.symm))
 have ne_r1_b399 : r1 ≠ b399 := Nat.ne_of_lt (Nat.lt_of_lt_of_le (V_r1).lt (Nat.le_of_eq g399.symm))
 have g_b399 : n0 ≤ b399 := Nat.le_trans Z0 (Nat.le_of_eq g399.symm)
 have sz_b399 : h0.size ≤ b399 := Nat.le_trans (Keep.refl h0 []).1 (Nat.le_of_eq g399.symm)
 have Z399 : n0 ≤ h399.size := Nat.le_trans Z0 E399.1
 have K399 : Keep h0 h399 [] := (Keep.refl h0 []).ext E399
 have Ff400 : Fld Z h399 a0 own_CK "collection" "I" (.int cc) := (F_collection_a0).ext E399
 have Ff401 : Fld Z h399 a0 own_CK "documentKey" "[B" (.ref r1) := (F_documentKey_a0).ext E399
 have Vf402 : Arv Z h399 r1 k_r1 .byte (1 : Int32) [(.int y0)] (.int 0) := (V_r1).ext E399
 have V_b399 : Arv Z h399 b399 k399 .byte (5 : Int32) [(.int 0), (.int 0), (.int 0), (.int 0), (.int 0)] (.int 0) := (Arv.new A399 (by decide)).pad (pad_rep [] (.int 0) 5)
 have pre403 : own_P p e below T399 (mkF m 3 #[vR a0, .unset, .unset, .unset, .unset, .unset] [(.ref b399)]) s₁ (entryFrame m #[(.ref a0)] 6) := fun t k => pre398 t (st399 t k)
 have pre404 : own_P p e below T399 (mkF m 7 #[vR a0, vR b399, vI 0, .unset, .unset, .unset] [(.ref a0)]) s₁ (entryFrame m #[(.ref a0)] 6) := by
  intro t k
  refine pre403 t ?_
  refine XS.astoreN X399.here hx rfl (hb hby d4_3) rfl rfl (l' := #[vR a0, vR b399, .unset, .unset, .unset, .unset]) rfl ?_
  refine XS.iconst X399.here hx rfl (hb hby d4_4) ?_
  refine XS.istoreN X399.here hx rfl (hb hby d4_5) rfl (l' := #[vR a0, vR b399, vI 0, .unset, .unset, .unset]) rfl ?_
  refine XS.aloadN X399.here hx rfl (hb hby d4_6) rfl rfl ?_
  exact k
 obtain ⟨T405, X405, e405, st405⟩ := getF X399 hx hZ hown (host := "") (Or.inl (own_w hw 15 rfl)) Via.refl e399 Ff400 (g := (mkF m 7 #[vR a0, vR b399, vI 0, .unset, .unset, .unset] [(.ref a0)])) rfl rfl (hb hby d4_7)
 have pre406 : own_P p e below T405 (mkF m 10 #[vR a0, vR b399, vI 0, .unset, .unset, .unset] [(.int cc)]) s₁ (entryFrame m #[(.ref a0)] 6) := fun t k => pre404 t (st405 t k)
 obtain ⟨_, _, ⟨T407, L407, k407, n407⟩, -, X407, ⟨Lc407, hQ407, l407, y407, z407⟩, st407⟩ := Jvm.LawKit.callS X405 hx (y := (⟨"java/lang/Integer", "toUnsignedLong", "(I)J"⟩ : MethodName)) hown (mvT hZ (own_w hw 24 rfl)) (mvT hZ (own_w hw 25 rfl)) (mvT hZ (own_w hw 26 rfl)) (mvT hZ (own_w hw 27 rfl)) (by decide) (backOf (W := 0) (rm5 l Z ar0 hw [] cc h399 n0 Z399) hZ (own_w hw 27 rfl) (own_w hw 26 rfl) (by decide) (by decide)) (g := (mkF m 10 #[vR a0, vR b399, vI 0, .unset, .unset, .unset] [(.int cc)])) rfl (by rw [hml]; rfl) (argsL := [(.int cc)]) (rest := []) (lenOf pd_2 rfl) rfl (by show 2 * 0 + _ ≤ _; exact Nat.le_of_eq rfl) (hb hby d4_10) (fun _ _ => ⟨rfl, e405, (by decide : 1 + 0 ≤ _), (by decide : 5 + 0 ≤ _)⟩)
 dsimp only [Pt.U, Pt.locs, Pt.cells, Pt.slots] at X407 l407 y407 z407 st407 hQ407
 subst l407 y407 z407
 obtain ⟨rfl, N407q, e407⟩ := hQ407
 have N407 := Fr.app N0 N407q
 have pre408 : own_P p e below T407 (mkF m 13 #[vR a0, vR b399, vI 0, .unset, .unset, .unset] [(.long (own_u0 cc))]) s₁ (entryFrame m #[(.ref a0)] 6) := fun t k => pre406 t (st407 t k)
 have pre409 : own_P p e below T407 (mkF m 32 #[vR a0, vR b399, vI 0, vJ (own_u1 cc), .second, vI (own_g0 cc)] [(.int (lcmpW (own_u1 cc) (0 : Int64))), (.int 0), (.ref b399)]) s₁ (entryFrame m #[(.ref a0)] 6) := by
  intro t k
  refine pre408 t ?_
  refine XS.lstoreN X407.here hx rfl (hb hby d4_13) rfl (l' := #[vR a0, vR b399, vI 0, vJ (own_u0 cc), .second, .unset]) rfl ?_
  refine XS.lloadN X407.here hx rfl (hb hby d4_14) rfl ?_
  refine X407.ldc2Long hx hown (mvT hZ (own_w hw 29 rfl)) (g := (mkF m 15 #[vR a0, vR b399, vI 0, vJ (own_u0 cc), .second, .unset] [(.long (own_u0 cc))])) rfl (hb hby d4_15) _ ?_
  refine XS.land X407.here hx rfl (hb hby d4_18) rfl ?_
  refine XS.l2i X407.here hx rfl (hb hby d4_19) rfl ?_
  refine XS.istore X407.here hx rfl (hb hby d4_20) rfl (l' := #[vR a0, vR b399, vI 0, vJ (own_u0 cc), .second, vI (own_g0 cc)]) rfl ?_
  refine XS.lloadN X407.here hx rfl (hb hby d4_22) rfl ?_
  refine XS.bipush X407.here hx rfl (hb hby d4_23) ?_
  refine XS.lushr X407.here hx rfl (hb hby d4_25) rfl ?_
  refine XS.lstoreN X407.here hx rfl (hb hby d4_26) rfl (l' := #[vR a0, vR b399, vI 0, vJ (own_u1 cc), .second, vI (own_g0 cc)]) rfl ?_
  refine XS.aloadN X407.here hx rfl (hb hby d4_27) rfl rfl ?_
  refine XS.iloadN X407.here hx rfl (hb hby d4_28) rfl ?_
  refine XS.lloadN X407.here hx rfl (hb hby d4_29) rfl ?_
  refine XS.lconst X407.here hx rfl (hb hby d4_30) ?_
  refine XS.lcmp X407.here hx rfl (hb hby d4_31) rfl ?_
  exact k
 have hk410 : ¬ ((own_u1 cc) = (0 : Int64)) := hz1
 have pre411 : own_P p e below T407 (mkF m 47 #[vR a0, vR b399, vI 0, vJ (own_u1 cc), .second, vI (own_g0 cc)] [(.int (((own_g0 cc) ||| (128 : Int32)).toInt8.toInt32)), (.int 0), (.ref b399)]) s₁ (entryFrame m #[(.ref a0)] 6) := by
  intro t k
  refine pre409 t ?_
  refine XS.ifYes X407.here hx rfl (pc0 := 32) (pc' := 40) rfl (hb hby d4_32) rfl ((if0 _ _).trans (feq (own_neL hk410)).2) (by decide) (by decide) ?_
  refine XS.iload X407.here hx rfl (hb hby d4_40) rfl ?_
  refine XS.sipush X407.here hx rfl (hb hby d4_42) ?_
  refine XS.ior X407.here hx rfl (hb hby d4_45) rfl ?_
  refine XS.i2b X407.here hx rfl (hb hby d4_46) rfl ?_
  exact k
 obtain ⟨cl412, Ar412, q412, S412, M412, H412, G412⟩ := id V_b399
 have hin412 : ¬ ((0 : Int32) < 0 ∨ cl412.slots.size ≤ ((0 : Int32)).toNatClampNeg) := inb_of S412 ⟨by decide, by decide⟩
 obtain ⟨T412, h412, X412, e412, W412, st412⟩ := stB X407 hx hZ e407 Ar412 (j := (0 : Int32)) hin412 (g := (mkF m 47 #[vR a0, vR b399, vI 0, vJ (own_u1 cc), .second, vI (own_g0 cc)] [(.int (((own_g0 cc) ||| (128 : Int32)).toInt8.toInt32)), (.int 0), (.ref b399)])) rfl rfl (hb hby d4_47)
 have Z412 : n0 ≤ h412.size := Nat.le_trans Z399 (Keep.of_wr W412).1
 have K412 : Keep h0 h412 [] := K399.wr W412 (Or.inr sz_b399)
 have N412 := Fr.snoc X412 N407 g_b399
 have Ff413 : Fld Z h412 a0 own_CK "collection" "I" (.int cc) := (Ff400).other W412 (Or.inl ne_a0_b399)
 have Ff414 : Fld Z h412 a0 own_CK "documentKey" "[B" (.ref r1) := (Ff401).other W412 (Or.inl ne_a0_b399)
 have Vf415 : Arv Z h412 r1 k_r1 .byte (1 : Int32) [(.int y0)] (.int 0) := (Vf402).other W412 ne_r1_b399
 have Ef416 : Exa Z h412 b399 "[B" := (C399).wr W412
 have V412 : Arv Z h412 b399 k399 .byte (5 : Int32) [(.int (own_m0 cc)), (.int 0), (.int 0), (.int 0), (.int 0)] (.int 0) := Arv.set Ar412 q412 S412 M412 H412 G412 (fits_nar_byte _) W412 0 rfl (Nat.le_of_ble_eq_true rfl)
 have pre417 : own_P p e below T412 (mkF m 48 #[vR a0, vR b399, vI 0, vJ (own_u1 cc), .second, vI (own_g0 cc)] []) s₁ (entryFrame m #[(.ref a0)] 6) := fun t k => pre411 t (st412 t k)
 have pre418 : own_P p e below T412 (mkF m 32 #[vR a0, vR b399, vI 1, vJ (own_u2 cc), .second, vI (own_g1 cc)] [(.int (lcmpW (own_u2 cc) (0 : Int64))), (.int 1), (.ref b399)]) s₁ (entryFrame m #[(.ref a0)] 6) := by
  intro t k
  refine pre417 t ?_
  refine XS.iinc X412.here hx rfl (hb hby d4_48) rfl (l' := #[vR a0, vR b399, vI 1, vJ (own_u1 cc), .second, vI (own_g0 cc)]) rfl ?_
  refine XS.lloadN X412.here hx rfl (hb hby d4_51) rfl ?_
  refine XS.lconst X412.here hx rfl (hb hby d4_52) ?_
  refine XS.lcmp X412.here hx rfl (hb hby d4_53) rfl ?_
  refine XS.ifYes X412.here hx rfl (pc0 := 54) (pc' := 14) rfl (hb hby d4_54) rfl ((if0 _ _).trans (feq (own_neL hk410)).2) (by decide) (by decide) ?_
  refine XS.lloadN X412.here hx rfl (hb hby d4_14) rfl ?_
  refine X412.ldc2Long hx hown (mvT hZ (own_w hw 29 rfl)) (g := (mkF m 15 #[vR a0, vR b399, vI 1, vJ (own_u1 cc), .second, vI (own_g0 cc)] [(.long (own_u1 cc))])) rfl (hb hby d4_15) _ ?_
  refine XS.land X412.here hx rfl (hb hby d4_18) rfl ?_
  refine XS.l2i X412.here hx rfl (hb hby d4_19) rfl ?_
  refine XS.istore X412.here hx rfl (hb hby d4_20) rfl (l' := #[vR a0, vR b399, vI 1, vJ (own_u1 cc), .second, vI (own_g1 cc)]) rfl ?_
  refine XS.lloadN X412.here hx rfl (hb hby d4_22) rfl ?_
  refine XS.bipush X412.here hx rfl (hb hby d4_23) ?_
  refine XS.lushr X412.here hx rfl (hb hby d4_25) rfl ?_
  refine XS.lstoreN X412.here hx rfl (hb hby d4_26) rfl (l' := #[vR a0, vR b399, vI 1, vJ (own_u2 cc), .second, vI (own_g1 cc)]) rfl ?_
  refine XS.aloadN X412.here hx rfl (hb hby d4_27) rfl rfl ?_
  refine XS.iloadN X412.here hx rfl (hb hby d4_28) rfl ?_
  refine XS.lloadN X412.here hx rfl (hb hby d4_29) rfl ?_
  refine XS.lconst X412.here hx rfl (hb hby d4_30) ?_
  refine XS.lcmp X412.here hx rfl (hb hby d4_31) rfl ?_
  exact k
 have hk419 : (own_u2 cc) = (0 : Int64) := hz2
 have pre420 : own_P p e below T412 (mkF m 47 #[vR a0, vR b399, vI 1, vJ (own_u2 cc), .second, vI (own_g1 cc)] [(.int ((own_g1 cc).toInt8.toInt32)), (.int 1), (.ref b399)]) s₁ (entryFrame m #[(.ref a0)] 6) := by
  intro t k
  refine pre418 t ?_
  refine XS.ifNo X412.here hx rfl (hb hby d4_32) rfl ((if0 _ _).trans (teq (own_eqL hk419)).2) ?_
  refine XS.iload X412.here hx rfl (hb hby d4_35) rfl ?_
  refine XS.goto X412.here hx rfl (pc0 := 37) (pc' := 46) rfl (hb hby d4_37) (by decide) (by decide) ?_
  refine XS.i2b X412.here hx rfl (hb hby d4_46) rfl ?_
  exact k
 obtain ⟨cl421, Ar421, q421, S421, M421, H421, G421⟩ := id V412
 have hin421 : ¬ ((1 : Int32) < 0 ∨ cl421.slots.size ≤ ((1 : Int32)).toNatClampNeg) := inb_of S421 ⟨by decide, by decide⟩
 obtain ⟨T421, h421, X421, e421, W421, st421⟩ := stB X412 hx hZ e412 Ar421 (j := (1 : Int32)) hin421 (g := (mkF m 47 #[vR a0, vR b399, vI 1, vJ (own_u2 cc), .second, vI (own_g1 cc)] [(.int ((own_g1 cc).toInt8.toInt32)), (.int 1), (.ref b399)])) rfl rfl (hb hby d4_47)
 have Z421 : n0 ≤ h421.size := Nat.le_trans Z412 (Keep.of_wr W421).1
 have K421 : Keep h0 h421 [] := K412.wr W421 (Or.inr sz_b399)
 have N421 := Fr.snoc X421 N412 g_b399
 have Ff422 : Fld Z h421 a0 own_CK "collection" "I" (.int cc) := (Ff413).other W421 (Or.inl ne_a0_b399)
 have Ff423 : Fld Z h421 a0 own_CK "documentKey" "[B" (.ref r1) := (Ff414).other W421 (Or.inl ne_a0_b399)
 have Vf424 : Arv Z h421 r1 k_r1 .byte (1 : Int32) [(.int y0)] (.int 0) := (Vf415).other W421 ne_r1_b399
 have Ef425 : Exa Z h421 b399 "[B" := (Ef416).wr W421
 have V421 : Arv Z h421 b399 k399 .byte (5 : Int32) [(.int (own_m0 cc)), (.int (own_l1 cc)), (.int 0), (.int 0), (.int 0)] (.int 0) := Arv.set Ar421 q421 S421 M421 H421 G421 (fits_nar_byte _) W421 1 rfl (Nat.le_of_ble_eq_true rfl)
 have pre426 : own_P p e below T421 (mkF m 48 #[vR a0, vR b399, vI 1, vJ (own_u2 cc), .second, vI (own_g1 cc)] []) s₁ (entryFrame m #[(.ref a0)] 6) := fun t k => pre420 t (st421 t k)
 have pre427 : own_P p e below T421 (mkF m 60 #[vR a0, vR b399, vI 2, vJ (own_u2 cc), .second, vI (own_g1 cc)] [(.ref a0), (.int 2), (.ref b399)]) s₁ (entryFrame m #[(.ref a0)] 6) := by
  intro t k
  refine pre426 t ?_
  refine XS.iinc X421.here hx rfl (hb hby d4_48) rfl (l' := #[vR a0, vR b399, vI 2, vJ (own_u2 cc), .second, vI (own_g1 cc)]) rfl ?_
  refine XS.lloadN X421.here hx rfl (hb hby d4_51) rfl ?_
  refine XS.lconst X421.here hx rfl (hb hby d4_52) ?_
  refine XS.lcmp X421.here hx rfl (hb hby d4_53) rfl ?_
  refine XS.ifNo X421.here hx rfl (hb hby d4_54) rfl ((if0 _ _).trans (teq (own_eqL hk419)).2) ?_
  refine XS.aloadN X421.here hx rfl (hb hby d4_57) rfl rfl ?_
  refine XS.iloadN X421.here hx rfl (hb hby d4_58) rfl ?_
  refine XS.aloadN X421.here hx rfl (hb hby d4_59) rfl rfl ?_
  exact k
 obtain ⟨T428, X428, e428, st428⟩ := getF X421 hx hZ hown (host := "") (Or.inl (own_w hw 17 rfl)) Via.refl e421 Ff423 (g := (mkF m 60 #[vR a0, vR b399, vI 2, vJ (own_u2 cc), .second, vI (own_g1 cc)] [(.ref a0), (.int 2), (.ref b399)])) rfl rfl (hb hby d4_60)
 have pre429 : own_P p e below T428 (mkF m 63 #[vR a0, vR b399, vI 2, vJ (own_u2 cc), .second, vI (own_g1 cc)] [(.ref r1), (.int 2), (.ref b399)]) s₁ (entryFrame m #[(.ref a0)] 6) := fun t k => pre427 t (st428 t k)
 obtain ⟨cl430, Ar430, q430, S430, M430, H430, G430⟩ := id Vf424
 have pre431 : own_P p e below T428 (mkF m 65 #[vR a0, vR b399, vI 2, vJ (own_u2 cc), .second, vI (own_g1 cc)] [(.int 3), (.ref b399)]) s₁ (entryFrame m #[(.ref a0)] 6) := by
  intro t k
  refine pre429 t ?_
  refine X428.arraylength hx (by rw [e428]; exact Ar430.1) (State.isArrayOf_alike hZ.alike Ar430.2.1) (g := (mkF m 63 #[vR a0, vR b399, vI 2, vJ (own_u2 cc), .second, vI (own_g1 cc)] [(.ref r1), (.int 2), (.ref b399)])) rfl rfl (hb hby d4_63) _ ?_
  rw [len_of S430 M430]
  refine XS.iadd X428.here hx rfl (hb hby d4_64) rfl ?_
  exact k
 obtain ⟨_, _, ⟨T432, L432, k432, n432⟩, -, X432, ⟨Lc432, hQ432, l432, y432, z432⟩, st432⟩ := Jvm.LawKit.callS X428 hx (y := (⟨"java/util/Arrays", "copyOf", "([BI)[B"⟩ : MethodName)) hown (mvT hZ (own_w hw 30 rfl)) (mvT hZ (own_w hw 31 rfl)) (mvT hZ (own_w hw 32 rfl)) (mvT hZ (own_w hw 33 rfl)) (by decide) (backOf (W := 0) (rm6_3 l Z ar0 hw [] b399 k399 (own_m0 cc) (own_l1 cc) (0 : Int32) (0 : Int32) (0 : Int32) h421 n0 Z421 V421 Ef425) hZ (own_w hw 33 rfl) (own_w hw 32 rfl) (by decide) (by decide)) (g := (mkF m 65 #[vR a0, vR b399, vI 2, vJ (own_u2 cc), .second, vI (own_g1 cc)] [(.int 3), (.ref b399)])) rfl (by rw [hml]; rfl) (argsL := [(.ref b399), (.int 3)]) (rest := []) (lenOf pd_3 rfl) rfl (by show 2 * 0 + _ ≤ _; exact Nat.le_of_eq rfl) (hb hby d4_65) (fun _ _ => ⟨rfl, e428, (by decide : 1 + 1 ≤ _), (by decide : 5 + 3 ≤ _)⟩)
 dsimp only [Pt.U, Pt.locs, Pt.cells, Pt.slots] at X432 l432 y432 z432 st432 hQ432
 subst l432 y432 z432
 obtain ⟨h432, e432⟩ : ∃ h, T432.heap = h := ⟨_, rfl⟩
 rw [e432] at hQ432
 obtain ⟨b432, kb432, rfl, N432q, K432q, y_b432, Ob432_0, Ob432_1⟩ := hQ432
 have N432 := Fr.app N421 N432q
 have ne_a0_b432 : a0 ≠ b432 := Nat.ne_of_lt (Nat.lt_of_lt_of_le (Ff422).lt y_b432)
 have ne_r1_b432 : r1 ≠ b432 := Nat.ne_of_lt (Nat.lt_of_lt_of_le (Vf424).lt y_b432)
 have ne_b399_b432 : b399 ≠ b432 := Nat.ne_of_lt (Nat.lt_of_lt_of_le (Ef425).lt y_b432)
 have g_b432 : n0 ≤ b432 := Nat.le_trans Z421 y_b432
 have sz_b432 : h0.size ≤ b432 := Nat.le_trans K421.1 y_b432
 have Z432 : n0 ≤ h432.size := Nat.le_trans Z421 K432q.1
 have K432 : Keep h0 h432 [] := K421.trans K432q (fun x hx => absurd hx List.not_mem_nil)
 have Ff433 : Fld Z h432 a0 own_CK "collection" "I" (.int cc) := (Ff422).keep K432q List.not_mem_nil
 have Ff434 : Fld Z h432 a0 own_CK "documentKey" "[B" (.ref r1) := (Ff423).keep K432q List.not_mem_nil
 have Vf435 : Arv Z h432 r1 k_r1 .byte (1 : Int32) [(.int y0)] (.int 0) := (Vf424).keep K432q List.not_mem_nil
 have Ef436 : Exa Z h432 b399 "[B" := (Ef425).keep K432q
 have Vf437 : Arv Z h432 b399 k399 .byte (5 : Int32) [(.int (own_m0 cc)), (.int (own_l1 cc)), (.int 0), (.int 0), (.int 0)] (.int 0) := (V421).keep K432q List.not_mem_nil
 have pre438 : own_P p e below T432 (mkF m 68 #[vR a0, vR b399, vI 2, vJ (own_u2 cc), .second, vI (own_g1 cc)] [(.ref b432)]) s₁ (entryFrame m #[(.ref a0)] 6) := fun t k => pre431 t (st432 t k)
 have pre439 : own_P p e below T432 (mkF m 71 #[vR a0, vR b399, vI 2, vJ (own_u2 cc), .second, vR b432] [(.ref a0)]) s₁ (entryFrame m #[(.ref a0)] 6) := by
  intro t k
  refine pre438 t ?_
  refine XS.astore X432.here hx rfl (hb hby d4_68) rfl rfl (l' := #[vR a0, vR b399, vI 2, vJ (own_u2 cc), .second, vR b432]) rfl ?_
  refine XS.aloadN X432.here hx rfl (hb hby d4_70) rfl rfl ?_
  exact k
 obtain ⟨T440, X440, e440, st440⟩ := getF X432 hx hZ hown (host := "") (Or.inl (own_w hw 17 rfl)) Via.refl e432 Ff434 (g := (mkF m 71 #[vR a0, vR b399, vI 2, vJ (own_u2 cc), .second, vR b432] [(.ref a0)])) rfl rfl (hb hby d4_71)
 have pre441 : own_P p e below T440 (mkF m 74 #[vR a0, vR b399, vI 2, vJ (own_u2 cc), .second, vR b432] [(.ref r1)]) s₁ (entryFrame m #[(.ref a0)] 6) := fun t k => pre439 t (st440 t k)
 have pre442 : own_P p e below T440 (mkF m 79 #[vR a0, vR b399, vI 2, vJ (own_u2 cc), .second, vR b432] [(.ref a0), (.int 2), (.ref b432), (.int 0), (.ref r1)]) s₁ (entryFrame m #[(.ref a0)] 6) := by
  intro t k
  refine pre441 t ?_
  refine XS.iconst X440.here hx rfl (hb hby d4_74) ?_
  refine XS.aload X440.here hx rfl (hb hby d4_75) rfl rfl ?_
  refine XS.iloadN X440.here hx rfl (hb hby d4_77) rfl ?_
  refine XS.aloadN X440.here hx rfl (hb hby d4_78) rfl rfl ?_
  exact k
 obtain ⟨T443, X443, e443, st443⟩ := getF X440 hx hZ hown (host := "") (Or.inl (own_w hw 17 rfl)) Via.refl e440 Ff434 (g := (mkF m 79 #[vR a0, vR b399, vI 2, vJ (own_u2 cc), .second, vR b432] [(.ref a0), (.int 2), (.ref b432), (.int 0), (.ref r1)])) rfl rfl (hb hby d4_79)
 have pre444 : own_P p e below T443 (mkF m 82 #[vR a0, vR b399, vI 2, vJ (own_u2 cc), .second, vR b432] [(.ref r1), (.int 2), (.ref b432), (.int 0), (.ref r1)]) s₁ (entryFrame m #[(.ref a0)] 6) := fun t k => pre442 t (st443 t k)
 obtain ⟨cl445, Ar445, q445, S445, M445, H445, G445⟩ := id Vf435
 have pre446 : own_P p e below T443 (mkF m 83 #[vR a0, vR b399, vI 2, vJ (own_u2 cc), .second, vR b432] [(.int 1), (.int 2), (.ref b432), (.int 0), (.ref r1)]) s₁ (entryFrame m #[(.ref a0)] 6) := by
  intro t k
  refine pre444 t ?_
  refine X443.arraylength hx (by rw [e443]; exact Ar445.1) (State.isArrayOf_alike hZ.alike Ar445.2.1) (g := (mkF m 82 #[vR a0, vR b399, vI 2, vJ (own_u2 cc), .second, vR b432] [(.ref r1), (.int 2), (.ref b432), (.int 0), (.ref r1)])) rfl rfl (hb hby d4_82) _ ?_
  rw [len_of S445 M445]
  exact k
 obtain ⟨T447, h447, L447, X447, e447, N447, K447q, V447q, st447⟩ := cpA X443 hx hZ hown (own_w hw 42 rfl) (own_w hw 41 rfl) (own_w hw 39 rfl) (own_w hw 40 rfl) e443 Vf435 Ob432_1 (Or.inl ⟨rfl, rfl⟩) (by decide) (by decide) (by decide) (by decide) (by decide) (us := [(.int y0)]) rfl (Nat.le_of_ble_eq_true rfl) N432 g_b432 (g := (mkF m 83 #[vR a0, vR b399, vI 2, vJ (own_u2 cc), .second, vR b432] [(.int 1), (.int 2), (.ref b432), (.int 0), (.ref r1)])) rfl (by rw [hml]; rfl) rfl (hb hby d4_83) (by decide) (W := 0) (by show 2 * 0 + _ ≤ _; exact Nat.le_of_eq rfl) (by decide)
 have Z447 : n0 ≤ h447.size := Nat.le_trans Z432 K447q.1
 have K447 : Keep h0 h447 [] := K432.trans K447q (fun x hx => by cases List.mem_singleton.mp hx; exact Or.inr sz_b432)
 have Ff448 : Fld Z h447 a0 own_CK "collection" "I" (.int cc) := (Ff433).keep K447q (fun q => absurd (List.mem_singleton.mp q) ne_a0_b432)
 have Ff449 : Fld Z h447 a0 own_CK "documentKey" "[B" (.ref r1) := (Ff434).keep K447q (fun q => absurd (List.mem_singleton.mp q) ne_a0_b432)
 have Vf450 : Arv Z h447 r1 k_r1 .byte (1 : Int32) [(.int y0)] (.int 0) := (Vf435).keep K447q (fun q => absurd (List.mem_singleton.mp q) ne_r1_b432)
 have Ef451 : Exa Z h447 b399 "[B" := (Ef436).keep K447q
 have Vf452 : Arv Z h447 b399 k399 .byte (5 : Int32) [(.int (own_m0 cc)), (.int (own_l1 cc)), (.int 0), (.int 0), (.int 0)] (.int 0) := (Vf437).keep K447q (fun q => absurd (List.mem_singleton.mp q) ne_b399_b432)
 have Ef453 : Exa Z h447 b432 "[B" := (Ob432_0).keep K447q
 have V447 : Arv Z h447 b432 kb432 .byte (3 : Int32) [(.int (own_m0 cc)), (.int (own_l1 cc)), (.int y0)] (.int 0) := V447q
 have pre454 : own_P p e below T447 (mkF m 86 #[vR a0, vR b399, vI 2, vJ (own_u2 cc), .second, vR b432] []) s₁ (entryFrame m #[(.ref a0)] 6) := fun t k => pre446 t (st447 t k)
 obtain ⟨fs, hr, hrun, hended, hW, hsame⟩ := X447.leave (v := some (.ref b432)) (fun h => by rw [Bd.returns] at h; cases h)
 refine ⟨_, _, pre454 _ ?_, hrun, hended, _, _, rfl, ?_, ⟨_, rfl⟩, hW, hsame.mono (by decide) (by decide)⟩
 ·
  refine XS.aload X447.here hx rfl (hb hby d4_86) rfl rfl ?_
  exact retOut X447 hx Bd.returns rfl (Or.inr (Or.inr (Or.inr (Or.inr ⟨rfl, rfl, rfl⟩)))) (hb hby d4_88) hr
 ·
  show Q4_2_1 Z a0 cc r1 k_r1 y0 h0 n0 _ T447.heap _
  rw [e447]
  exact ⟨b432, kb432, rfl, N447, K447, sz_b432, Ef453, V447⟩
def Q4_2_2 (Z : State) (a0 : Addr) (cc : Int32) (r1 : Addr) (k_r1 : ClassId) (y0 : Int32) (y1 : Int32) (h0 : Heap) (n0 : Nat) (v : Option Value) (h : Heap) (L : List Loc) : Prop := ∃ (b : Addr) (k_b : ClassId), v = some (.ref b) ∧ Fr n0 L ∧ Keep h0 h [] ∧ h0.size ≤ b ∧ Exa Z h b "[B" ∧ Arv Z h b k_b .byte (4 : Int32) [(.int (own_m0 cc)), (.int (own_l1 cc)), (.int y0), (.int y1)] (.int 0)
set_option maxRecDepth 65536 in
set_option maxHeartbeats 40000000 in
theorem rm4_2_2 (l : Launch) (Z : State) (ar0 : Array Value) (hw : ∀ d ∈ tables_1, d.before ar0 Z = true) (ws : List Jvm.Cond) (a0 : Addr) (cc : Int32) (r1 : Addr) (k_r1 : ClassId) (y0 : Int32) (y1 : Int32) (h0 : Heap) (n0 : Nat) (Z0 : n0 ≤ h0.size) (F_collection_a0 : Fld Z h0 a0 own_CK "collection" "I" (.int cc)) (F_documentKey_a0 : Fld Z h0 a0 own_CK "documentKey" "[B" (.ref r1)) (V_r1 : Arv Z h0 r1 k_r1 .byte (2 : Int32) [(.int y0), (.int y1)] (.int 0)) (hz1 : ¬ ((own_u1 cc) = (0 : Int64))) (hz2 : (own_u2 cc) = (0 : Int64)) :
  MetFree l (⟨own_CK, "write", "()[B"⟩ : MethodName) (head1 (Jvm.Cond.code (⟨own_CK, "write", "()[B"⟩ : MethodName) prog_8_method_3_code 6 (some (.array .byte)) :: ws) ({ frames := 2, cells := 2, slots := 9, locals := 32 } : Room)) (fun a U => a = #[(.ref a0)] ∧ Z.Warmed39 U.vm ∧ U.heap = h0) (fun _ _ _ _ _ => True) (fun _ U o U' => ∃ v L, o = .returned v ∧ Q4_2_2 Z a0 cc r1 k_r1 y0 y1 h0 n0 v U'.heap L ∧ FrameEnd U o U' L ({ frames := 2, cells := 2, slots := 9, locals := 32 } : Room).cells ({ frames := 2, cells := 2, slots := 9, locals := 32 } : Room).slots) := by
 refine MetFree.of_bodySF (plainFor_of_name pn_1) hisR ?_
 intro p e s m args below meth c s₁ Bd hml0 hP hK
 obtain ⟨rfl, hZ, hh⟩ := hP
 have hx := Bd.exec
 have hby := Bd.bytes
 have hml : c.maxLocals = 6 := hml0
 have hown : s.vm.findClass own_CK = some m.cls := by have q := findClass_of_methodNamed Bd.named; exact q
 have hnm := (name_of_methodNamed Bd.named Bd.method).1
 have X0 : Stand p l e ({ frames := 2, cells := 2, slots := 9, locals := 32 } : Room) s m #[(.ref a0)] below meth c s₁ [] 0 0 := Stand.of_body Bd
 have e0 : s₁.heap = h0 := by rw [← hh, Bd.state]; rfl
 have N0 := Fr.nil n0
 have pre0 : own_P p e below s₁ (mkF m 0 #[vR a0, .unset, .unset, .unset, .unset, .unset] []) s₁ (entryFrame m #[(.ref a0)] 6) := fun t k => castTop (ef_4 m a0) k
 have pre455 : own_P p e below s₁ (mkF m 1 #[vR a0, .unset, .unset, .unset, .unset, .unset] [(.int 5)]) s₁ (entryFrame m #[(.ref a0)] 6) := by
  intro t k
  refine pre0 t ?_
  refine XS.iconst X0.here hx rfl (hb hby d4_0) ?_
  exact k
 obtain ⟨T456, h456, k456, X456, e456, E456, A456, C456, st456⟩ := newPE X0 hx hZ (own_w hw 0 rfl) e0 (g := (mkF m 1 #[vR a0, .unset, .unset, .unset, .unset, .unset] [(.int 5)])) rfl (hb hby d4_1) rfl (by decide) (cap := 5) (by decide) (by decide) (by decide) (by decide) (ad := "[B") rfl
 obtain ⟨b456, g456⟩ : ∃ z, z = h0.size := ⟨_, rfl⟩
 rw [← g456] at A456 C456 st456
 have ne_a0_b456 : a0 ≠ b456 := Nat.ne_of_lt (Nat.lt_of_lt_of_le (F_collection_a0).lt (Nat.le_of_eq g456.symm))
 have ne_r1_b456 : r1 ≠ b456 := Nat.ne_of_lt (Nat.lt_of_lt_of_le (V_r1).lt (Nat.le_of_eq g456.symm))
 have g_b456 : n0 ≤ b456 := Nat.le_trans Z0 (Nat.le_of_eq g456.symm)
 have sz_b456 : h0.size ≤ b456 := Nat.le_trans (Keep.refl h0 []).1 (Nat.le_of_eq g456.symm)
 have Z456 : n0 ≤ h456.size := Nat.le_trans Z0 E456.1
 have K456 : Keep h0 h456 [] := (Keep.refl h0 []).ext E456
 have Ff457 : Fld Z h456 a0 own_CK "collection" "I" (.int cc) := (F_collection_a0).ext E456
 have Ff458 : Fld Z h456 a0 own_CK "documentKey" "[B" (.ref r1) := (F_documentKey_a0).ext E456
 have Vf459 : Arv Z h456 r1 k_r1 .byte (2 : Int32) [(.int y0), (.int y1)] (.int 0) := (V_r1).ext E456
 have V_b456 : Arv Z h456 b456 k456 .byte (5 : Int32) [(.int 0), (.int 0), (.int 0), (.int 0), (.int 0)] (.int 0) := (Arv.new A456 (by decide)).pad (pad_rep [] (.int 0) 5)
 have pre460 : own_P p e below T456 (mkF m 3 #[vR a0, .unset, .unset, .unset, .unset, .unset] [(.ref b456)]) s₁ (entryFrame m #[(.ref a0)] 6) := fun t k => pre455 t (st456 t k)
 have pre461 : own_P p e below T456 (mkF m 7 #[vR a0, vR b456, vI 0, .unset, .unset, .unset] [(.ref a0)]) s₁ (entryFrame m #[(.ref a0)] 6) := by
  intro t k
  refine pre460 t ?_
  refine XS.astoreN X456.here hx rfl (hb hby d4_3) rfl rfl (l' := #[vR a0, vR b456, .unset, .unset, .unset, .unset]) rfl ?_
  refine XS.iconst X456.here hx rfl (hb hby d4_4) ?_
  refine XS.istoreN X456.here hx rfl (hb hby d4_5) rfl (l' := #[vR a0, vR b456, vI 0, .unset, .unset, .unset]) rfl ?_
  refine XS.aloadN X456.here hx rfl (hb hby d4_6) rfl rfl ?_
  exact k
 obtain ⟨T462, X462, e462, st462⟩ := getF X456 hx hZ hown (host := "") (Or.inl (own_w hw 15 rfl)) Via.refl e456 Ff457 (g := (mkF m 7 #[vR a0, vR b456, vI 0, .unset, .unset, .unset] [(.ref a0)])) rfl rfl (hb hby d4_7)
 have pre463 : own_P p e below T462 (mkF m 10 #[vR a0, vR b456, vI 0, .unset, .unset, .unset] [(.int cc)]) s₁ (entryFrame m #[(.ref a0)] 6) := fun t k => pre461 t (st462 t k)
 obtain ⟨_, _, ⟨T464, L464, k464, n464⟩, -, X464, ⟨Lc464, hQ464, l464, y464, z464⟩, st464⟩ := Jvm.LawKit.callS X462 hx (y := (⟨"java/lang/Integer", "toUnsignedLong", "(I)J"⟩ : MethodName)) hown (mvT hZ (own_w hw 24 rfl)) (mvT hZ (own_w hw 25 rfl)) (mvT hZ (own_w hw 26 rfl)) (mvT hZ (own_w hw 27 rfl)) (by decide) (backOf (W := 0) (rm5 l Z ar0 hw [] cc h456 n0 Z456) hZ (own_w hw 27 rfl) (own_w hw 26 rfl) (by decide) (by decide)) (g := (mkF m 10 #[vR a0, vR b456, vI 0, .unset, .unset, .unset] [(.int cc)])) rfl (by rw [hml]; rfl) (argsL := [(.int cc)]) (rest := []) (lenOf pd_2 rfl) rfl (by show 2 * 0 + _ ≤ _; exact Nat.le_of_eq rfl) (hb hby d4_10) (fun _ _ => ⟨rfl, e462, (by decide : 1 + 0 ≤ _), (by decide : 5 + 0 ≤ _)⟩)
 dsimp only [Pt.U, Pt.locs, Pt.cells, Pt.slots] at X464 l464 y464 z464 st464 hQ464
 subst l464 y464 z464
 obtain ⟨rfl, N464q, e464⟩ := hQ464
 have N464 := Fr.app N0 N464q
 have pre465 : own_P p e below T464 (mkF m 13 #[vR a0, vR b456, vI 0, .unset, .unset, .unset] [(.long (own_u0 cc))]) s₁ (entryFrame m #[(.ref a0)] 6) := fun t k => pre463 t (st464 t k)
 have pre466 : own_P p e below T464 (mkF m 32 #[vR a0, vR b456, vI 0, vJ (own_u1 cc), .second, vI (own_g0 cc)] [(.int (lcmpW (own_u1 cc) (0 : Int64))), (.int 0), (.ref b456)]) s₁ (entryFrame m #[(.ref a0)] 6) := by
  intro t k
  refine pre465 t ?_
  refine XS.lstoreN X464.here hx rfl (hb hby d4_13) rfl (l' := #[vR a0, vR b456, vI 0, vJ (own_u0 cc), .second, .unset]) rfl ?_
  refine XS.lloadN X464.here hx rfl (hb hby d4_14) rfl ?_
  refine X464.ldc2Long hx hown (mvT hZ (own_w hw 29 rfl)) (g := (mkF m 15 #[vR a0, vR b456, vI 0, vJ (own_u0 cc), .second, .unset] [(.long (own_u0 cc))])) rfl (hb hby d4_15) _ ?_
  refine XS.land X464.here hx rfl (hb hby d4_18) rfl ?_
  refine XS.l2i X464.here hx rfl (hb hby d4_19) rfl ?_
  refine XS.istore X464.here hx rfl (hb hby d4_20) rfl (l' := #[vR a0, vR b456, vI 0, vJ (own_u0 cc), .second, vI (own_g0 cc)]) rfl ?_
  refine XS.lloadN X464.here hx rfl (hb hby d4_22) rfl ?_
  refine XS.bipush X464.here hx rfl (hb hby d4_23) ?_
  refine XS.lushr X464.here hx rfl (hb hby d4_25) rfl ?_
  refine XS.lstoreN X464.here hx rfl (hb hby d4_26) rfl (l' := #[vR a0, vR b456, vI 0, vJ (own_u1 cc), .second, vI (own_g0 cc)]) rfl ?_
  refine XS.aloadN X464.here hx rfl (hb hby d4_27) rfl rfl ?_
  refine XS.iloadN X464.here hx rfl (hb hby d4_28) rfl ?_
  refine XS.lloadN X464.here hx rfl (hb hby d4_29) rfl ?_
  refine XS.lconst X464.here hx rfl (hb hby d4_30) ?_
  refine XS.lcmp X464.here hx rfl (hb hby d4_31) rfl ?_
  exact k
 have hk467 : ¬ ((own_u1 cc) = (0 : Int64)) := hz1
 have pre468 : own_P p e below T464 (mkF m 47 #[vR a0, vR b456, vI 0, vJ (own_u1 cc), .second, vI (own_g0 cc)] [(.int (((own_g0 cc) ||| (128 : Int32)).toInt8.toInt32)), (.int 0), (.ref b456)]) s₁ (entryFrame m #[(.ref a0)] 6) := by
  intro t k
  refine pre466 t ?_
  refine XS.ifYes X464.here hx rfl (pc0 := 32) (pc' := 40) rfl (hb hby d4_32) rfl ((if0 _ _).trans (feq (own_neL hk467)).2) (by decide) (by decide) ?_
  refine XS.iload X464.here hx rfl (hb hby d4_40) rfl ?_
  refine XS.sipush X464.here hx rfl (hb hby d4_42) ?_
  refine XS.ior X464.here hx rfl (hb hby d4_45) rfl ?_
  refine XS.i2b X464.here hx rfl (hb hby d4_46) rfl ?_
  exact k
 obtain ⟨cl469, Ar469, q469, S469, M469, H469, G469⟩ := id V_b456
 have hin469 : ¬ ((0 : Int32) < 0 ∨ cl469.slots.size ≤ ((0 : Int32)).toNatClampNeg) := inb_of S469 ⟨by decide, by decide⟩
 obtain ⟨T469, h469, X469, e469, W469, st469⟩ := stB X464 hx hZ e464 Ar469 (j := (0 : Int32)) hin469 (g := (mkF m 47 #[vR a0, vR b456, vI 0, vJ (own_u1 cc), .second, vI (own_g0 cc)] [(.int (((own_g0 cc) ||| (128 : Int32)).toInt8.toInt32)), (.int 0), (.ref b456)])) rfl rfl (hb hby d4_47)
 have Z469 : n0 ≤ h469.size := Nat.le_trans Z456 (Keep.of_wr W469).1
 have K469 : Keep h0 h469 [] := K456.wr W469 (Or.inr sz_b456)
 have N469 := Fr.snoc X469 N464 g_b456
 have Ff470 : Fld Z h469 a0 own_CK "collection" "I" (.int cc) := (Ff457).other W469 (Or.inl ne_a0_b456)
 have Ff471 : Fld Z h469 a0 own_CK "documentKey" "[B" (.ref r1) := (Ff458).other W469 (Or.inl ne_a0_b456)
 have Vf472 : Arv Z h469 r1 k_r1 .byte (2 : Int32) [(.int y0), (.int y1)] (.int 0) := (Vf459).other W469 ne_r1_b456
 have Ef473 : Exa Z h469 b456 "[B" := (C456).wr W469
 have V469 : Arv Z h469 b456 k456 .byte (5 : Int32) [(.int (own_m0 cc)), (.int 0), (.int 0), (.int 0), (.int 0)] (.int 0) := Arv.set Ar469 q469 S469 M469 H469 G469 (fits_nar_byte _) W469 0 rfl (Nat.le_of_ble_eq_true rfl)
 have pre474 : own_P p e below T469 (mkF m 48 #[vR a0, vR b456, vI 0, vJ (own_u1 cc), .second, vI (own_g0 cc)] []) s₁ (entryFrame m #[(.ref a0)] 6) := fun t k => pre468 t (st469 t k)
 have pre475 : own_P p e below T469 (mkF m 32 #[vR a0, vR b456, vI 1, vJ (own_u2 cc), .second, vI (own_g1 cc)] [(.int (lcmpW (own_u2 cc) (0 : Int64))), (.int 1), (.ref b456)]) s₁ (entryFrame m #[(.ref a0)] 6) := by
  intro t k
  refine pre474 t ?_
  refine XS.iinc X469.here hx rfl (hb hby d4_48) rfl (l' := #[vR a0, vR b456, vI 1, vJ (own_u1 cc), .second, vI (own_g0 cc)]) rfl ?_
  refine XS.lloadN X469.here hx rfl (hb hby d4_51) rfl ?_
  refine XS.lconst X469.here hx rfl (hb hby d4_52) ?_
  refine XS.lcmp X469.here hx rfl (hb hby d4_53) rfl ?_
  refine XS.ifYes X469.here hx rfl (pc0 := 54) (pc' := 14) rfl (hb hby d4_54) rfl ((if0 _ _).trans (feq (own_neL hk467)).2) (by decide) (by decide) ?_
  refine XS.lloadN X469.here hx rfl (hb hby d4_14) rfl ?_
  refine X469.ldc2Long hx hown (mvT hZ (own_w hw 29 rfl)) (g := (mkF m 15 #[vR a0, vR b456, vI 1, vJ (own_u1 cc), .second, vI (own_g0 cc)] [(.long (own_u1 cc))])) rfl (hb hby d4_15) _ ?_
  refine XS.land X469.here hx rfl (hb hby d4_18) rfl ?_
  refine XS.l2i X469.here hx rfl (hb hby d4_19) rfl ?_
  refine XS.istore X469.here hx rfl (hb hby d4_20) rfl (l' := #[vR a0, vR b456, vI 1, vJ (own_u1 cc), .second, vI (own_g1 cc)]) rfl ?_
  refine XS.lloadN X469.here hx rfl (hb hby d4_22) rfl ?_
  refine XS.bipush X469.here hx rfl (hb hby d4_23) ?_
  refine XS.lushr X469.here hx rfl (hb hby d4_25) rfl ?_
  refine XS.lstoreN X469.here hx rfl (hb hby d4_26) rfl (l' := #[vR a0, vR b456, vI 1, vJ (own_u2 cc), .second, vI (own_g1 cc)]) rfl ?_
  refine XS.aloadN X469.here hx rfl (hb hby d4_27) rfl rfl ?_
  refine XS.iloadN X469.here hx rfl (hb hby d4_28) rfl ?_
  refine XS.lloadN X469.here hx rfl (hb hby d4_29) rfl ?_
  refine XS.lconst X469.here hx rfl (hb hby d4_30) ?_
  refine XS.lcmp X469.here hx rfl (hb hby d4_31) rfl ?_
  exact k
 have hk476 : (own_u2 cc) = (0 : Int64) := hz2
 have pre477 : own_P p e below T469 (mkF m 47 #[vR a0, vR b456, vI 1, vJ (own_u2 cc), .second, vI (own_g1 cc)] [(.int ((own_g1 cc).toInt8.toInt32)), (.int 1), (.ref b456)]) s₁ (entryFrame m #[(.ref a0)] 6) := by
  intro t k
  refine pre475 t ?_
  refine XS.ifNo X469.here hx rfl (hb hby d4_32) rfl ((if0 _ _).trans (teq (own_eqL hk476)).2) ?_
  refine XS.iload X469.here hx rfl (hb hby d4_35) rfl ?_
  refine XS.goto X469.here hx rfl (pc0 := 37) (pc' := 46) rfl (hb hby d4_37) (by decide) (by decide) ?_
  refine XS.i2b X469.here hx rfl (hb hby d4_46) rfl ?_
  exact k
 obtain ⟨cl478, Ar478, q478, S478, M478, H478, G478⟩ := id V469
 have hin478 : ¬ ((1 : Int32) < 0 ∨ cl478.slots.size ≤ ((1 : Int32)).toNatClampNeg) := inb_of S478 ⟨by decide, by decide⟩
 obtain ⟨T478, h478, X478, e478, W478, st478⟩ := stB X469 hx hZ e469 Ar478 (j := (1 : Int32)) hin478 (g := (mkF m 47 #[vR a0, vR b456, vI 1, vJ (own_u2 cc), .second, vI (own_g1 cc)] [(.int ((own_g1 cc).toInt8.toInt32)), (.int 1), (.ref b456)])) rfl rfl (hb hby d4_47)
 have Z478 : n0 ≤ h478.size := Nat.le_trans Z469 (Keep.of_wr W478).1
 have K478 : Keep h0 h478 [] := K469.wr W478 (Or.inr sz_b456)
 have N478 := Fr.snoc X478 N469 g_b456
 have Ff479 : Fld Z h478 a0 own_CK "collection" "I" (.int cc) := (Ff470).other W478 (Or.inl ne_a0_b456)
 have Ff480 : Fld Z h478 a0 own_CK "documentKey" "[B" (.ref r1) := (Ff471).other W478 (Or.inl ne_a0_b456)
 have Vf481 : Arv Z h478 r1 k_r1 .byte (2 : Int32) [(.int y0), (.int y1)] (.int 0) := (Vf472).other W478 ne_r1_b456
 have Ef482 : Exa Z h478 b456 "[B" := (Ef473).wr W478
 have V478 : Arv Z h478 b456 k456 .byte (5 : Int32) [(.int (own_m0 cc)), (.int (own_l1 cc)), (.int 0), (.int 0), (.int 0)] (.int 0) := Arv.set Ar478 q478 S478 M478 H478 G478 (fits_nar_byte _) W478 1 rfl (Nat.le_of_ble_eq_true rfl)
 have pre483 : own_P p e below T478 (mkF m 48 #[vR a0, vR b456, vI 1, vJ (own_u2 cc), .second, vI (own_g1 cc)] []) s₁ (entryFrame m #[(.ref a0)] 6) := fun t k => pre477 t (st478 t k)
 have pre484 : own_P p e below T478 (mkF m 60 #[vR a0, vR b456, vI 2, vJ (own_u2 cc), .second, vI (own_g1 cc)] [(.ref a0), (.int 2), (.ref b456)]) s₁ (entryFrame m #[(.ref a0)] 6) := by
  intro t k
  refine pre483 t ?_
  refine XS.iinc X478.here hx rfl (hb hby d4_48) rfl (l' := #[vR a0, vR b456, vI 2, vJ (own_u2 cc), .second, vI (own_g1 cc)]) rfl ?_
  refine XS.lloadN X478.here hx rfl (hb hby d4_51) rfl ?_
  refine XS.lconst X478.here hx rfl (hb hby d4_52) ?_
  refine XS.lcmp X478.here hx rfl (hb hby d4_53) rfl ?_
  refine XS.ifNo X478.here hx rfl (hb hby d4_54) rfl ((if0 _ _).trans (teq (own_eqL hk476)).2) ?_
  refine XS.aloadN X478.here hx rfl (hb hby d4_57) rfl rfl ?_
  refine XS.iloadN X478.here hx rfl (hb hby d4_58) rfl ?_
  refine XS.aloadN X478.here hx rfl (hb hby d4_59) rfl rfl ?_
  exact k
 obtain ⟨T485, X485, e485, st485⟩ := getF X478 hx hZ hown (host := "") (Or.inl (own_w hw 17 rfl)) Via.refl e478 Ff480 (g := (mkF m 60 #[vR a0, vR b456, vI 2, vJ (own_u2 cc), .second, vI (own_g1 cc)] [(.ref a0), (.int 2), (.ref b456)])) rfl rfl (hb hby d4_60)
 have pre486 : own_P p e below T485 (mkF m 63 #[vR a0, vR b456, vI 2, vJ (own_u2 cc), .second, vI (own_g1 cc)] [(.ref r1), (.int 2), (.ref b456)]) s₁ (entryFrame m #[(.ref a0)] 6) := fun t k => pre484 t (st485 t k)
 obtain ⟨cl487, Ar487, q487, S487, M487, H487, G487⟩ := id Vf481
 have pre488 : own_P p e below T485 (mkF m 65 #[vR a0, vR b456, vI 2, vJ (own_u2 cc), .second, vI (own_g1 cc)] [(.int 4), (.ref b456)]) s₁ (entryFrame m #[(.ref a0)] 6) := by
  intro t k
  refine pre486 t ?_
  refine X485.arraylength hx (by rw [e485]; exact Ar487.1) (State.isArrayOf_alike hZ.alike Ar487.2.1) (g := (mkF m 63 #[vR a0, vR b456, vI 2, vJ (own_u2 cc), .second, vI (own_g1 cc)] [(.ref r1), (.int 2), (.ref b456)])) rfl rfl (hb hby d4_63) _ ?_
  rw [len_of S487 M487]
  refine XS.iadd X485.here hx rfl (hb hby d4_64) rfl ?_
  exact k
 obtain ⟨_, _, ⟨T489, L489, k489, n489⟩, -, X489, ⟨Lc489, hQ489, l489, y489, z489⟩, st489⟩ := Jvm.LawKit.callS X485 hx (y := (⟨"java/util/Arrays", "copyOf", "([BI)[B"⟩ : MethodName)) hown (mvT hZ (own_w hw 30 rfl)) (mvT hZ (own_w hw 31 rfl)) (mvT hZ (own_w hw 32 rfl)) (mvT hZ (own_w hw 33 rfl)) (by decide) (backOf (W := 0) (rm6_4 l Z ar0 hw [] b456 k456 (own_m0 cc) (own_l1 cc) (0 : Int32) (0 : Int32) (0 : Int32) h478 n0 Z478 V478 Ef482) hZ (own_w hw 33 rfl) (own_w hw 32 rfl) (by decide) (by decide)) (g := (mkF m 65 #[vR a0, vR b456, vI 2, vJ (own_u2 cc), .second, vI (own_g1 cc)] [(.int 4), (.ref b456)])) rfl (by rw [hml]; rfl) (argsL := [(.ref b456), (.int 4)]) (rest := []) (lenOf pd_3 rfl) rfl (by show 2 * 0 + _ ≤ _; exact Nat.le_of_eq rfl) (hb hby d4_65) (fun _ _ => ⟨rfl, e485, (by decide : 1 + 1 ≤ _), (by decide : 5 + 4 ≤ _)⟩)
 dsimp only [Pt.U, Pt.locs, Pt.cells, Pt.slots] at X489 l489 y489 z489 st489 hQ489
 subst l489 y489 z489
 obtain ⟨h489, e489⟩ : ∃ h, T489.heap = h := ⟨_, rfl⟩
 rw [e489] at hQ489
 obtain ⟨b489, kb489, rfl, N489q, K489q, y_b489, Ob489_0, Ob489_1⟩ := hQ489
 have N489 := Fr.app N478 N489q
 have ne_a0_b489 : a0 ≠ b489 := Nat.ne_of_lt (Nat.lt_of_lt_of_le (Ff479).lt y_b489)
 have ne_r1_b489 : r1 ≠ b489 := Nat.ne_of_lt (Nat.lt_of_lt_of_le (Vf481).lt y_b489)
 have ne_b456_b489 : b456 ≠ b489 := Nat.ne_of_lt (Nat.lt_of_lt_of_le (Ef482).lt y_b489)
 have g_b489 : n0 ≤ b489 := Nat.le_trans Z478 y_b489
 have sz_b489 : h0.size ≤ b489 := Nat.le_trans K478.1 y_b489
 have Z489 : n0 ≤ h489.size := Nat.le_trans Z478 K489q.1
 have K489 : Keep h0 h489 [] := K478.trans K489q (fun x hx => absurd hx List.not_mem_nil)
 have Ff490 : Fld Z h489 a0 own_CK "collection" "I" (.int cc) := (Ff479).keep K489q List.not_mem_nil
 have Ff491 : Fld Z h489 a0 own_CK "documentKey" "[B" (.ref r1) := (Ff480).keep K489q List.not_mem_nil
 have Vf492 : Arv Z h489 r1 k_r1 .byte (2 : Int32) [(.int y0), (.int y1)] (.int 0) := (Vf481).keep K489q List.not_mem_nil
 have Ef493 : Exa Z h489 b456 "[B" := (Ef482).keep K489q
 have Vf494 : Arv Z h489 b456 k456 .byte (5 : Int32) [(.int (own_m0 cc)), (.int (own_l1 cc)), (.int 0), (.int 0), (.int 0)] (.int 0) := (V478).keep K489q List.not_mem_nil
 have pre495 : own_P p e below T489 (mkF m 68 #[vR a0, vR b456, vI 2, vJ (own_u2 cc), .second, vI (own_g1 cc)] [(.ref b489)]) s₁ (entryFrame m #[(.ref a0)] 6) := fun t k => pre488 t (st489 t k)
 have pre496 : own_P p e below T489 (mkF m 71 #[vR a0, vR b456, vI 2, vJ (own_u2 cc), .second, vR b489] [(.ref a0)]) s₁ (entryFrame m #[(.ref a0)] 6) := by
  intro t k
  refine pre495 t ?_
  refine XS.astore X489.here hx rfl (hb hby d4_68) rfl rfl (l' := #[vR a0, vR b456, vI 2, vJ (own_u2 cc), .second, vR b489]) rfl ?_
  refine XS.aloadN X489.here hx rfl (hb hby d4_70) rfl rfl ?_
  exact k
 obtain ⟨T497, X497, e497, st497⟩ := getF X489 hx hZ hown (host := "") (Or.inl (own_w hw 17 rfl)) Via.refl e489 Ff491 (g := (mkF m 71 #[vR a0, vR b456, vI 2, vJ (own_u2 cc), .second, vR b489] [(.ref a0)])) rfl rfl (hb hby d4_71)
 have pre498 : own_P p e below T497 (mkF m 74 #[vR a0, vR b456, vI 2, vJ (own_u2 cc), .second, vR b489] [(.ref r1)]) s₁ (entryFrame m #[(.ref a0)] 6) := fun t k => pre496 t (st497 t k)
 have pre499 : own_P p e below T497 (mkF m 79 #[vR a0, vR b456, vI 2, vJ (own_u2 cc), .second, vR b489] [(.ref a0), (.int 2), (.ref b489), (.int 0), (.ref r1)]) s₁ (entryFrame m #[(.ref a0)] 6) := by
  intro t k
  refine pre498 t ?_
  refine XS.iconst X497.here hx rfl (hb hby d4_74) ?_
  refine XS.aload X497.here hx rfl (hb hby d4_75) rfl rfl ?_
  refine XS.iloadN X497.here hx rfl (hb hby d4_77) rfl ?_
  refine XS.aloadN X497.here hx rfl (hb hby d4_78) rfl rfl ?_
  exact k
 obtain ⟨T500, X500, e500, st500⟩ := getF X497 hx hZ hown (host := "") (Or.inl (own_w hw 17 rfl)) Via.refl e497 Ff491 (g := (mkF m 79 #[vR a0, vR b456, vI 2, vJ (own_u2 cc), .second, vR b489] [(.ref a0), (.int 2), (.ref b489), (.int 0), (.ref r1)])) rfl rfl (hb hby d4_79)
 have pre501 : own_P p e below T500 (mkF m 82 #[vR a0, vR b456, vI 2, vJ (own_u2 cc), .second, vR b489] [(.ref r1), (.int 2), (.ref b489), (.int 0), (.ref r1)]) s₁ (entryFrame m #[(.ref a0)] 6) := fun t k => pre499 t (st500 t k)
 obtain ⟨cl502, Ar502, q502, S502, M502, H502, G502⟩ := id Vf492
 have pre503 : own_P p e below T500 (mkF m 83 #[vR a0, vR b456, vI 2, vJ (own_u2 cc), .second, vR b489] [(.int 2), (.int 2), (.ref b489), (.int 0), (.ref r1)]) s₁ (entryFrame m #[(.ref a0)] 6) := by
  intro t k
  refine pre501 t ?_
  refine X500.arraylength hx (by rw [e500]; exact Ar502.1) (State.isArrayOf_alike hZ.alike Ar502.2.1) (g := (mkF m 82 #[vR a0, vR b456, vI 2, vJ (own_u2 cc), .second, vR b489] [(.ref r1), (.int 2), (.ref b489), (.int 0), (.ref r1)])) rfl rfl (hb hby d4_82) _ ?_
  rw [len_of S502 M502]
  exact k
 obtain ⟨T504, h504, L504, X504, e504, N504, K504q, V504q, st504⟩ := cpA X500 hx hZ hown (own_w hw 42 rfl) (own_w hw 41 rfl) (own_w hw 39 rfl) (own_w hw 40 rfl) e500 Vf492 Ob489_1 (Or.inl ⟨rfl, rfl⟩) (by decide) (by decide) (by decide) (by decide) (by decide) (us := [(.int y0), (.int y1)]) rfl (Nat.le_of_ble_eq_true rfl) N489 g_b489 (g := (mkF m 83 #[vR a0, vR b456, vI 2, vJ (own_u2 cc), .second, vR b489] [(.int 2), (.int 2), (.ref b489), (.int 0), (.ref r1)])) rfl (by rw [hml]; rfl) rfl (hb hby d4_83) (by decide) (W := 0) (by show 2 * 0 + _ ≤ _; exact Nat.le_of_eq rfl) (by decide)
 have Z504 : n0 ≤ h504.size := Nat.le_trans Z489 K504q.1
 have K504 : Keep h0 h504 [] := K489.trans K504q (fun x hx => by cases List.mem_singleton.mp hx; exact Or.inr sz_b489)
 have Ff505 : Fld Z h504 a0 own_CK "collection" "I" (.int cc) := (Ff490).keep K504q (fun q => absurd (List.mem_singleton.mp q) ne_a0_b489)
 have Ff506 : Fld Z h504 a0 own_CK "documentKey" "[B" (.ref r1) := (Ff491).keep K504q (fun q => absurd (List.mem_singleton.mp q) ne_a0_b489)
 have Vf507 : Arv Z h504 r1 k_r1 .byte (2 : Int32) [(.int y0), (.int y1)] (.int 0) := (Vf492).keep K504q (fun q => absurd (List.mem_singleton.mp q) ne_r1_b489)
 have Ef508 : Exa Z h504 b456 "[B" := (Ef493).keep K504q
 have Vf509 : Arv Z h504 b456 k456 .byte (5 : Int32) [(.int (own_m0 cc)), (.int (own_l1 cc)), (.int 0), (.int 0), (.int 0)] (.int 0) := (Vf494).keep K504q (fun q => absurd (List.mem_singleton.mp q) ne_b456_b489)
 have Ef510 : Exa Z h504 b489 "[B" := (Ob489_0).keep K504q
 have V504 : Arv Z h504 b489 kb489 .byte (4 : Int32) [(.int (own_m0 cc)), (.int (own_l1 cc)), (.int y0), (.int y1)] (.int 0) := V504q
 have pre511 : own_P p e below T504 (mkF m 86 #[vR a0, vR b456, vI 2, vJ (own_u2 cc), .second, vR b489] []) s₁ (entryFrame m #[(.ref a0)] 6) := fun t k => pre503 t (st504 t k)
 obtain ⟨fs, hr, hrun, hended, hW, hsame⟩ := X504.leave (v := some (.ref b489)) (fun h => by rw [Bd.returns] at h; cases h)
 refine ⟨_, _, pre511 _ ?_, hrun, hended, _, _, rfl, ?_, ⟨_, rfl⟩, hW, hsame.mono (by decide) (by decide)⟩
 ·
  refine XS.aload X504.here hx rfl (hb hby d4_86) rfl rfl ?_
  exact retOut X504 hx Bd.returns rfl (Or.inr (Or.inr (Or.inr (Or.inr ⟨rfl, rfl, rfl⟩)))) (hb hby d4_88) hr
 ·
  show Q4_2_2 Z a0 cc r1 k_r1 y0 y1 h0 n0 _ T504.heap _
  rw [e504]
  exact ⟨b489, kb489, rfl, N504, K504, sz_b489, Ef510, V504⟩
def Q4_2_3 (Z : State) (a0 : Addr) (cc : Int32) (r1 : Addr) (k_r1 : ClassId) (y0 : Int32) (y1 : Int32) (y2 : Int32) (h0 : Heap) (n0 : Nat) (v : Option Value) (h : Heap) (L : List Loc) : Prop := ∃ (b : Addr) (k_b : ClassId), v = some (.ref b) ∧ Fr n0 L ∧ Keep h0 h [] ∧ h0.size ≤ b ∧ Exa Z h b "[B" ∧ Arv Z h b k_b .byte (5 : Int32) [(.int (own_m0 cc)), (.int (own_l1 cc)), (.int y0), (.int y1), (.int y2)] (.int 0)
set_option maxRecDepth 65536 in
set_option maxHeartbeats 40000000 in
theorem rm4_2_3 (l : Launch) (Z : State) (ar0 : Array Value) (hw : ∀ d ∈ tables_1, d.before ar0 Z = true) (ws : List Jvm.Cond) (a0 : Addr) (cc : Int32) (r1 : Addr) (k_r1 : ClassId) (y0 : Int32) (y1 : Int32) (y2 : Int32) (h0 : Heap) (n0 : Nat) (Z0 : n0 ≤ h0.size) (F_collection_a0 : Fld Z h0 a0 own_CK "collection" "I" (.int cc)) (F_documentKey_a0 : Fld Z h0 a0 own_CK "documentKey" "[B" (.ref r1)) (V_r1 : Arv Z h0 r1 k_r1 .byte (3 : Int32) [(.int y0), (.int y1), (.int y2)] (.int 0)) (hz1 : ¬ ((own_u1 cc) = (0 : Int64))) (hz2 : (own_u2 cc) = (0 : Int64)) :
  MetFree l (⟨own_CK, "write", "()[B"⟩ : MethodName) (head1 (Jvm.Cond.code (⟨own_CK, "write", "()[B"⟩ : MethodName) prog_8_method_3_code 6 (some (.array .byte)) :: ws) ({ frames := 2, cells := 2, slots := 10, locals := 28 } : Room)) (fun a U => a = #[(.ref a0)] ∧ Z.Warmed39 U.vm ∧ U.heap = h0) (fun _ _ _ _ _ => True) (fun _ U o U' => ∃ v L, o = .returned v ∧ Q4_2_3 Z a0 cc r1 k_r1 y0 y1 y2 h0 n0 v U'.heap L ∧ FrameEnd U o U' L ({ frames := 2, cells := 2, slots := 10, locals := 28 } : Room).cells ({ frames := 2, cells := 2, slots := 10, locals := 28 } : Room).slots) := by
 refine MetFree.of_bodySF (plainFor_of_name pn_1) hisR ?_
 intro p e s m args below meth c s₁ Bd hml0 hP hK
 obtain ⟨rfl, hZ, hh⟩ := hP
 have hx := Bd.exec
 have hby := Bd.bytes
 have hml : c.maxLocals = 6 := hml0
 have hown : s.vm.findClass own_CK = some m.cls := by have q := findClass_of_methodNamed Bd.named; exact q
 have hnm := (name_of_methodNamed Bd.named Bd.method).1
 have X0 : Stand p l e ({ frames := 2, cells := 2, slots := 10, locals := 28 } : Room) s m #[(.ref a0)] below meth c s₁ [] 0 0 := Stand.of_body Bd
 have e0 : s₁.heap = h0 := by rw [← hh, Bd.state]; rfl
 have N0 := Fr.nil n0
 have pre0 : own_P p e below s₁ (mkF m 0 #[vR a0, .unset, .unset, .unset, .unset, .unset] []) s₁ (entryFrame m #[(.ref a0)] 6) := fun t k => castTop (ef_4 m a0) k
 have pre512 : own_P p e below s₁ (mkF m 1 #[vR a0, .unset, .unset, .unset, .unset, .unset] [(.int 5)]) s₁ (entryFrame m #[(.ref a0)] 6) := by
  intro t k
  refine pre0 t ?_
  refine XS.iconst X0.here hx rfl (hb hby d4_0) ?_
  exact k
 obtain ⟨T513, h513, k513, X513, e513, E513, A513, C513, st513⟩ := newPE X0 hx hZ (own_w hw 0 rfl) e0 (g := (mkF m 1 #[vR a0, .unset, .unset, .unset, .unset, .unset] [(.int 5)])) rfl (hb hby d4_1) rfl (by decide) (cap := 5) (by decide) (by decide) (by decide) (by decide) (ad := "[B") rfl
 obtain ⟨b513, g513⟩ : ∃ z, z = h0.size := ⟨_, rfl⟩
 rw [← g513] at A513 C513 st513
 have ne_a0_b513 : a0 ≠ b513 := Nat.ne_of_lt (Nat.lt_of_lt_of_le (F_collection_a0).lt (Nat.le_of_eq g513.symm))
 have ne_r1_b513 : r1 ≠ b513 := Nat.ne_of_lt (Nat.lt_of_lt_of_le (V_r1).lt (Nat.le_of_eq g513.symm))
 have g_b513 : n0 ≤ b513 := Nat.le_trans Z0 (Nat.le_of_eq g513.symm)
 have sz_b513 : h0.size ≤ b513 := Nat.le_trans (Keep.refl h0 []).1 (Nat.le_of_eq g513.symm)
 have Z513 : n0 ≤ h513.size := Nat.le_trans Z0 E513.1
 have K513 : Keep h0 h513 [] := (Keep.refl h0 []).ext E513
 have Ff514 : Fld Z h513 a0 own_CK "collection" "I" (.int cc) := (F_collection_a0).ext E513
 have Ff515 : Fld Z h513 a0 own_CK "documentKey" "[B" (.ref r1) := (F_documentKey_a0).ext E513
 have Vf516 : Arv Z h513 r1 k_r1 .byte (3 : Int32) [(.int y0), (.int y1), (.int y2)] (.int 0) := (V_r1).ext E513
 have V_b513 : Arv Z h513 b513 k513 .byte (5 : Int32) [(.int 0), (.int 0), (.int 0), (.int 0), (.int 0)] (.int 0) := (Arv.new A513 (by decide)).pad (pad_rep [] (.int 0) 5)
 have pre517 : own_P p e below T513 (mkF m 3 #[vR a0, .unset, .unset, .unset, .unset, .unset] [(.ref b513)]) s₁ (entryFrame m #[(.ref a0)] 6) := fun t k => pre512 t (st513 t k)
 have pre518 : own_P p e below T513 (mkF m 7 #[vR a0, vR b513, vI 0, .unset, .unset, .unset] [(.ref a0)]) s₁ (entryFrame m #[(.ref a0)] 6) := by
  intro t k
  refine pre517 t ?_
  refine XS.astoreN X513.here hx rfl (hb hby d4_3) rfl rfl (l' := #[vR a0, vR b513, .unset, .unset, .unset, .unset]) rfl ?_
  refine XS.iconst X513.here hx rfl (hb hby d4_4) ?_
  refine XS.istoreN X513.here hx rfl (hb hby d4_5) rfl (l' := #[vR a0, vR b513, vI 0, .unset, .unset, .unset]) rfl ?_
  refine XS.aloadN X513.here hx rfl (hb hby d4_6) rfl rfl ?_
  exact k
 obtain ⟨T519, X519, e519, st519⟩ := getF X513 hx hZ hown (host := "") (Or.inl (own_w hw 15 rfl)) Via.refl e513 Ff514 (g := (mkF m 7 #[vR a0, vR b513, vI 0, .unset, .unset, .unset] [(.ref a0)])) rfl rfl (hb hby d4_7)
 have pre520 : own_P p e below T519 (mkF m 10 #[vR a0, vR b513, vI 0, .unset, .unset, .unset] [(.int cc)]) s₁ (entryFrame m #[(.ref a0)] 6) := fun t k => pre518 t (st519 t k)
 obtain ⟨_, _, ⟨T521, L521, k521, n521⟩, -, X521, ⟨Lc521, hQ521, l521, y521, z521⟩, st521⟩ := Jvm.LawKit.callS X519 hx (y := (⟨"java/lang/Integer", "toUnsignedLong", "(I)J"⟩ : MethodName)) hown (mvT hZ (own_w hw 24 rfl)) (mvT hZ (own_w hw 25 rfl)) (mvT hZ (own_w hw 26 rfl)) (mvT hZ (own_w hw 27 rfl)) (by decide) (backOf (W := 0) (rm5 l Z ar0 hw [] cc h513 n0 Z513) hZ (own_w hw 27 rfl) (own_w hw 26 rfl) (by decide) (by decide)) (g := (mkF m 10 #[vR a0, vR b513, vI 0, .unset, .unset, .unset] [(.int cc)])) rfl (by rw [hml]; rfl) (argsL := [(.int cc)]) (rest := []) (lenOf pd_2 rfl) rfl (by show 2 * 0 + _ ≤ _; exact Nat.le_of_eq rfl) (hb hby d4_10) (fun _ _ => ⟨rfl, e519, (by decide : 1 + 0 ≤ _), (by decide : 5 + 0 ≤ _)⟩)
 dsimp only [Pt.U, Pt.locs, Pt.cells, Pt.slots] at X521 l521 y521 z521 st521 hQ521
 subst l521 y521 z521
 obtain ⟨rfl, N521q, e521⟩ := hQ521
 have N521 := Fr.app N0 N521q
 have pre522 : own_P p e below T521 (mkF m 13 #[vR a0, vR b513, vI 0, .unset, .unset, .unset] [(.long (own_u0 cc))]) s₁ (entryFrame m #[(.ref a0)] 6) := fun t k => pre520 t (st521 t k)
 have pre523 : own_P p e below T521 (mkF m 32 #[vR a0, vR b513, vI 0, vJ (own_u1 cc), .second, vI (own_g0 cc)] [(.int (lcmpW (own_u1 cc) (0 : Int64))), (.int 0), (.ref b513)]) s₁ (entryFrame m #[(.ref a0)] 6) := by
  intro t k
  refine pre522 t ?_
  refine XS.lstoreN X521.here hx rfl (hb hby d4_13) rfl (l' := #[vR a0, vR b513, vI 0, vJ (own_u0 cc), .second, .unset]) rfl ?_
  refine XS.lloadN X521.here hx rfl (hb hby d4_14) rfl ?_
  refine X521.ldc2Long hx hown (mvT hZ (own_w hw 29 rfl)) (g := (mkF m 15 #[vR a0, vR b513, vI 0, vJ (own_u0 cc), .second, .unset] [(.long (own_u0 cc))])) rfl (hb hby d4_15) _ ?_
  refine XS.land X521.here hx rfl (hb hby d4_18) rfl ?_
  refine XS.l2i X521.here hx rfl (hb hby d4_19) rfl ?_
  refine XS.istore X521.here hx rfl (hb hby d4_20) rfl (l' := #[vR a0, vR b513, vI 0, vJ (own_u0 cc), .second, vI (own_g0 cc)]) rfl ?_
  refine XS.lloadN X521.here hx rfl (hb hby d4_22) rfl ?_
  refine XS.bipush X521.here hx rfl (hb hby d4_23) ?_
  refine XS.lushr X521.here hx rfl (hb hby d4_25) rfl ?_
  refine XS.lstoreN X521.here hx rfl (hb hby d4_26) rfl (l' := #[vR a0, vR b513, vI 0, vJ (own_u1 cc), .second, vI (own_g0 cc)]) rfl ?_
  refine XS.aloadN X521.here hx rfl (hb hby d4_27) rfl rfl ?_
  refine XS.iloadN X521.here hx rfl (hb hby d4_28) rfl ?_
  refine XS.lloadN X521.here hx rfl (hb hby d4_29) rfl ?_
  refine XS.lconst X521.here hx rfl (hb hby d4_30) ?_
  refine XS.lcmp X521.here hx rfl (hb hby d4_31) rfl ?_
  exact k
 have hk524 : ¬ ((own_u1 cc) = (0 : Int64)) := hz1
 have pre525 : own_P p e below T521 (mkF m 47 #[vR a0, vR b513, vI 0, vJ (own_u1 cc), .second, vI (own_g0 cc)] [(.int (((own_g0 cc) ||| (128 : Int32)).toInt8.toInt32)), (.int 0), (.ref b513)]) s₁ (entryFrame m #[(.ref a0)] 6) := by
  intro t k
  refine pre523 t ?_
  refine XS.ifYes X521.here hx rfl (pc0 := 32) (pc' := 40) rfl (hb hby d4_32) rfl ((if0 _ _).trans (feq (own_neL hk524)).2) (by decide) (by decide) ?_
  refine XS.iload X521.here hx rfl (hb hby d4_40) rfl ?_
  refine XS.sipush X521.here hx rfl (hb hby d4_42) ?_
  refine XS.ior X521.here hx rfl (hb hby d4_45) rfl ?_
  refine XS.i2b X521.here hx rfl (hb hby d4_46) rfl ?_
  exact k
 obtain ⟨cl526, Ar526, q526, S526, M526, H526, G526⟩ := id V_b513
 have hin526 : ¬ ((0 : Int32) < 0 ∨ cl526.slots.size ≤ ((0 : Int32)).toNatClampNeg) := inb_of S526 ⟨by decide, by decide⟩
 obtain ⟨T526, h526, X526, e526, W526, st526⟩ := stB X521 hx hZ e521 Ar526 (j := (0 : Int32)) hin526 (g := (mkF m 47 #[vR a0, vR b513, vI 0, vJ (own_u1 cc), .second, vI (own_g0 cc)] [(.int (((own_g0 cc) ||| (128 : Int32)).toInt8.toInt32)), (.int 0), (.ref b513)])) rfl rfl (hb hby d4_47)
 have Z526 : n0 ≤ h526.size := Nat.le_trans Z513 (Keep.of_wr W526).1
 have K526 : Keep h0 h526 [] := K513.wr W526 (Or.inr sz_b513)
 have N526 := Fr.snoc X526 N521 g_b513
 have Ff527 : Fld Z h526 a0 own_CK "collection" "I" (.int cc) := (Ff514).other W526 (Or.inl ne_a0_b513)
 have Ff528 : Fld Z h526 a0 own_CK "documentKey" "[B" (.ref r1) := (Ff515).other W526 (Or.inl ne_a0_b513)
 have Vf529 : Arv Z h526 r1 k_r1 .byte (3 : Int32) [(.int y0), (.int y1), (.int y2)] (.int 0) := (Vf516).other W526 ne_r1_b513
 have Ef530 : Exa Z h526 b513 "[B" := (C513).wr W526
 have V526 : Arv Z h526 b513 k513 .byte (5 : Int32) [(.int (own_m0 cc)), (.int 0), (.int 0), (.int 0), (.int 0)] (.int 0) := Arv.set Ar526 q526 S526 M526 H526 G526 (fits_nar_byte _) W526 0 rfl (Nat.le_of_ble_eq_true rfl)
 have pre531 : own_P p e below T526 (mkF m 48 #[vR a0, vR b513, vI 0, vJ (own_u1 cc), .second, vI (own_g0 cc)] []) s₁ (entryFrame m #[(.ref a0)] 6) := fun t k => pre525 t (st526 t k)
 have pre532 : own_P p e below T526 (mkF m 32 #[vR a0, vR b513, vI 1, vJ (own_u2 cc), .second, vI (own_g1 cc)] [(.int (lcmpW (own_u2 cc) (0 : Int64))), (.int 1), (.ref b513)]) s₁ (entryFrame m #[(.ref a0)] 6) := by
  intro t k
  refine pre531 t ?_
  refine XS.iinc X526.here hx rfl (hb hby d4_48) rfl (l' := #[vR a0, vR b513, vI 1, vJ (own_u1 cc), .second, vI (own_g0 cc)]) rfl ?_
  refine XS.lloadN X526.here hx rfl (hb hby d4_51) rfl ?_
  refine XS.lconst X526.here hx rfl (hb hby d4_52) ?_
  refine XS.lcmp X526.here hx rfl (hb hby d4_53) rfl ?_
  refine XS.ifYes X526.here hx rfl (pc0 := 54) (pc' := 14) rfl (hb hby d4_54) rfl ((if0 _ _).trans (feq (own_neL hk524)).2) (by decide) (by decide) ?_
  refine XS.lloadN X526.here hx rfl (hb hby d4_14) rfl ?_
  refine X526.ldc2Long hx hown (mvT hZ (own_w hw 29 rfl)) (g := (mkF m 15 #[vR a0, vR b513, vI 1, vJ (own_u1 cc), .second, vI (own_g0 cc)] [(.long (own_u1 cc))])) rfl (hb hby d4_15) _ ?_
  refine XS.land X526.here hx rfl (hb hby d4_18) rfl ?_
  refine XS.l2i X526.here hx rfl (hb hby d4_19) rfl ?_
  refine XS.istore X526.here hx rfl (hb hby d4_20) rfl (l' := #[vR a0, vR b513, vI 1, vJ (own_u1 cc), .second, vI (own_g1 cc)]) rfl ?_
  refine XS.lloadN X526.here hx rfl (hb hby d4_22) rfl ?_
  refine XS.bipush X526.here hx rfl (hb hby d4_23) ?_
  refine XS.lushr X526.here hx rfl (hb hby d4_25) rfl ?_
  refine XS.lstoreN X526.here hx rfl (hb hby d4_26) rfl (l' := #[vR a0, vR b513, vI 1, vJ (own_u2 cc), .second, vI (own_g1 cc)]) rfl ?_
  refine XS.aloadN X526.here hx rfl (hb hby d4_27) rfl rfl ?_
  refine XS.iloadN X526.here hx rfl (hb hby d4_28) rfl ?_
  refine XS.lloadN X526.here hx rfl (hb hby d4_29) rfl ?_
  refine XS.lconst X526.here hx rfl (hb hby d4_30) ?_
  refine XS.lcmp X526.here hx rfl (hb hby d4_31) rfl ?_
  exact k
 have hk533 : (own_u2 cc) = (0 : Int64) := hz2
 have pre534 : own_P p e below T526 (mkF m 47 #[vR a0, vR b513, vI 1, vJ (own_u2 cc), .second, vI (own_g1 cc)] [(.int ((own_g1 cc).toInt8.toInt32)), (.int 1), (.ref b513)]) s₁ (entryFrame m #[(.ref a0)] 6) := by
  intro t k
  refine pre532 t ?_
  refine XS.ifNo X526.here hx rfl (hb hby d4_32) rfl ((if0 _ _).trans (teq (own_eqL hk533)).2) ?_
  refine XS.iload X526.here hx rfl (hb hby d4_35) rfl ?_
  refine XS.goto X526.here hx rfl (pc0 := 37) (pc' := 46) rfl (hb hby d4_37) (by decide) (by decide) ?_
  refine XS.i2b X526.here hx rfl (hb hby d4_46) rfl ?_
  exact k
 obtain ⟨cl535, Ar535, q535, S535, M535, H535, G535⟩ := id V526
 have hin535 : ¬ ((1 : Int32) < 0 ∨ cl535.slots.size ≤ ((1 : Int32)).toNatClampNeg) := inb_of S535 ⟨by decide, by decide⟩
 obtain ⟨T535, h535, X535, e535, W535, st535⟩ := stB X526 hx hZ e526 Ar535 (j := (1 : Int32)) hin535 (g := (mkF m 47 #[vR a0, vR b513, vI 1, vJ (own_u2 cc), .second, vI (own_g1 cc)] [(.int ((own_g1 cc).toInt8.toInt32)), (.int 1), (.ref b513)])) rfl rfl (hb hby d4_47)
 have Z535 : n0 ≤ h535.size := Nat.le_trans Z526 (Keep.of_wr W535).1
 have K535 : Keep h0 h535 [] := K526.wr W535 (Or.inr sz_b513)
 have N535 := Fr.snoc X535 N526 g_b513
 have Ff536 : Fld Z h535 a0 own_CK "collection" "I" (.int cc) := (Ff527).other W535 (Or.inl ne_a0_b513)
 have Ff537 : Fld Z h535 a0 own_CK "documentKey" "[B" (.ref r1) := (Ff528).other W535 (Or.inl ne_a0_b513)
 have Vf538 : Arv Z h535 r1 k_r1 .byte (3 : Int32) [(.int y0), (.int y1), (.int y2)] (.int 0) := (Vf529).other W535 ne_r1_b513
 have Ef539 : Exa Z h535 b513 "[B" := (Ef530).wr W535
 have V535 : Arv Z h535 b513 k513 .byte (5 : Int32) [(.int (own_m0 cc)), (.int (own_l1 cc)), (.int 0), (.int 0), (.int 0)] (.int 0) := Arv.set Ar535 q535 S535 M535 H535 G535 (fits_nar_byte _) W535 1 rfl (Nat.le_of_ble_eq_true rfl)
 have pre540 : own_P p e below T535 (mkF m 48 #[vR a0, vR b513, vI 1, vJ (own_u2 cc), .second, vI (own_g1 cc)] []) s₁ (entryFrame m #[(.ref a0)] 6) := fun t k => pre534 t (st535 t k)
 have pre541 : own_P p e below T535 (mkF m 60 #[vR a0, vR b513, vI 2, vJ (own_u2 cc), .second, vI (own_g1 cc)] [(.ref a0), (.int 2), (.ref b513)]) s₁ (entryFrame m #[(.ref a0)] 6) := by
  intro t k
  refine pre540 t ?_
  refine XS.iinc X535.here hx rfl (hb hby d4_48) rfl (l' := #[vR a0, vR b513, vI 2, vJ (own_u2 cc), .second, vI (own_g1 cc)]) rfl ?_
  refine XS.lloadN X535.here hx rfl (hb hby d4_51) rfl ?_
  refine XS.lconst X535.here hx rfl (hb hby d4_52) ?_
  refine XS.lcmp X535.here hx rfl (hb hby d4_53) rfl ?_
  refine XS.ifNo X535.here hx rfl (hb hby d4_54) rfl ((if0 _ _).trans (teq (own_eqL hk533)).2) ?_
  refine XS.aloadN X535.here hx rfl (hb hby d4_57) rfl rfl ?_
  refine XS.iloadN X535.here hx rfl (hb hby d4_58) rfl ?_
  refine XS.aloadN X535.here hx rfl (hb hby d4_59) rfl rfl ?_
  exact k
 obtain ⟨T542, X542, e542, st542⟩ := getF X535 hx hZ hown (host := "") (Or.inl (own_w hw 17 rfl)) Via.refl e535 Ff537 (g := (mkF m 60 #[vR a0, vR b513, vI 2, vJ (own_u2 cc), .second, vI (own_g1 cc)] [(.ref a0), (.int 2), (.ref b513)])) rfl rfl (hb hby d4_60)
 have pre543 : own_P p e below T542 (mkF m 63 #[vR a0, vR b513, vI 2, vJ (own_u2 cc), .second, vI (own_g1 cc)] [(.ref r1), (.int 2), (.ref b513)]) s₁ (entryFrame m #[(.ref a0)] 6) := fun t k => pre541 t (st542 t k)
 obtain ⟨cl544, Ar544, q544, S544, M544, H544, G544⟩ := id Vf538
 have pre545 : own_P p e below T542 (mkF m 65 #[vR a0, vR b513, vI 2, vJ (own_u2 cc), .second, vI (own_g1 cc)] [(.int 5), (.ref b513)]) s₁ (entryFrame m #[(.ref a0)] 6) := by
  intro t k
  refine pre543 t ?_
  refine X542.arraylength hx (by rw [e542]; exact Ar544.1) (State.isArrayOf_alike hZ.alike Ar544.2.1) (g := (mkF m 63 #[vR a0, vR b513, vI 2, vJ (own_u2 cc), .second, vI (own_g1 cc)] [(.ref r1), (.int 2), (.ref b513)])) rfl rfl (hb hby d4_63) _ ?_
  rw [len_of S544 M544]
  refine XS.iadd X542.here hx rfl (hb hby d4_64) rfl ?_
  exact k
 obtain ⟨_, _, ⟨T546, L546, k546, n546⟩, -, X546, ⟨Lc546, hQ546, l546, y546, z546⟩, st546⟩ := Jvm.LawKit.callS X542 hx (y := (⟨"java/util/Arrays", "copyOf", "([BI)[B"⟩ : MethodName)) hown (mvT hZ (own_w hw 30 rfl)) (mvT hZ (own_w hw 31 rfl)) (mvT hZ (own_w hw 32 rfl)) (mvT hZ (own_w hw 33 rfl)) (by decide) (backOf (W := 0) (rm6_5 l Z ar0 hw [] b513 k513 (own_m0 cc) (own_l1 cc) (0 : Int32) (0 : Int32) (0 : Int32) h535 n0 Z535 V535 Ef539) hZ (own_w hw 33 rfl) (own_w hw 32 rfl) (by decide) (by decide)) (g := (mkF m 65 #[vR a0, vR b513, vI 2, vJ (own_u2 cc), .second, vI (own_g1 cc)] [(.int 5), (.ref b513)])) rfl (by rw [hml]; rfl) (argsL := [(.ref b513), (.int 5)]) (rest := []) (lenOf pd_3 rfl) rfl (by show 2 * 0 + _ ≤ _; exact Nat.le_of_eq rfl) (hb hby d4_65) (fun _ _ => ⟨rfl, e542, (by decide : 1 + 1 ≤ _), (by decide : 5 + 5 ≤ _)⟩)
 dsimp only [Pt.U, Pt.locs, Pt.cells, Pt.slots] at X546 l546 y546 z546 st546 hQ546
 subst l546 y546 z546
 obtain ⟨h546, e546⟩ : ∃ h, T546.heap = h := ⟨_, rfl⟩
 rw [e546] at hQ546
 obtain ⟨b546, kb546, rfl, N546q, K546q, y_b546, Ob546_0, Ob546_1⟩ := hQ546
 have N546 := Fr.app N535 N546q
 have ne_a0_b546 : a0 ≠ b546 := Nat.ne_of_lt (Nat.lt_of_lt_of_le (Ff536).lt y_b546)
 have ne_r1_b546 : r1 ≠ b546 := Nat.ne_of_lt (Nat.lt_of_lt_of_le (Vf538).lt y_b546)
 have ne_b513_b546 : b513 ≠ b546 := Nat.ne_of_lt (Nat.lt_of_lt_of_le (Ef539).lt y_b546)
 have g_b546 : n0 ≤ b546 := Nat.le_trans Z535 y_b546
 have sz_b546 : h0.size ≤ b546 := Nat.le_trans K535.1 y_b546
 have Z546 : n0 ≤ h546.size := Nat.le_trans Z535 K546q.1
 have K546 : Keep h0 h546 [] := K535.trans K546q (fun x hx => absurd hx List.not_mem_nil)
 have Ff547 : Fld Z h546 a0 own_CK "collection" "I" (.int cc) := (Ff536).keep K546q List.not_mem_nil
 have Ff548 : Fld Z h546 a0 own_CK "documentKey" "[B" (.ref r1) := (Ff537).keep K546q List.not_mem_nil
 have Vf549 : Arv Z h546 r1 k_r1 .byte (3 : Int32) [(.int y0), (.int y1), (.int y2)] (.int 0) := (Vf538).keep K546q List.not_mem_nil
 have Ef550 : Exa Z h546 b513 "[B" := (Ef539).keep K546q
 have Vf551 : Arv Z h546 b513 k513 .byte (5 : Int32) [(.int (own_m0 cc)), (.int (own_l1 cc)), (.int 0), (.int 0), (.int 0)] (.int 0) := (V535).keep K546q List.not_mem_nil
 have pre552 : own_P p e below T546 (mkF m 68 #[vR a0, vR b513, vI 2, vJ (own_u2 cc), .second, vI (own_g1 cc)] [(.ref b546)]) s₁ (entryFrame m #[(.ref a0)] 6) := fun t k => pre545 t (st546 t k)
 have pre553 : own_P p e below T546 (mkF m 71 #[vR a0, vR b513, vI 2, vJ (own_u2 cc), .second, vR b546] [(.ref a0)]) s₁ (entryFrame m #[(.ref a0)] 6) := by
  intro t k
  refine pre552 t ?_
  refine XS.astore X546.here hx rfl (hb hby d4_68) rfl rfl (l' := #[vR a0, vR b513, vI 2, vJ (own_u2 cc), .second, vR b546]) rfl ?_
  refine XS.aloadN X546.here hx rfl (hb hby d4_70) rfl rfl ?_
  exact k
 obtain ⟨T554, X554, e554, st554⟩ := getF X546 hx hZ hown (host := "") (Or.inl (own_w hw 17 rfl)) Via.refl e546 Ff548 (g := (mkF m 71 #[vR a0, vR b513, vI 2, vJ (own_u2 cc), .second, vR b546] [(.ref a0)])) rfl rfl (hb hby d4_71)
 have pre555 : own_P p e below T554 (mkF m 74 #[vR a0, vR b513, vI 2, vJ (own_u2 cc), .second, vR b546] [(.ref r1)]) s₁ (entryFrame m #[(.ref a0)] 6) := fun t k => pre553 t (st554 t k)
 have pre556 : own_P p e below T554 (mkF m 79 #[vR a0, vR b513, vI 2, vJ (own_u2 cc), .second, vR b546] [(.ref a0), (.int 2), (.ref b546), (.int 0), (.ref r1)]) s₁ (entryFrame m #[(.ref a0)] 6) := by
  intro t k
  refine pre555 t ?_
  refine XS.iconst X554.here hx rfl (hb hby d4_74) ?_
  refine XS.aload X554.here hx rfl (hb hby d4_75) rfl rfl ?_
  refine XS.iloadN X554.here hx rfl (hb hby d4_77) rfl ?_
  refine XS.aloadN X554.here hx rfl (hb hby d4_78) rfl rfl ?_
  exact k
 obtain ⟨T557, X557, e557, st557⟩ := getF X554 hx hZ hown (host := "") (Or.inl (own_w hw 17 rfl)) Via.refl e554 Ff548 (g := (mkF m 79 #[vR a0, vR b513, vI 2, vJ (own_u2 cc), .second, vR b546] [(.ref a0), (.int 2), (.ref b546), (.int 0), (.ref r1)])) rfl rfl (hb hby d4_79)
 have pre558 : own_P p e below T557 (mkF m 82 #[vR a0, vR b513, vI 2, vJ (own_u2 cc), .second, vR b546] [(.ref r1), (.int 2), (.ref b546), (.int 0), (.ref r1)]) s₁ (entryFrame m #[(.ref a0)] 6) := fun t k => pre556 t (st557 t k)
 obtain ⟨cl559, Ar559, q559, S559, M559, H559, G559⟩ := id Vf549
 have pre560 : own_P p e below T557 (mkF m 83 #[vR a0, vR b513, vI 2, vJ (own_u2 cc), .second, vR b546] [(.int 3), (.int 2), (.ref b546), (.int 0), (.ref r1)]) s₁ (entryFrame m #[(.ref a0)] 6) := by
  intro t k
  refine pre558 t ?_
  refine X557.arraylength hx (by rw [e557]; exact Ar559.1) (State.isArrayOf_alike hZ.alike Ar559.2.1) (g := (mkF m 82 #[vR a0, vR b513, vI 2, vJ (own_u2 cc), .second, vR b546] [(.ref r1), (.int 2), (.ref b546), (.int 0), (.ref r1)])) rfl rfl (hb hby d4_82) _ ?_
  rw [len_of S559 M559]
  exact k
 obtain ⟨T561, h561, L561, X561, e561, N561, K561q, V561q, st561⟩ := cpA X557 hx hZ hown (own_w hw 42 rfl) (own_w hw 41 rfl) (own_w hw 39 rfl) (own_w hw 40 rfl) e557 Vf549 Ob546_0 (Or.inl ⟨rfl, rfl⟩) (by decide) (by decide) (by decide) (by decide) (by decide) (us := [(.int y0), (.int y1), (.int y2)]) rfl (Nat.le_of_ble_eq_true rfl) N546 g_b546 (g := (mkF m 83 #[vR a0, vR b513, vI 2, vJ (own_u2 cc), .second, vR b546] [(.int 3), (.int 2), (.ref b546), (.int 0), (.ref r1)])) rfl (by rw [hml]; rfl) rfl (hb hby d4_83) (by decide) (W := 0) (by show 2 * 0 + _ ≤ _; exact Nat.le_of_eq rfl) (by decide)
 have Z561 : n0 ≤ h561.size := Nat.le_trans Z546 K561q.1
 have K561 : Keep h0 h561 [] := K546.trans K561q (fun x hx => by cases List.mem_singleton.mp hx; exact Or.inr sz_b546)
 have Ff562 : Fld Z h561 a0 own_CK "collection" "I" (.int cc) := (Ff547).keep K561q (fun q => absurd (List.mem_singleton.mp q) ne_a0_b546)
 have Ff563 : Fld Z h561 a0 own_CK "documentKey" "[B" (.ref r1) := (Ff548).keep K561q (fun q => absurd (List.mem_singleton.mp q) ne_a0_b546)
 have Vf564 : Arv Z h561 r1 k_r1 .byte (3 : Int32) [(.int y0), (.int y1), (.int y2)] (.int 0) := (Vf549).keep K561q (fun q => absurd (List.mem_singleton.mp q) ne_r1_b546)
 have Ef565 : Exa Z h561 b513 "[B" := (Ef550).keep K561q
 have Vf566 : Arv Z h561 b513 k513 .byte (5 : Int32) [(.int (own_m0 cc)), (.int (own_l1 cc)), (.int 0), (.int 0), (.int 0)] (.int 0) := (Vf551).keep K561q (fun q => absurd (List.mem_singleton.mp q) ne_b513_b546)
 have Ef567 : Exa Z h561 b546 "[B" := (Ob546_1).keep K561q
 have V561 : Arv Z h561 b546 kb546 .byte (5 : Int32) [(.int (own_m0 cc)), (.int (own_l1 cc)), (.int y0), (.int y1), (.int y2)] (.int 0) := V561q
 have pre568 : own_P p e below T561 (mkF m 86 #[vR a0, vR b513, vI 2, vJ (own_u2 cc), .second, vR b546] []) s₁ (entryFrame m #[(.ref a0)] 6) := fun t k => pre560 t (st561 t k)
 obtain ⟨fs, hr, hrun, hended, hW, hsame⟩ := X561.leave (v := some (.ref b546)) (fun h => by rw [Bd.returns] at h; cases h)
 refine ⟨_, _, pre568 _ ?_, hrun, hended, _, _, rfl, ?_, ⟨_, rfl⟩, hW, hsame.mono (by decide) (by decide)⟩
 ·
  refine XS.aload X561.here hx rfl (hb hby d4_86) rfl rfl ?_
  exact retOut X561 hx Bd.returns rfl (Or.inr (Or.inr (Or.inr (Or.inr ⟨rfl, rfl, rfl⟩)))) (hb hby d4_88) hr
 ·
  show Q4_2_3 Z a0 cc r1 k_r1 y0 y1 y2 h0 n0 _ T561.heap _
  rw [e561]
  exact ⟨b546, kb546, rfl, N561, K561, sz_b546, Ef567, V561⟩
def Q4_3_0 (Z : State) (a0 : Addr) (cc : Int32) (r1 : Addr) (k_r1 : ClassId) (h0 : Heap) (n0 : Nat) (v : Option Value) (h : Heap) (L : List Loc) : Prop := ∃ (b : Addr) (k_b : ClassId), v = some (.ref b) ∧ Fr n0 L ∧ Keep h0 h [] ∧ h0.size ≤ b ∧ Exa Z h b "[B" ∧ Arv Z h b k_b .byte (3 : Int32) [(.int (own_m0 cc)), (.int (own_m1 cc)), (.int (own_l2 cc))] (.int 0)
set_option maxRecDepth 65536 in
set_option maxHeartbeats 40000000 in
theorem rm4_3_0 (l : Launch) (Z : State) (ar0 : Array Value) (hw : ∀ d ∈ tables_1, d.before ar0 Z = true) (ws : List Jvm.Cond) (a0 : Addr) (cc : Int32) (r1 : Addr) (k_r1 : ClassId) (h0 : Heap) (n0 : Nat) (Z0 : n0 ≤ h0.size) (F_collection_a0 : Fld Z h0 a0 own_CK "collection" "I" (.int cc)) (F_documentKey_a0 : Fld Z h0 a0 own_CK "documentKey" "[B" (.ref r1)) (V_r1 : Arv Z h0 r1 k_r1 .byte (0 : Int32) [] (.int 0)) (hz1 : ¬ ((own_u1 cc) = (0 : Int64))) (hz2 : ¬ ((own_u2 cc) = (0 : Int64))) (hz3 : (own_u3 cc) = (0 : Int64)) :
  MetFree l (⟨own_CK, "write", "()[B"⟩ : MethodName) (head1 (Jvm.Cond.code (⟨own_CK, "write", "()[B"⟩ : MethodName) prog_8_method_3_code 6 (some (.array .byte)) :: ws) ({ frames := 2, cells := 2, slots := 8, locals := 32 } : Room)) (fun a U => a = #[(.ref a0)] ∧ Z.Warmed39 U.vm ∧ U.heap = h0) (fun _ _ _ _ _ => True) (fun _ U o U' => ∃ v L, o = .returned v ∧ Q4_3_0 Z a0 cc r1 k_r1 h0 n0 v U'.heap L ∧ FrameEnd U o U' L ({ frames := 2, cells := 2, slots := 8, locals := 32 } : Room).cells ({ frames := 2, cells := 2, slots := 8, locals := 32 } : Room).slots) := by
 refine MetFree.of_bodySF (plainFor_of_name pn_1) hisR ?_
 intro p e s m args below meth c s₁ Bd hml0 hP hK
 obtain ⟨rfl, hZ, hh⟩ := hP
 have hx := Bd.exec
 have hby := Bd.bytes
 have hml : c.maxLocals = 6 := hml0
 have hown : s.vm.findClass own_CK = some m.cls := by have q := findClass_of_methodNamed Bd.named; exact q
 have hnm := (name_of_methodNamed Bd.named Bd.method).1
 have X0 : Stand p l e ({ frames := 2, cells := 2, slots := 8, locals := 32 } : Room) s m #[(.ref a0)] below meth c s₁ [] 0 0 := Stand.of_body Bd
 have e0 : s₁.heap = h0 := by rw [← hh, Bd.state]; rfl
 have N0 := Fr.nil n0
 have pre0 : own_P p e below s₁ (mkF m 0 #[vR a0, .unset, .unset, .unset, .unset, .unset] []) s₁ (entryFrame m #[(.ref a0)] 6) := fun t k => castTop (ef_4 m a0) k
 have pre569 : own_P p e below s₁ (mkF m 1 #[vR a0, .unset, .unset, .unset, .unset, .unset] [(.int 5)]) s₁ (entryFrame m #[(.ref a0)] 6) := by
  intro t k
  refine pre0 t ?_
  refine XS.iconst X0.here hx rfl (hb hby d4_0) ?_
  exact k
 obtain ⟨T570, h570, k570, X570, e570, E570, A570, C570, st570⟩ := newPE X0 hx hZ (own_w hw 0 rfl) e0 (g := (mkF m 1 #[vR a0, .unset, .unset, .unset, .unset, .unset] [(.int 5)])) rfl (hb hby d4_1) rfl (by decide) (cap := 5) (by decide) (by decide) (by decide) (by decide) (ad := "[B") rfl
 obtain ⟨b570, g570⟩ : ∃ z, z = h0.size := ⟨_, rfl⟩
 rw [← g570] at A570 C570 st570
 have ne_a0_b570 : a0 ≠ b570 := Nat.ne_of_lt (Nat.lt_of_lt_of_le (F_collection_a0).lt (Nat.le_of_eq g570.symm))
 have ne_r1_b570 : r1 ≠ b570 := Nat.ne_of_lt (Nat.lt_of_lt_of_le (V_r1).lt (Nat.le_of_eq g570.symm))
 have g_b570 : n0 ≤ b570 := Nat.le_trans Z0 (Nat.le_of_eq g570.symm)
 have sz_b570 : h0.size ≤ b570 := Nat.le_trans (Keep.refl h0 []).1 (Nat.le_of_eq g570.symm)
 have Z570 : n0 ≤ h570.size := Nat.le_trans Z0 E570.1
 have K570 : Keep h0 h570 [] := (Keep.refl h0 []).ext E570
 have Ff571 : Fld Z h570 a0 own_CK "collection" "I" (.int cc) := (F_collection_a0).ext E570
 have Ff572 : Fld Z h570 a0 own_CK "documentKey" "[B" (.ref r1) := (F_documentKey_a0).ext E570
 have Vf573 : Arv Z h570 r1 k_r1 .byte (0 : Int32) [] (.int 0) := (V_r1).ext E570
 have V_b570 : Arv Z h570 b570 k570 .byte (5 : Int32) [(.int 0), (.int 0), (.int 0), (.int 0), (.int 0)] (.int 0) := (Arv.new A570 (by decide)).pad (pad_rep [] (.int 0) 5)
 have pre574 : own_P p e below T570 (mkF m 3 #[vR a0, .unset, .unset, .unset, .unset, .unset] [(.ref b570)]) s₁ (entryFrame m #[(.ref a0)] 6) := fun t k => pre569 t (st570 t k)
 have pre575 : own_P p e below T570 (mkF m 7 #[vR a0, vR b570, vI 0, .unset, .unset, .unset] [(.ref a0)]) s₁ (entryFrame m #[(.ref a0)] 6) := by
  intro t k
  refine pre574 t ?_
  refine XS.astoreN X570.here hx rfl (hb hby d4_3) rfl rfl (l' := #[vR a0, vR b570, .unset, .unset, .unset, .unset]) rfl ?_
  refine XS.iconst X570.here hx rfl (hb hby d4_4) ?_
  refine XS.istoreN X570.here hx rfl (hb hby d4_5) rfl (l' := #[vR a0, vR b570, vI 0, .unset, .unset, .unset]) rfl ?_
  refine XS.aloadN X570.here hx rfl (hb hby d4_6) rfl rfl ?_
  exact k
 obtain ⟨T576, X576, e576, st576⟩ := getF X570 hx hZ hown (host := "") (Or.inl (own_w hw 15 rfl)) Via.refl e570 Ff571 (g := (mkF m 7 #[vR a0, vR b570, vI 0, .unset, .unset, .unset] [(.ref a0)])) rfl rfl (hb hby d4_7)
 have pre577 : own_P p e below T576 (mkF m 10 #[vR a0, vR b570, vI 0, .unset, .unset, .unset] [(.int cc)]) s₁ (entryFrame m #[(.ref a0)] 6) := fun t k => pre575 t (st576 t k)
 obtain ⟨_, _, ⟨T578, L578, k578, n578⟩, -, X578, ⟨Lc578, hQ578, l578, y578, z578⟩, st578⟩ := Jvm.LawKit.callS X576 hx (y := (⟨"java/lang/Integer", "toUnsignedLong", "(I)J"⟩ : MethodName)) hown (mvT hZ (own_w hw 24 rfl)) (mvT hZ (own_w hw 25 rfl)) (mvT hZ (own_w hw 26 rfl)) (mvT hZ (own_w hw 27 rfl)) (by decide) (backOf (W := 0) (rm5 l Z ar0 hw [] cc h570 n0 Z570) hZ (own_w hw 27 rfl) (own_w hw 26 rfl) (by decide) (by decide)) (g := (mkF m 10 #[vR a0, vR b570, vI 0, .unset, .unset, .unset] [(.int cc)])) rfl (by rw [hml]; rfl) (argsL := [(.int cc)]) (rest := []) (lenOf pd_2 rfl) rfl (by show 2 * 0 + _ ≤ _; exact Nat.le_of_eq rfl) (hb hby d4_10) (fun _ _ => ⟨rfl, e576, (by decide : 1 + 0 ≤ _), (by decide : 5 + 0 ≤ _)⟩)
 dsimp only [Pt.U, Pt.locs, Pt.cells, Pt.slots] at X578 l578 y578 z578 st578 hQ578
 subst l578 y578 z578
 obtain ⟨rfl, N578q, e578⟩ := hQ578
 have N578 := Fr.app N0 N578q
 have pre579 : own_P p e below T578 (mkF m 13 #[vR a0, vR b570, vI 0, .unset, .unset, .unset] [(.long (own_u0 cc))]) s₁ (entryFrame m #[(.ref a0)] 6) := fun t k => pre577 t (st578 t k)
 have pre580 : own_P p e below T578 (mkF m 32 #[vR a0, vR b570, vI 0, vJ (own_u1 cc), .second, vI (own_g0 cc)] [(.int (lcmpW (own_u1 cc) (0 : Int64))), (.int 0), (.ref b570)]) s₁ (entryFrame m #[(.ref a0)] 6) := by
  intro t k
  refine pre579 t ?_
  refine XS.lstoreN X578.here hx rfl (hb hby d4_13) rfl (l' := #[vR a0, vR b570, vI 0, vJ (own_u0 cc), .second, .unset]) rfl ?_
  refine XS.lloadN X578.here hx rfl (hb hby d4_14) rfl ?_
  refine X578.ldc2Long hx hown (mvT hZ (own_w hw 29 rfl)) (g := (mkF m 15 #[vR a0, vR b570, vI 0, vJ (own_u0 cc), .second, .unset] [(.long (own_u0 cc))])) rfl (hb hby d4_15) _ ?_
  refine XS.land X578.here hx rfl (hb hby d4_18) rfl ?_
  refine XS.l2i X578.here hx rfl (hb hby d4_19) rfl ?_
  refine XS.istore X578.here hx rfl (hb hby d4_20) rfl (l' := #[vR a0, vR b570, vI 0, vJ (own_u0 cc), .second, vI (own_g0 cc)]) rfl ?_
  refine XS.lloadN X578.here hx rfl (hb hby d4_22) rfl ?_
  refine XS.bipush X578.here hx rfl (hb hby d4_23) ?_
  refine XS.lushr X578.here hx rfl (hb hby d4_25) rfl ?_
  refine XS.lstoreN X578.here hx rfl (hb hby d4_26) rfl (l' := #[vR a0, vR b570, vI 0, vJ (own_u1 cc), .second, vI (own_g0 cc)]) rfl ?_
  refine XS.aloadN X578.here hx rfl (hb hby d4_27) rfl rfl ?_
  refine XS.iloadN X578.here hx rfl (hb hby d4_28) rfl ?_
  refine XS.lloadN X578.here hx rfl (hb hby d4_29) rfl ?_
  refine XS.lconst X578.here hx rfl (hb hby d4_30) ?_
  refine XS.lcmp X578.here hx rfl (hb hby d4_31) rfl ?_
  exact k
 have hk581 : ¬ ((own_u1 cc) = (0 : Int64)) := hz1
 have pre582 : own_P p e below T578 (mkF m 47 #[vR a0, vR b570, vI 0, vJ (own_u1 cc), .second, vI (own_g0 cc)] [(.int (((own_g0 cc) ||| (128 : Int32)).toInt8.toInt32)), (.int 0), (.ref b570)]) s₁ (entryFrame m #[(.ref a0)] 6) := by
  intro t k
  refine pre580 t ?_
  refine XS.ifYes X578.here hx rfl (pc0 := 32) (pc' := 40) rfl (hb hby d4_32) rfl ((if0 _ _).trans (feq (own_neL hk581)).2) (by decide) (by decide) ?_
  refine XS.iload X578.here hx rfl (hb hby d4_40) rfl ?_
  refine XS.sipush X578.here hx rfl (hb hby d4_42) ?_
  refine XS.ior X578.here hx rfl (hb hby d4_45) rfl ?_
  refine XS.i2b X578.here hx rfl (hb hby d4_46) rfl ?_
  exact k
 obtain ⟨cl583, Ar583, q583, S583, M583, H583, G583⟩ := id V_b570
 have hin583 : ¬ ((0 : Int32) < 0 ∨ cl583.slots.size ≤ ((0 : Int32)).toNatClampNeg) := inb_of S583 ⟨by decide, by decide⟩
 obtain ⟨T583, h583, X583, e583, W583, st583⟩ := stB X578 hx hZ e578 Ar583 (j := (0 : Int32)) hin583 (g := (mkF m 47 #[vR a0, vR b570, vI 0, vJ (own_u1 cc), .second, vI (own_g0 cc)] [(.int (((own_g0 cc) ||| (128 : Int32)).toInt8.toInt32)), (.int 0), (.ref b570)])) rfl rfl (hb hby d4_47)
 have Z583 : n0 ≤ h583.size := Nat.le_trans Z570 (Keep.of_wr W583).1
 have K583 : Keep h0 h583 [] := K570.wr W583 (Or.inr sz_b570)
 have N583 := Fr.snoc X583 N578 g_b570
 have Ff584 : Fld Z h583 a0 own_CK "collection" "I" (.int cc) := (Ff571).other W583 (Or.inl ne_a0_b570)
 have Ff585 : Fld Z h583 a0 own_CK "documentKey" "[B" (.ref r1) := (Ff572).other W583 (Or.inl ne_a0_b570)
 have Vf586 : Arv Z h583 r1 k_r1 .byte (0 : Int32) [] (.int 0) := (Vf573).other W583 ne_r1_b570
 have Ef587 : Exa Z h583 b570 "[B" := (C570).wr W583
 have V583 : Arv Z h583 b570 k570 .byte (5 : Int32) [(.int (own_m0 cc)), (.int 0), (.int 0), (.int 0), (.int 0)] (.int 0) := Arv.set Ar583 q583 S583 M583 H583 G583 (fits_nar_byte _) W583 0 rfl (Nat.le_of_ble_eq_true rfl)
 have pre588 : own_P p e below T583 (mkF m 48 #[vR a0, vR b570, vI 0, vJ (own_u1 cc), .second, vI (own_g0 cc)] []) s₁ (entryFrame m #[(.ref a0)] 6) := fun t k => pre582 t (st583 t k)
 have pre589 : own_P p e below T583 (mkF m 32 #[vR a0, vR b570, vI 1, vJ (own_u2 cc), .second, vI (own_g1 cc)] [(.int (lcmpW (own_u2 cc) (0 : Int64))), (.int 1), (.ref b570)]) s₁ (entryFrame m #[(.ref a0)] 6) := by
  intro t k
  refine pre588 t ?_
  refine XS.iinc X583.here hx rfl (hb hby d4_48) rfl (l' := #[vR a0, vR b570, vI 1, vJ (own_u1 cc), .second, vI (own_g0 cc)]) rfl ?_
  refine XS.lloadN X583.here hx rfl (hb hby d4_51) rfl ?_
  refine XS.lconst X583.here hx rfl (hb hby d4_52) ?_
  refine XS.lcmp X583.here hx rfl (hb hby d4_53) rfl ?_
  refine XS.ifYes X583.here hx rfl (pc0 := 54) (pc' := 14) rfl (hb hby d4_54) rfl ((if0 _ _).trans (feq (own_neL hk581)).2) (by decide) (by decide) ?_
  refine XS.lloadN X583.here hx rfl (hb hby d4_14) rfl ?_
  refine X583.ldc2Long hx hown (mvT hZ (own_w hw 29 rfl)) (g := (mkF m 15 #[vR a0, vR b570, vI 1, vJ (own_u1 cc), .second, vI (own_g0 cc)] [(.long (own_u1 cc))])) rfl (hb hby d4_15) _ ?_
  refine XS.land X583.here hx rfl (hb hby d4_18) rfl ?_
  refine XS.l2i X583.here hx rfl (hb hby d4_19) rfl ?_
  refine XS.istore X583.here hx rfl (hb hby d4_20) rfl (l' := #[vR a0, vR b570, vI 1, vJ (own_u1 cc), .second, vI (own_g1 cc)]) rfl ?_
  refine XS.lloadN X583.here hx rfl (hb hby d4_22) rfl ?_
  refine XS.bipush X583.here hx rfl (hb hby d4_23) ?_
  refine XS.lushr X583.here hx rfl (hb hby d4_25) rfl ?_
  refine XS.lstoreN X583.here hx rfl (hb hby d4_26) rfl (l' := #[vR a0, vR b570, vI 1, vJ (own_u2 cc), .second, vI (own_g1 cc)]) rfl ?_
  refine XS.aloadN X583.here hx rfl (hb hby d4_27) rfl rfl ?_
  refine XS.iloadN X583.here hx rfl (hb hby d4_28) rfl ?_
  refine XS.lloadN X583.here hx rfl (hb hby d4_29) rfl ?_
  refine XS.lconst X583.here hx rfl (hb hby d4_30) ?_
  refine XS.lcmp X583.here hx rfl (hb hby d4_31) rfl ?_
  exact k
 have hk590 : ¬ ((own_u2 cc) = (0 : Int64)) := hz2
 have pre591 : own_P p e below T583 (mkF m 47 #[vR a0, vR b570, vI 1, vJ (own_u2 cc), .second, vI (own_g1 cc)] [(.int (((own_g1 cc) ||| (128 : Int32)).toInt8.toInt32)), (.int 1), (.ref b570)]) s₁ (entryFrame m #[(.ref a0)] 6) := by
  intro t k
  refine pre589 t ?_
  refine XS.ifYes X583.here hx rfl (pc0 := 32) (pc' := 40) rfl (hb hby d4_32) rfl ((if0 _ _).trans (feq (own_neL hk590)).2) (by decide) (by decide) ?_
  refine XS.iload X583.here hx rfl (hb hby d4_40) rfl ?_
  refine XS.sipush X583.here hx rfl (hb hby d4_42) ?_
  refine XS.ior X583.here hx rfl (hb hby d4_45) rfl ?_
  refine XS.i2b X583.here hx rfl (hb hby d4_46) rfl ?_
  exact k
 obtain ⟨cl592, Ar592, q592, S592, M592, H592, G592⟩ := id V583
 have hin592 : ¬ ((1 : Int32) < 0 ∨ cl592.slots.size ≤ ((1 : Int32)).toNatClampNeg) := inb_of S592 ⟨by decide, by decide⟩
 obtain ⟨T592, h592, X592, e592, W592, st592⟩ := stB X583 hx hZ e583 Ar592 (j := (1 : Int32)) hin592 (g := (mkF m 47 #[vR a0, vR b570, vI 1, vJ (own_u2 cc), .second, vI (own_g1 cc)] [(.int (((own_g1 cc) ||| (128 : Int32)).toInt8.toInt32)), (.int 1), (.ref b570)])) rfl rfl (hb hby d4_47)
 have Z592 : n0 ≤ h592.size := Nat.le_trans Z583 (Keep.of_wr W592).1
 have K592 : Keep h0 h592 [] := K583.wr W592 (Or.inr sz_b570)
 have N592 := Fr.snoc X592 N583 g_b570
 have Ff593 : Fld Z h592 a0 own_CK "collection" "I" (.int cc) := (Ff584).other W592 (Or.inl ne_a0_b570)
 have Ff594 : Fld Z h592 a0 own_CK "documentKey" "[B" (.ref r1) := (Ff585).other W592 (Or.inl ne_a0_b570)
 have Vf595 : Arv Z h592 r1 k_r1 .byte (0 : Int32) [] (.int 0) := (Vf586).other W592 ne_r1_b570
 have Ef596 : Exa Z h592 b570 "[B" := (Ef587).wr W592
 have V592 : Arv Z h592 b570 k570 .byte (5 : Int32) [(.int (own_m0 cc)), (.int (own_m1 cc)), (.int 0), (.int 0), (.int 0)] (.int 0) := Arv.set Ar592 q592 S592 M592 H592 G592 (fits_nar_byte _) W592 1 rfl (Nat.le_of_ble_eq_true rfl)
 have pre597 : own_P p e below T592 (mkF m 48 #[vR a0, vR b570, vI 1, vJ (own_u2 cc), .second, vI (own_g1 cc)] []) s₁ (entryFrame m #[(.ref a0)] 6) := fun t k => pre591 t (st592 t k)
 have pre598 : own_P p e below T592 (mkF m 32 #[vR a0, vR b570, vI 2, vJ (own_u3 cc), .second, vI (own_g2 cc)] [(.int (lcmpW (own_u3 cc) (0 : Int64))), (.int 2), (.ref b570)]) s₁ (entryFrame m #[(.ref a0)] 6) := by
  intro t k
  refine pre597 t ?_
  refine XS.iinc X592.here hx rfl (hb hby d4_48) rfl (l' := #[vR a0, vR b570, vI 2, vJ (own_u2 cc), .second, vI (own_g1 cc)]) rfl ?_
  refine XS.lloadN X592.here hx rfl (hb hby d4_51) rfl ?_
  refine XS.lconst X592.here hx rfl (hb hby d4_52) ?_
  refine XS.lcmp X592.here hx rfl (hb hby d4_53) rfl ?_
  refine XS.ifYes X592.here hx rfl (pc0 := 54) (pc' := 14) rfl (hb hby d4_54) rfl ((if0 _ _).trans (feq (own_neL hk590)).2) (by decide) (by decide) ?_
  refine XS.lloadN X592.here hx rfl (hb hby d4_14) rfl ?_
  refine X592.ldc2Long hx hown (mvT hZ (own_w hw 29 rfl)) (g := (mkF m 15 #[vR a0, vR b570, vI 2, vJ (own_u2 cc), .second, vI (own_g1 cc)] [(.long (own_u2 cc))])) rfl (hb hby d4_15) _ ?_
  refine XS.land X592.here hx rfl (hb hby d4_18) rfl ?_
  refine XS.l2i X592.here hx rfl (hb hby d4_19) rfl ?_
  refine XS.istore X592.here hx rfl (hb hby d4_20) rfl (l' := #[vR a0, vR b570, vI 2, vJ (own_u2 cc), .second, vI (own_g2 cc)]) rfl ?_
  refine XS.lloadN X592.here hx rfl (hb hby d4_22) rfl ?_
  refine XS.bipush X592.here hx rfl (hb hby d4_23) ?_
  refine XS.lushr X592.here hx rfl (hb hby d4_25) rfl ?_
  refine XS.lstoreN X592.here hx rfl (hb hby d4_26) rfl (l' := #[vR a0, vR b570, vI 2, vJ (own_u3 cc), .second, vI (own_g2 cc)]) rfl ?_
  refine XS.aloadN X592.here hx rfl (hb hby d4_27) rfl rfl ?_
  refine XS.iloadN X592.here hx rfl (hb hby d4_28) rfl ?_
  refine XS.lloadN X592.here hx rfl (hb hby d4_29) rfl ?_
  refine XS.lconst X592.here hx rfl (hb hby d4_30) ?_
  refine XS.lcmp X592.here hx rfl (hb hby d4_31) rfl ?_
  exact k
 have hk599 : (own_u3 cc) = (0 : Int64) := hz3
 have pre600 : own_P p e below T592 (mkF m 47 #[vR a0, vR b570, vI 2, vJ (own_u3 cc), .second, vI (own_g2 cc)] [(.int ((own_g2 cc).toInt8.toInt32)), (.int 2), (.ref b570)]) s₁ (entryFrame m #[(.ref a0)] 6) := by
  intro t k
  refine pre598 t ?_
  refine XS.ifNo X592.here hx rfl (hb hby d4_32) rfl ((if0 _ _).trans (teq (own_eqL hk599)).2) ?_
  refine XS.iload X592.here hx rfl (hb hby d4_35) rfl ?_
  refine XS.goto X592.here hx rfl (pc0 := 37) (pc' := 46) rfl (hb hby d4_37) (by decide) (by decide) ?_
  refine XS.i2b X592.here hx rfl (hb hby d4_46) rfl ?_
  exact k
 obtain ⟨cl601, Ar601, q601, S601, M601, H601, G601⟩ := id V592
 have hin601 : ¬ ((2 : Int32) < 0 ∨ cl601.slots.size ≤ ((2 : Int32)).toNatClampNeg) := inb_of S601 ⟨by decide, by decide⟩
 obtain ⟨T601, h601, X601, e601, W601, st601⟩ := stB X592 hx hZ e592 Ar601 (j := (2 : Int32)) hin601 (g := (mkF m 47 #[vR a0, vR b570, vI 2, vJ (own_u3 cc), .second, vI (own_g2 cc)] [(.int ((own_g2 cc).toInt8.toInt32)), (.int 2), (.ref b570)])) rfl rfl (hb hby d4_47)
 have Z601 : n0 ≤ h601.size := Nat.le_trans Z592 (Keep.of_wr W601).1
 have K601 : Keep h0 h601 [] := K592.wr W601 (Or.inr sz_b570)
 have N601 := Fr.snoc X601 N592 g_b570
 have Ff602 : Fld Z h601 a0 own_CK "collection" "I" (.int cc) := (Ff593).other W601 (Or.inl ne_a0_b570)
 have Ff603 : Fld Z h601 a0 own_CK "documentKey" "[B" (.ref r1) := (Ff594).other W601 (Or.inl ne_a0_b570)
 have Vf604 : Arv Z h601 r1 k_r1 .byte (0 : Int32) [] (.int 0) := (Vf595).other W601 ne_r1_b570
 have Ef605 : Exa Z h601 b570 "[B" := (Ef596).wr W601
 have V601 : Arv Z h601 b570 k570 .byte (5 : Int32) [(.int (own_m0 cc)), (.int (own_m1 cc)), (.int (own_l2 cc)), (.int 0), (.int 0)] (.int 0) := Arv.set Ar601 q601 S601 M601 H601 G601 (fits_nar_byte _) W601 2 rfl (Nat.le_of_ble_eq_true rfl)
 have pre606 : own_P p e below T601 (mkF m 48 #[vR a0, vR b570, vI 2, vJ (own_u3 cc), .second, vI (own_g2 cc)] []) s₁ (entryFrame m #[(.ref a0)] 6) := fun t k => pre600 t (st601 t k)
 have pre607 : own_P p e below T601 (mkF m 60 #[vR a0, vR b570, vI 3, vJ (own_u3 cc), .second, vI (own_g2 cc)] [(.ref a0), (.int 3), (.ref b570)]) s₁ (entryFrame m #[(.ref a0)] 6) := by
  intro t k
  refine pre606 t ?_
  refine XS.iinc X601.here hx rfl (hb hby d4_48) rfl (l' := #[vR a0, vR b570, vI 3, vJ (own_u3 cc), .second, vI (own_g2 cc)]) rfl ?_
  refine XS.lloadN X601.here hx rfl (hb hby d4_51) rfl ?_
  refine XS.lconst X601.here hx rfl (hb hby d4_52) ?_
  refine XS.lcmp X601.here hx rfl (hb hby d4_53) rfl ?_
  refine XS.ifNo X601.here hx rfl (hb hby d4_54) rfl ((if0 _ _).trans (teq (own_eqL hk599)).2) ?_
  refine XS.aloadN X601.here hx rfl (hb hby d4_57) rfl rfl ?_
  refine XS.iloadN X601.here hx rfl (hb hby d4_58) rfl ?_
  refine XS.aloadN X601.here hx rfl (hb hby d4_59) rfl rfl ?_
  exact k
 obtain ⟨T608, X608, e608, st608⟩ := getF X601 hx hZ hown (host := "") (Or.inl (own_w hw 17 rfl)) Via.refl e601 Ff603 (g := (mkF m 60 #[vR a0, vR b570, vI 3, vJ (own_u3 cc), .second, vI (own_g2 cc)] [(.ref a0), (.int 3), (.ref b570)])) rfl rfl (hb hby d4_60)
 have pre609 : own_P p e below T608 (mkF m 63 #[vR a0, vR b570, vI 3, vJ (own_u3 cc), .second, vI (own_g2 cc)] [(.ref r1), (.int 3), (.ref b570)]) s₁ (entryFrame m #[(.ref a0)] 6) := fun t k => pre607 t (st608 t k)
 obtain ⟨cl610, Ar610, q610, S610, M610, H610, G610⟩ := id Vf604
 have pre611 : own_P p e below T608 (mkF m 65 #[vR a0, vR b570, vI 3, vJ (own_u3 cc), .second, vI (own_g2 cc)] [(.int 3), (.ref b570)]) s₁ (entryFrame m #[(.ref a0)] 6) := by
  intro t k
  refine pre609 t ?_
  refine X608.arraylength hx (by rw [e608]; exact Ar610.1) (State.isArrayOf_alike hZ.alike Ar610.2.1) (g := (mkF m 63 #[vR a0, vR b570, vI 3, vJ (own_u3 cc), .second, vI (own_g2 cc)] [(.ref r1), (.int 3), (.ref b570)])) rfl rfl (hb hby d4_63) _ ?_
  rw [len_of S610 M610]
  refine XS.iadd X608.here hx rfl (hb hby d4_64) rfl ?_
  exact k
 obtain ⟨_, _, ⟨T612, L612, k612, n612⟩, -, X612, ⟨Lc612, hQ612, l612, y612, z612⟩, st612⟩ := Jvm.LawKit.callS X608 hx (y := (⟨"java/util/Arrays", "copyOf", "([BI)[B"⟩ : MethodName)) hown (mvT hZ (own_w hw 30 rfl)) (mvT hZ (own_w hw 31 rfl)) (mvT hZ (own_w hw 32 rfl)) (mvT hZ (own_w hw 33 rfl)) (by decide) (backOf (W := 0) (rm6_3 l Z ar0 hw [] b570 k570 (own_m0 cc) (own_m1 cc) (own_l2 cc) (0 : Int32) (0 : Int32) h601 n0 Z601 V601 Ef605) hZ (own_w hw 33 rfl) (own_w hw 32 rfl) (by decide) (by decide)) (g := (mkF m 65 #[vR a0, vR b570, vI 3, vJ (own_u3 cc), .second, vI (own_g2 cc)] [(.int 3), (.ref b570)])) rfl (by rw [hml]; rfl) (argsL := [(.ref b570), (.int 3)]) (rest := []) (lenOf pd_3 rfl) rfl (by show 2 * 0 + _ ≤ _; exact Nat.le_of_eq rfl) (hb hby d4_65) (fun _ _ => ⟨rfl, e608, (by decide : 1 + 1 ≤ _), (by decide : 5 + 3 ≤ _)⟩)
 dsimp only [Pt.U, Pt.locs, Pt.cells, Pt.slots] at X612 l612 y612 z612 st612 hQ612
 subst l612 y612 z612
 obtain ⟨h612, e612⟩ : ∃ h, T612.heap = h := ⟨_, rfl⟩
 rw [e612] at hQ612
 obtain ⟨b612, kb612, rfl, N612q, K612q, y_b612, Ob612_0, Ob612_1⟩ := hQ612
 have N612 := Fr.app N601 N612q
 have ne_a0_b612 : a0 ≠ b612 := Nat.ne_of_lt (Nat.lt_of_lt_of_le (Ff602).lt y_b612)
 have ne_r1_b612 : r1 ≠ b612 := Nat.ne_of_lt (Nat.lt_of_lt_of_le (Vf604).lt y_b612)
 have ne_b570_b612 : b570 ≠ b612 := Nat.ne_of_lt (Nat.lt_of_lt_of_le (Ef605).lt y_b612)
 have g_b612 : n0 ≤ b612 := Nat.le_trans Z601 y_b612
 have sz_b612 : h0.size ≤ b612 := Nat.le_trans K601.1 y_b612
 have Z612 : n0 ≤ h612.size := Nat.le_trans Z601 K612q.1
 have K612 : Keep h0 h612 [] := K601.trans K612q (fun x hx => absurd hx List.not_mem_nil)
 have Ff613 : Fld Z h612 a0 own_CK "collection" "I" (.int cc) := (Ff602).keep K612q List.not_mem_nil
 have Ff614 : Fld Z h612 a0 own_CK "documentKey" "[B" (.ref r1) := (Ff603).keep K612q List.not_mem_nil
 have Vf615 : Arv Z h612 r1 k_r1 .byte (0 : Int32) [] (.int 0) := (Vf604).keep K612q List.not_mem_nil
 have Ef616 : Exa Z h612 b570 "[B" := (Ef605).keep K612q
 have Vf617 : Arv Z h612 b570 k570 .byte (5 : Int32) [(.int (own_m0 cc)), (.int (own_m1 cc)), (.int (own_l2 cc)), (.int 0), (.int 0)] (.int 0) := (V601).keep K612q List.not_mem_nil
 have pre618 : own_P p e below T612 (mkF m 68 #[vR a0, vR b570, vI 3, vJ (own_u3 cc), .second, vI (own_g2 cc)] [(.ref b612)]) s₁ (entryFrame m #[(.ref a0)] 6) := fun t k => pre611 t (st612 t k)
 have pre619 : own_P p e below T612 (mkF m 71 #[vR a0, vR b570, vI 3, vJ (own_u3 cc), .second, vR b612] [(.ref a0)]) s₁ (entryFrame m #[(.ref a0)] 6) := by
  intro t k
  refine pre618 t ?_
  refine XS.astore X612.here hx rfl (hb hby d4_68) rfl rfl (l' := #[vR a0, vR b570, vI 3, vJ (own_u3 cc), .second, vR b612]) rfl ?_
  refine XS.aloadN X612.here hx rfl (hb hby d4_70) rfl rfl ?_
  exact k
 obtain ⟨T620, X620, e620, st620⟩ := getF X612 hx hZ hown (host := "") (Or.inl (own_w hw 17 rfl)) Via.refl e612 Ff614 (g := (mkF m 71 #[vR a0, vR b570, vI 3, vJ (own_u3 cc), .second, vR b612] [(.ref a0)])) rfl rfl (hb hby d4_71)
 have pre621 : own_P p e below T620 (mkF m 74 #[vR a0, vR b570, vI 3, vJ (own_u3 cc), .second, vR b612] [(.ref r1)]) s₁ (entryFrame m #[(.ref a0)] 6) := fun t k => pre619 t (st620 t k)
 have pre622 : own_P p e below T620 (mkF m 79 #[vR a0, vR b570, vI 3, vJ (own_u3 cc), .second, vR b612] [(.ref a0), (.int 3), (.ref b612), (.int 0), (.ref r1)]) s₁ (entryFrame m #[(.ref a0)] 6) := by
  intro t k
  refine pre621 t ?_
  refine XS.iconst X620.here hx rfl (hb hby d4_74) ?_
  refine XS.aload X620.here hx rfl (hb hby d4_75) rfl rfl ?_
  refine XS.iloadN X620.here hx rfl (hb hby d4_77) rfl ?_
  refine XS.aloadN X620.here hx rfl (hb hby d4_78) rfl rfl ?_
  exact k
 obtain ⟨T623, X623, e623, st623⟩ := getF X620 hx hZ hown (host := "") (Or.inl (own_w hw 17 rfl)) Via.refl e620 Ff614 (g := (mkF m 79 #[vR a0, vR b570, vI 3, vJ (own_u3 cc), .second, vR b612] [(.ref a0), (.int 3), (.ref b612), (.int 0), (.ref r1)])) rfl rfl (hb hby d4_79)
 have pre624 : own_P p e below T623 (mkF m 82 #[vR a0, vR b570, vI 3, vJ (own_u3 cc), .second, vR b612] [(.ref r1), (.int 3), (.ref b612), (.int 0), (.ref r1)]) s₁ (entryFrame m #[(.ref a0)] 6) := fun t k => pre622 t (st623 t k)
 obtain ⟨cl625, Ar625, q625, S625, M625, H625, G625⟩ := id Vf615
 have pre626 : own_P p e below T623 (mkF m 83 #[vR a0, vR b570, vI 3, vJ (own_u3 cc), .second, vR b612] [(.int 0), (.int 3), (.ref b612), (.int 0), (.ref r1)]) s₁ (entryFrame m #[(.ref a0)] 6) := by
  intro t k
  refine pre624 t ?_
  refine X623.arraylength hx (by rw [e623]; exact Ar625.1) (State.isArrayOf_alike hZ.alike Ar625.2.1) (g := (mkF m 82 #[vR a0, vR b570, vI 3, vJ (own_u3 cc), .second, vR b612] [(.ref r1), (.int 3), (.ref b612), (.int 0), (.ref r1)])) rfl rfl (hb hby d4_82) _ ?_
  rw [len_of S625 M625]
  exact k
 obtain ⟨T627, h627, L627, X627, e627, N627, K627q, V627q, st627⟩ := cpA X623 hx hZ hown (own_w hw 42 rfl) (own_w hw 41 rfl) (own_w hw 39 rfl) (own_w hw 40 rfl) e623 Vf615 Ob612_1 (Or.inl ⟨rfl, rfl⟩) (by decide) (by decide) (by decide) (by decide) (by decide) (us := []) rfl (Nat.le_of_ble_eq_true rfl) N612 g_b612 (g := (mkF m 83 #[vR a0, vR b570, vI 3, vJ (own_u3 cc), .second, vR b612] [(.int 0), (.int 3), (.ref b612), (.int 0), (.ref r1)])) rfl (by rw [hml]; rfl) rfl (hb hby d4_83) (by decide) (W := 0) (by show 2 * 0 + _ ≤ _; exact Nat.le_of_eq rfl) (by decide)
 have Z627 : n0 ≤ h627.size := Nat.le_trans Z612 K627q.1
 have K627 : Keep h0 h627 [] := K612.trans K627q (fun x hx => by cases List.mem_singleton.mp hx; exact Or.inr sz_b612)
 have Ff628 : Fld Z h627 a0 own_CK "collection" "I" (.int cc) := (Ff613).keep K627q (fun q => absurd (List.mem_singleton.mp q) ne_a0_b612)
 have Ff629 : Fld Z h627 a0 own_CK "documentKey" "[B" (.ref r1) := (Ff614).keep K627q (fun q => absurd (List.mem_singleton.mp q) ne_a0_b612)
 have Vf630 : Arv Z h627 r1 k_r1 .byte (0 : Int32) [] (.int 0) := (Vf615).keep K627q (fun q => absurd (List.mem_singleton.mp q) ne_r1_b612)
 have Ef631 : Exa Z h627 b570 "[B" := (Ef616).keep K627q
 have Vf632 : Arv Z h627 b570 k570 .byte (5 : Int32) [(.int (own_m0 cc)), (.int (own_m1 cc)), (.int (own_l2 cc)), (.int 0), (.int 0)] (.int 0) := (Vf617).keep K627q (fun q => absurd (List.mem_singleton.mp q) ne_b570_b612)
 have Ef633 : Exa Z h627 b612 "[B" := (Ob612_0).keep K627q
 have V627 : Arv Z h627 b612 kb612 .byte (3 : Int32) [(.int (own_m0 cc)), (.int (own_m1 cc)), (.int (own_l2 cc))] (.int 0) := V627q
 have pre634 : own_P p e below T627 (mkF m 86 #[vR a0, vR b570, vI 3, vJ (own_u3 cc), .second, vR b612] []) s₁ (entryFrame m #[(.ref a0)] 6) := fun t k => pre626 t (st627 t k)
 obtain ⟨fs, hr, hrun, hended, hW, hsame⟩ := X627.leave (v := some (.ref b612)) (fun h => by rw [Bd.returns] at h; cases h)
 refine ⟨_, _, pre634 _ ?_, hrun, hended, _, _, rfl, ?_, ⟨_, rfl⟩, hW, hsame.mono (by decide) (by decide)⟩
 ·
  refine XS.aload X627.here hx rfl (hb hby d4_86) rfl rfl ?_
  exact retOut X627 hx Bd.returns rfl (Or.inr (Or.inr (Or.inr (Or.inr ⟨rfl, rfl, rfl⟩)))) (hb hby d4_88) hr
 ·
  show Q4_3_0 Z a0 cc r1 k_r1 h0 n0 _ T627.heap _
  rw [e627]
  exact ⟨b612, kb612, rfl, N627, K627, sz_b612, Ef633, V627⟩
def Q4_3_1 (Z : State) (a0 : Addr) (cc : Int32) (r1 : Addr) (k_r1 : ClassId) (y0 : Int32) (h0 : Heap) (n0 : Nat) (v : Option Value) (h : Heap) (L : List Loc) : Prop := ∃ (b : Addr) (k_b : ClassId), v = some (.ref b) ∧ Fr n0 L ∧ Keep h0 h [] ∧ h0.size ≤ b ∧ Exa Z h b "[B" ∧ Arv Z h b k_b .byte (4 : Int32) [(.int (own_m0 cc)), (.int (own_m1 cc)), (.int (own_l2 cc)), (.int y0)] (.int 0)
set_option maxRecDepth 65536 in
set_option maxHeartbeats 40000000 in
theorem rm4_3_1 (l : Launch) (Z : State) (ar0 : Array Value) (hw : ∀ d ∈ tables_1, d.before ar0 Z = true) (ws : List Jvm.Cond) (a0 : Addr) (cc : Int32) (r1 : Addr) (k_r1 : ClassId) (y0 : Int32) (h0 : Heap) (n0 : Nat) (Z0 : n0 ≤ h0.size) (F_collection_a0 : Fld Z h0 a0 own_CK "collection" "I" (.int cc)) (F_documentKey_a0 : Fld Z h0 a0 own_CK "documentKey" "[B" (.ref r1)) (V_r1 : Arv Z h0 r1 k_r1 .byte (1 : Int32) [(.int y0)] (.int 0)) (hz1 : ¬ ((own_u1 cc) = (0 : Int64))) (hz2 : ¬ ((own_u2 cc) = (0 : Int64))) (hz3 : (own_u3 cc) = (0 : Int64)) :
  MetFree l (⟨own_CK, "write", "()[B"⟩ : MethodName) (head1 (Jvm.Cond.code (⟨own_CK, "write", "()[B"⟩ : MethodName) prog_8_method_3_code 6 (some (.array .byte)) :: ws) ({ frames := 2, cells := 2, slots := 9, locals := 32 } : Room)) (fun a U => a = #[(.ref a0)] ∧ Z.Warmed39 U.vm ∧ U.heap = h0) (fun _ _ _ _ _ => True) (fun _ U o U' => ∃ v L, o = .returned v ∧ Q4_3_1 Z a0 cc r1 k_r1 y0 h0 n0 v U'.heap L ∧ FrameEnd U o U' L ({ frames := 2, cells := 2, slots := 9, locals := 32 } : Room).cells ({ frames := 2, cells := 2, slots := 9, locals := 32 } : Room).slots) := by
 refine MetFree.of_bodySF (plainFor_of_name pn_1) hisR ?_
 intro p e s m args below meth c s₁ Bd hml0 hP hK
 obtain ⟨rfl, hZ, hh⟩ := hP
 have hx := Bd.exec
 have hby := Bd.bytes
 have hml : c.maxLocals = 6 := hml0
 have hown : s.vm.findClass own_CK = some m.cls := by have q := findClass_of_methodNamed Bd.named; exact q
 have hnm := (name_of_methodNamed Bd.named Bd.method).1
 have X0 : Stand p l e ({ frames := 2, cells := 2, slots := 9, locals := 32 } : Room) s m #[(.ref a0)] below meth c s₁ [] 0 0 := Stand.of_body Bd
 have e0 : s₁.heap = h0 := by rw [← hh, Bd.state]; rfl
 have N0 := Fr.nil n0
 have pre0 : own_P p e below s₁ (mkF m 0 #[vR a0, .unset, .unset, .unset, .unset, .unset] []) s₁ (entryFrame m #[(.ref a0)] 6) := fun t k => castTop (ef_4 m a0) k
 have pre635 : own_P p e below s₁ (mkF m 1 #[vR a0, .unset, .unset, .unset, .unset, .unset] [(.int 5)]) s₁ (entryFrame m #[(.ref a0)] 6) := by
  intro t k
  refine pre0 t ?_
  refine XS.iconst X0.here hx rfl (hb hby d4_0) ?_
  exact k
 obtain ⟨T636, h636, k636, X636, e636, E636, A636, C636, st636⟩ := newPE X0 hx hZ (own_w hw 0 rfl) e0 (g := (mkF m 1 #[vR a0, .unset, .unset, .unset, .unset, .unset] [(.int 5)])) rfl (hb hby d4_1) rfl (by decide) (cap := 5) (by decide) (by decide) (by decide) (by decide) (ad := "[B") rfl
 obtain ⟨b636, g636⟩ : ∃ z, z = h0.size := ⟨_, rfl⟩
 rw [← g636] at A636 C636 st636
 have ne_a0_b636 : a0 ≠ b636 := Nat.ne_of_lt (Nat.lt_of_lt_of_le (F_collection_a0).lt (Nat.le_of_eq g636.symm))
 have ne_r1_b636 : r1 ≠ b636 := Nat.ne_of_lt (Nat.lt_of_lt_of_le (V_r1).lt (Nat.le_of_eq g636.symm))
 have g_b636 : n0 ≤ b636 := Nat.le_trans Z0 (Nat.le_of_eq g636.symm)
 have sz_b636 : h0.size ≤ b636 := Nat.le_trans (Keep.refl h0 []).1 (Nat.le_of_eq g636.symm)
 have Z636 : n0 ≤ h636.size := Nat.le_trans Z0 E636.1
 have K636 : Keep h0 h636 [] := (Keep.refl h0 []).ext E636
 have Ff637 : Fld Z h636 a0 own_CK "collection" "I" (.int cc) := (F_collection_a0).ext E636
 have Ff638 : Fld Z h636 a0 own_CK "documentKey" "[B" (.ref r1) := (F_documentKey_a0).ext E636
 have Vf639 : Arv Z h636 r1 k_r1 .byte (1 : Int32) [(.int y0)] (.int 0) := (V_r1).ext E636
 have V_b636 : Arv Z h636 b636 k636 .byte (5 : Int32) [(.int 0), (.int 0), (.int 0), (.int 0), (.int 0)] (.int 0) := (Arv.new A636 (by decide)).pad (pad_rep [] (.int 0) 5)
 have pre640 : own_P p e below T636 (mkF m 3 #[vR a0, .unset, .unset, .unset, .unset, .unset] [(.ref b636)]) s₁ (entryFrame m #[(.ref a0)] 6) := fun t k => pre635 t (st636 t k)
 have pre641 : own_P p e below T636 (mkF m 7 #[vR a0, vR b636, vI 0, .unset, .unset, .unset] [(.ref a0)]) s₁ (entryFrame m #[(.ref a0)] 6) := by
  intro t k
  refine pre640 t ?_
  refine XS.astoreN X636.here hx rfl (hb hby d4_3) rfl rfl (l' := #[vR a0, vR b636, .unset, .unset, .unset, .unset]) rfl ?_
  refine XS.iconst X636.here hx rfl (hb hby d4_4) ?_
  refine XS.istoreN X636.here hx rfl (hb hby d4_5) rfl (l' := #[vR a0, vR b636, vI 0, .unset, .unset, .unset]) rfl ?_
  refine XS.aloadN X636.here hx rfl (hb hby d4_6) rfl rfl ?_
  exact k
 obtain ⟨T642, X642, e642, st642⟩ := getF X636 hx hZ hown (host := "") (Or.inl (own_w hw 15 rfl)) Via.refl e636 Ff637 (g := (mkF m 7 #[vR a0, vR b636, vI 0, .unset, .unset, .unset] [(.ref a0)])) rfl rfl (hb hby d4_7)
 have pre643 : own_P p e below T642 (mkF m 10 #[vR a0, vR b636, vI 0, .unset, .unset, .unset] [(.int cc)]) s₁ (entryFrame m #[(.ref a0)] 6) := fun t k => pre641 t (st642 t k)
 obtain ⟨_, _, ⟨T644, L644, k644, n644⟩, -, X644, ⟨Lc644, hQ644, l644, y644, z644⟩, st644⟩ := Jvm.LawKit.callS X642 hx (y := (⟨"java/lang/Integer", "toUnsignedLong", "(I)J"⟩ : MethodName)) hown (mvT hZ (own_w hw 24 rfl)) (mvT hZ (own_w hw 25 rfl)) (mvT hZ (own_w hw 26 rfl)) (mvT hZ (own_w hw 27 rfl)) (by decide) (backOf (W := 0) (rm5 l Z ar0 hw [] cc h636 n0 Z636) hZ (own_w hw 27 rfl) (own_w hw 26 rfl) (by decide) (by decide)) (g := (mkF m 10 #[vR a0, vR b636, vI 0, .unset, .unset, .unset] [(.int cc)])) rfl (by rw [hml]; rfl) (argsL := [(.int cc)]) (rest := []) (lenOf pd_2 rfl) rfl (by show 2 * 0 + _ ≤ _; exact Nat.le_of_eq rfl) (hb hby d4_10) (fun _ _ => ⟨rfl, e642, (by decide : 1 + 0 ≤ _), (by decide : 5 + 0 ≤ _)⟩)
 dsimp only [Pt.U, Pt.locs, Pt.cells, Pt.slots] at X644 l644 y644 z644 st644 hQ644
 subst l644 y644 z644
 obtain ⟨rfl, N644q, e644⟩ := hQ644
 have N644 := Fr.app N0 N644q
 have pre645 : own_P p e below T644 (mkF m 13 #[vR a0, vR b636, vI 0, .unset, .unset, .unset] [(.long (own_u0 cc))]) s₁ (entryFrame m #[(.ref a0)] 6) := fun t k => pre643 t (st644 t k)
 have pre646 : own_P p e below T644 (mkF m 32 #[vR a0, vR b636, vI 0, vJ (own_u1 cc), .second, vI (own_g0 cc)] [(.int (lcmpW (own_u1 cc) (0 : Int64))), (.int 0), (.ref b636)]) s₁ (entryFrame m #[(.ref a0)] 6) := by
  intro t k
  refine pre645 t ?_
  refine XS.lstoreN X644.here hx rfl (hb hby d4_13) rfl (l' := #[vR a0, vR b636, vI 0, vJ (own_u0 cc), .second, .unset]) rfl ?_
  refine XS.lloadN X644.here hx rfl (hb hby d4_14) rfl ?_
  refine X644.ldc2Long hx hown (mvT hZ (own_w hw 29 rfl)) (g := (mkF m 15 #[vR a0, vR b636, vI 0, vJ (own_u0 cc), .second, .unset] [(.long (own_u0 cc))])) rfl (hb hby d4_15) _ ?_
  refine XS.land X644.here hx rfl (hb hby d4_18) rfl ?_
  refine XS.l2i X644.here hx rfl (hb hby d4_19) rfl ?_
  refine XS.istore X644.here hx rfl (hb hby d4_20) rfl (l' := #[vR a0, vR b636, vI 0, vJ (own_u0 cc), .second, vI (own_g0 cc)]) rfl ?_
  refine XS.lloadN X644.here hx rfl (hb hby d4_22) rfl ?_
  refine XS.bipush X644.here hx rfl (hb hby d4_23) ?_
  refine XS.lushr X644.here hx rfl (hb hby d4_25) rfl ?_
  refine XS.lstoreN X644.here hx rfl (hb hby d4_26) rfl (l' := #[vR a0, vR b636, vI 0, vJ (own_u1 cc), .second, vI (own_g0 cc)]) rfl ?_
  refine XS.aloadN X644.here hx rfl (hb hby d4_27) rfl rfl ?_
  refine XS.iloadN X644.here hx rfl (hb hby d4_28) rfl ?_
  refine XS.lloadN X644.here hx rfl (hb hby d4_29) rfl ?_
  refine XS.lconst X644.here hx rfl (hb hby d4_30) ?_
  refine XS.lcmp X644.here hx rfl (hb hby d4_31) rfl ?_
  exact k
 have hk647 : ¬ ((own_u1 cc) = (0 : Int64)) := hz1
 have pre648 : own_P p e below T644 (mkF m 47 #[vR a0, vR b636, vI 0, vJ (own_u1 cc), .second, vI (own_g0 cc)] [(.int (((own_g0 cc) ||| (128 : Int32)).toInt8.toInt32)), (.int 0), (.ref b636)]) s₁ (entryFrame m #[(.ref a0)] 6) := by
  intro t k
  refine pre646 t ?_
  refine XS.ifYes X644.here hx rfl (pc0 := 32) (pc' := 40) rfl (hb hby d4_32) rfl ((if0 _ _).trans (feq (own_neL hk647)).2) (by decide) (by decide) ?_
  refine XS.iload X644.here hx rfl (hb hby d4_40) rfl ?_
  refine XS.sipush X644.here hx rfl (hb hby d4_42) ?_
  refine XS.ior X644.here hx rfl (hb hby d4_45) rfl ?_
  refine XS.i2b X644.here hx rfl (hb hby d4_46) rfl ?_
  exact k
 obtain ⟨cl649, Ar649, q649, S649, M649, H649, G649⟩ := id V_b636
 have hin649 : ¬ ((0 : Int32) < 0 ∨ cl649.slots.size ≤ ((0 : Int32)).toNatClampNeg) := inb_of S649 ⟨by decide, by decide⟩
 obtain ⟨T649, h649, X649, e649, W649, st649⟩ := stB X644 hx hZ e644 Ar649 (j := (0 : Int32)) hin649 (g := (mkF m 47 #[vR a0, vR b636, vI 0, vJ (own_u1 cc), .second, vI (own_g0 cc)] [(.int (((own_g0 cc) ||| (128 : Int32)).toInt8.toInt32)), (.int 0), (.ref b636)])) rfl rfl (hb hby d4_47)
 have Z649 : n0 ≤ h649.size := Nat.le_trans Z636 (Keep.of_wr W649).1
 have K649 : Keep h0 h649 [] := K636.wr W649 (Or.inr sz_b636)
 have N649 := Fr.snoc X649 N644 g_b636
 have Ff650 : Fld Z h649 a0 own_CK "collection" "I" (.int cc) := (Ff637).other W649 (Or.inl ne_a0_b636)
 have Ff651 : Fld Z h649 a0 own_CK "documentKey" "[B" (.ref r1) := (Ff638).other W649 (Or.inl ne_a0_b636)
 have Vf652 : Arv Z h649 r1 k_r1 .byte (1 : Int32) [(.int y0)] (.int 0) := (Vf639).other W649 ne_r1_b636
 have Ef653 : Exa Z h649 b636 "[B" := (C636).wr W649
 have V649 : Arv Z h649 b636 k636 .byte (5 : Int32) [(.int (own_m0 cc)), (.int 0), (.int 0), (.int 0), (.int 0)] (.int 0) := Arv.set Ar649 q649 S649 M649 H649 G649 (fits_nar_byte _) W649 0 rfl (Nat.le_of_ble_eq_true rfl)
 have pre654 : own_P p e below T649 (mkF m 48 #[vR a0, vR b636, vI 0, vJ (own_u1 cc), .second, vI (own_g0 cc)] []) s₁ (entryFrame m #[(.ref a0)] 6) := fun t k => pre648 t (st649 t k)
 have pre655 : own_P p e below T649 (mkF m 32 #[vR a0, vR b636, vI 1, vJ (own_u2 cc), .second, vI (own_g1 cc)] [(.int (lcmpW (own_u2 cc) (0 : Int64))), (.int 1), (.ref b636)]) s₁ (entryFrame m #[(.ref a0)] 6) := by
  intro t k
  refine pre654 t ?_
  refine XS.iinc X649.here hx rfl (hb hby d4_48) rfl (l' := #[vR a0, vR b636, vI 1, vJ (own_u1 cc), .second, vI (own_g0 cc)]) rfl ?_
  refine XS.lloadN X649.here hx rfl (hb hby d4_51) rfl ?_
  refine XS.lconst X649.here hx rfl (hb hby d4_52) ?_
  refine XS.lcmp X649.here hx rfl (hb hby d4_53) rfl ?_
  refine XS.ifYes X649.here hx rfl (pc0 := 54) (pc' := 14) rfl (hb hby d4_54) rfl ((if0 _ _).trans (feq (own_neL hk647)).2) (by decide) (by decide) ?_
  refine XS.lloadN X649.here hx rfl (hb hby d4_14) rfl ?_
  refine X649.ldc2Long hx hown (mvT hZ (own_w hw 29 rfl)) (g := (mkF m 15 #[vR a0, vR b636, vI 1, vJ (own_u1 cc), .second, vI (own_g0 cc)] [(.long (own_u1 cc))])) rfl (hb hby d4_15) _ ?_
  refine XS.land X649.here hx rfl (hb hby d4_18) rfl ?_
  refine XS.l2i X649.here hx rfl (hb hby d4_19) rfl ?_
  refine XS.istore X649.here hx rfl (hb hby d4_20) rfl (l' := #[vR a0, vR b636, vI 1, vJ (own_u1 cc), .second, vI (own_g1 cc)]) rfl ?_
  refine XS.lloadN X649.here hx rfl (hb hby d4_22) rfl ?_
  refine XS.bipush X649.here hx rfl (hb hby d4_23) ?_
  refine XS.lushr X649.here hx rfl (hb hby d4_25) rfl ?_
  refine XS.lstoreN X649.here hx rfl (hb hby d4_26) rfl (l' := #[vR a0, vR b636, vI 1, vJ (own_u2 cc), .second, vI (own_g1 cc)]) rfl ?_
  refine XS.aloadN X649.here hx rfl (hb hby d4_27) rfl rfl ?_
  refine XS.iloadN X649.here hx rfl (hb hby d4_28) rfl ?_
  refine XS.lloadN X649.here hx rfl (hb hby d4_29) rfl ?_
  refine XS.lconst X649.here hx rfl (hb hby d4_30) ?_
  refine XS.lcmp X649.here hx rfl (hb hby d4_31) rfl ?_
  exact k
 have hk656 : ¬ ((own_u2 cc) = (0 : Int64)) := hz2
 have pre657 : own_P p e below T649 (mkF m 47 #[vR a0, vR b636, vI 1, vJ (own_u2 cc), .second, vI (own_g1 cc)] [(.int (((own_g1 cc) ||| (128 : Int32)).toInt8.toInt32)), (.int 1), (.ref b636)]) s₁ (entryFrame m #[(.ref a0)] 6) := by
  intro t k
  refine pre655 t ?_
  refine XS.ifYes X649.here hx rfl (pc0 := 32) (pc' := 40) rfl (hb hby d4_32) rfl ((if0 _ _).trans (feq (own_neL hk656)).2) (by decide) (by decide) ?_
  refine XS.iload X649.here hx rfl (hb hby d4_40) rfl ?_
  refine XS.sipush X649.here hx rfl (hb hby d4_42) ?_
  refine XS.ior X649.here hx rfl (hb hby d4_45) rfl ?_
  refine XS.i2b X649.here hx rfl (hb hby d4_46) rfl ?_
  exact k
 obtain ⟨cl658, Ar658, q658, S658, M658, H658, G658⟩ := id V649
 have hin658 : ¬ ((1 : Int32) < 0 ∨ cl658.slots.size ≤ ((1 : Int32)).toNatClampNeg) := inb_of S658 ⟨by decide, by decide⟩
 obtain ⟨T658, h658, X658, e658, W658, st658⟩ := stB X649 hx hZ e649 Ar658 (j := (1 : Int32)) hin658 (g := (mkF m 47 #[vR a0, vR b636, vI 1, vJ (own_u2 cc), .second, vI (own_g1 cc)] [(.int (((own_g1 cc) ||| (128 : Int32)).toInt8.toInt32)), (.int 1), (.ref b636)])) rfl rfl (hb hby d4_47)
 have Z658 : n0 ≤ h658.size := Nat.le_trans Z649 (Keep.of_wr W658).1
 have K658 : Keep h0 h658 [] := K649.wr W658 (Or.inr sz_b636)
 have N658 := Fr.snoc X658 N649 g_b636
 have Ff659 : Fld Z h658 a0 own_CK "collection" "I" (.int cc) := (Ff650).other W658 (Or.inl ne_a0_b636)
 have Ff660 : Fld Z h658 a0 own_CK "documentKey" "[B" (.ref r1) := (Ff651).other W658 (Or.inl ne_a0_b636)
 have Vf661 : Arv Z h658 r1 k_r1 .byte (1 : Int32) [(.int y0)] (.int 0) := (Vf652).other W658 ne_r1_b636
 have Ef662 : Exa Z h658 b636 "[B" := (Ef653).wr W658
 have V658 : Arv Z h658 b636 k636 .byte (5 : Int32) [(.int (own_m0 cc)), (.int (own_m1 cc)), (.int 0), (.int 0), (.int 0)] (.int 0) := Arv.set Ar658 q658 S658 M658 H658 G658 (fits_nar_byte _) W658 1 rfl (Nat.le_of_ble_eq_true rfl)
 have pre663 : own_P p e below T658 (mkF m 48 #[vR a0, vR b636, vI 1, vJ (own_u2 cc), .second, vI (own_g1 cc)] []) s₁ (entryFrame m #[(.ref a0)] 6) := fun t k => pre657 t (st658 t k)
 have pre664 : own_P p e below T658 (mkF m 32 #[vR a0, vR b636, vI 2, vJ (own_u3 cc), .second, vI (own_g2 cc)] [(.int (lcmpW (own_u3 cc) (0 : Int64))), (.int 2), (.ref b636)]) s₁ (entryFrame m #[(.ref a0)] 6) := by
  intro t k
  refine pre663 t ?_
  refine XS.iinc X658.here hx rfl (hb hby d4_48) rfl (l' := #[vR a0, vR b636, vI 2, vJ (own_u2 cc), .second, vI (own_g1 cc)]) rfl ?_
  refine XS.lloadN X658.here hx rfl (hb hby d4_51) rfl ?_
  refine XS.lconst X658.here hx rfl (hb hby d4_52) ?_
  refine XS.lcmp X658.here hx rfl (hb hby d4_53) rfl ?_
  refine XS.ifYes X658.here hx rfl (pc0 := 54) (pc' := 14) rfl (hb hby d4_54) rfl ((if0 _ _).trans (feq (own_neL hk656)).2) (by decide) (by decide) ?_
  refine XS.lloadN X658.here hx rfl (hb hby d4_14) rfl ?_
  refine X658.ldc2Long hx hown (mvT hZ (own_w hw 29 rfl)) (g := (mkF m 15 #[vR a0, vR b636, vI 2, vJ (own_u2 cc), .second, vI (own_g1 cc)] [(.long (own_u2 cc))])) rfl (hb hby d4_15) _ ?_
  refine XS.land X658.here hx rfl (hb hby d4_18) rfl ?_
  refine XS.l2i X658.here hx rfl (hb hby d4_19) rfl ?_
  refine XS.istore X658.here hx rfl (hb hby d4_20) rfl (l' := #[vR a0, vR b636, vI 2, vJ (own_u2 cc), .second, vI (own_g2 cc)]) rfl ?_
  refine XS.lloadN X658.here hx rfl (hb hby d4_22) rfl ?_
  refine XS.bipush X658.here hx rfl (hb hby d4_23) ?_
  refine XS.lushr X658.here hx rfl (hb hby d4_25) rfl ?_
  refine XS.lstoreN X658.here hx rfl (hb hby d4_26) rfl (l' := #[vR a0, vR b636, vI 2, vJ (own_u3 cc), .second, vI (own_g2 cc)]) rfl ?_
  refine XS.aloadN X658.here hx rfl (hb hby d4_27) rfl rfl ?_
  refine XS.iloadN X658.here hx rfl (hb hby d4_28) rfl ?_
  refine XS.lloadN X658.here hx rfl (hb hby d4_29) rfl ?_
  refine XS.lconst X658.here hx rfl (hb hby d4_30) ?_
  refine XS.lcmp X658.here hx rfl (hb hby d4_31) rfl ?_
  exact k
 have hk665 : (own_u3 cc) = (0 : Int64) := hz3
 have pre666 : own_P p e below T658 (mkF m 47 #[vR a0, vR b636, vI 2, vJ (own_u3 cc), .second, vI (own_g2 cc)] [(.int ((own_g2 cc).toInt8.toInt32)), (.int 2), (.ref b636)]) s₁ (entryFrame m #[(.ref a0)] 6) := by
  intro t k
  refine pre664 t ?_
  refine XS.ifNo X658.here hx rfl (hb hby d4_32) rfl ((if0 _ _).trans (teq (own_eqL hk665)).2) ?_
  refine XS.iload X658.here hx rfl (hb hby d4_35) rfl ?_
  refine XS.goto X658.here hx rfl (pc0 := 37) (pc' := 46) rfl (hb hby d4_37) (by decide) (by decide) ?_
  refine XS.i2b X658.here hx rfl (hb hby d4_46) rfl ?_
  exact k
 obtain ⟨cl667, Ar667, q667, S667, M667, H667, G667⟩ := id V658
 have hin667 : ¬ ((2 : Int32) < 0 ∨ cl667.slots.size ≤ ((2 : Int32)).toNatClampNeg) := inb_of S667 ⟨by decide, by decide⟩
 obtain ⟨T667, h667, X667, e667, W667, st667⟩ := stB X658 hx hZ e658 Ar667 (j := (2 : Int32)) hin667 (g := (mkF m 47 #[vR a0, vR b636, vI 2, vJ (own_u3 cc), .second, vI (own_g2 cc)] [(.int ((own_g2 cc).toInt8.toInt32)), (.int 2), (.ref b636)])) rfl rfl (hb hby d4_47)
 have Z667 : n0 ≤ h667.size := Nat.le_trans Z658 (Keep.of_wr W667).1
 have K667 : Keep h0 h667 [] := K658.wr W667 (Or.inr sz_b636)
 have N667 := Fr.snoc X667 N658 g_b636
 have Ff668 : Fld Z h667 a0 own_CK "collection" "I" (.int cc) := (Ff659).other W667 (Or.inl ne_a0_b636)
 have Ff669 : Fld Z h667 a0 own_CK "documentKey" "[B" (.ref r1) := (Ff660).other W667 (Or.inl ne_a0_b636)
 have Vf670 : Arv Z h667 r1 k_r1 .byte (1 : Int32) [(.int y0)] (.int 0) := (Vf661).other W667 ne_r1_b636
 have Ef671 : Exa Z h667 b636 "[B" := (Ef662).wr W667
 have V667 : Arv Z h667 b636 k636 .byte (5 : Int32) [(.int (own_m0 cc)), (.int (own_m1 cc)), (.int (own_l2 cc)), (.int 0), (.int 0)] (.int 0) := Arv.set Ar667 q667 S667 M667 H667 G667 (fits_nar_byte _) W667 2 rfl (Nat.le_of_ble_eq_true rfl)
 have pre672 : own_P p e below T667 (mkF m 48 #[vR a0, vR b636, vI 2, vJ (own_u3 cc), .second, vI (own_g2 cc)] []) s₁ (entryFrame m #[(.ref a0)] 6) := fun t k => pre666 t (st667 t k)
 have pre673 : own_P p e below T667 (mkF m 60 #[vR a0, vR b636, vI 3, vJ (own_u3 cc), .second, vI (own_g2 cc)] [(.ref a0), (.int 3), (.ref b636)]) s₁ (entryFrame m #[(.ref a0)] 6) := by
  intro t k
  refine pre672 t ?_
  refine XS.iinc X667.here hx rfl (hb hby d4_48) rfl (l' := #[vR a0, vR b636, vI 3, vJ (own_u3 cc), .second, vI (own_g2 cc)]) rfl ?_
  refine XS.lloadN X667.here hx rfl (hb hby d4_51) rfl ?_
  refine XS.lconst X667.here hx rfl (hb hby d4_52) ?_
  refine XS.lcmp X667.here hx rfl (hb hby d4_53) rfl ?_
  refine XS.ifNo X667.here hx rfl (hb hby d4_54) rfl ((if0 _ _).trans (teq (own_eqL hk665)).2) ?_
  refine XS.aloadN X667.here hx rfl (hb hby d4_57) rfl rfl ?_
  refine XS.iloadN X667.here hx rfl (hb hby d4_58) rfl ?_
  refine XS.aloadN X667.here hx rfl (hb hby d4_59) rfl rfl ?_
  exact k
 obtain ⟨T674, X674, e674, st674⟩ := getF X667 hx hZ hown (host := "") (Or.inl (own_w hw 17 rfl)) Via.refl e667 Ff669 (g := (mkF m 60 #[vR a0, vR b636, vI 3, vJ (own_u3 cc), .second, vI (own_g2 cc)] [(.ref a0), (.int 3), (.ref b636)])) rfl rfl (hb hby d4_60)
 have pre675 : own_P p e below T674 (mkF m 63 #[vR a0, vR b636, vI 3, vJ (own_u3 cc), .second, vI (own_g2 cc)] [(.ref r1), (.int 3), (.ref b636)]) s₁ (entryFrame m #[(.ref a0)] 6) := fun t k => pre673 t (st674 t k)
 obtain ⟨cl676, Ar676, q676, S676, M676, H676, G676⟩ := id Vf670
 have pre677 : own_P p e below T674 (mkF m 65 #[vR a0, vR b636, vI 3, vJ (own_u3 cc), .second, vI (own_g2 cc)] [(.int 4), (.ref b636)]) s₁ (entryFrame m #[(.ref a0)] 6) := by
  intro t k
  refine pre675 t ?_
  refine X674.arraylength hx (by rw [e674]; exact Ar676.1) (State.isArrayOf_alike hZ.alike Ar676.2.1) (g := (mkF m 63 #[vR a0, vR b636, vI 3, vJ (own_u3 cc), .second, vI (own_g2 cc)] [(.ref r1), (.int 3), (.ref b636)])) rfl rfl (hb hby d4_63) _ ?_
  rw [len_of S676 M676]
  refine XS.iadd X674.here hx rfl (hb hby d4_64) rfl ?_
  exact k
 obtain ⟨_, _, ⟨T678, L678, k678, n678⟩, -, X678, ⟨Lc678, hQ678, l678, y678, z678⟩, st678⟩ := Jvm.LawKit.callS X674 hx (y := (⟨"java/util/Arrays", "copyOf", "([BI)[B"⟩ : MethodName)) hown (mvT hZ (own_w hw 30 rfl)) (mvT hZ (own_w hw 31 rfl)) (mvT hZ (own_w hw 32 rfl)) (mvT hZ (own_w hw 33 rfl)) (by decide) (backOf (W := 0) (rm6_4 l Z ar0 hw [] b636 k636 (own_m0 cc) (own_m1 cc) (own_l2 cc) (0 : Int32) (0 : Int32) h667 n0 Z667 V667 Ef671) hZ (own_w hw 33 rfl) (own_w hw 32 rfl) (by decide) (by decide)) (g := (mkF m 65 #[vR a0, vR b636, vI 3, vJ (own_u3 cc), .second, vI (own_g2 cc)] [(.int 4), (.ref b636)])) rfl (by rw [hml]; rfl) (argsL := [(.ref b636), (.int 4)]) (rest := []) (lenOf pd_3 rfl) rfl (by show 2 * 0 + _ ≤ _; exact Nat.le_of_eq rfl) (hb hby d4_65) (fun _ _ => ⟨rfl, e674, (by decide : 1 + 1 ≤ _), (by decide : 5 + 4 ≤ _)⟩)
 dsimp only [Pt.U, Pt.locs, Pt.cells, Pt.slots] at X678 l678 y678 z678 st678 hQ678
 subst l678 y678 z678
 obtain ⟨h678, e678⟩ : ∃ h, T678.heap = h := ⟨_, rfl⟩
 rw [e678] at hQ678
 obtain ⟨b678, kb678, rfl, N678q, K678q, y_b678, Ob678_0, Ob678_1⟩ := hQ678
 have N678 := Fr.app N667 N678q
 have ne_a0_b678 : a0 ≠ b678 := Nat.ne_of_lt (Nat.lt_of_lt_of_le (Ff668).lt y_b678)
 have ne_r1_b678 : r1 ≠ b678 := Nat.ne_of_lt (Nat.lt_of_lt_of_le (Vf670).lt y_b678)
 have ne_b636_b678 : b636 ≠ b678 := Nat.ne_of_lt (Nat.lt_of_lt_of_le (Ef671).lt y_b678)
 have g_b678 : n0 ≤ b678 := Nat.le_trans Z667 y_b678
 have sz_b678 : h0.size ≤ b678 := Nat.le_trans K667.1 y_b678
 have Z678 : n0 ≤ h678.size := Nat.le_trans Z667 K678q.1
 have K678 : Keep h0 h678 [] := K667.trans K678q (fun x hx => absurd hx List.not_mem_nil)
 have Ff679 : Fld Z h678 a0 own_CK "collection" "I" (.int cc) := (Ff668).keep K678q List.not_mem_nil
 have Ff680 : Fld Z h678 a0 own_CK "documentKey" "[B" (.ref r1) := (Ff669).keep K678q List.not_mem_nil
 have Vf681 : Arv Z h678 r1 k_r1 .byte (1 : Int32) [(.int y0)] (.int 0) := (Vf670).keep K678q List.not_mem_nil
 have Ef682 : Exa Z h678 b636 "[B" := (Ef671).keep K678q
 have Vf683 : Arv Z h678 b636 k636 .byte (5 : Int32) [(.int (own_m0 cc)), (.int (own_m1 cc)), (.int (own_l2 cc)), (.int 0), (.int 0)] (.int 0) := (V667).keep K678q List.not_mem_nil
 have pre684 : own_P p e below T678 (mkF m 68 #[vR a0, vR b636, vI 3, vJ (own_u3 cc), .second, vI (own_g2 cc)] [(.ref b678)]) s₁ (entryFrame m #[(.ref a0)] 6) := fun t k => pre677 t (st678 t k)
 have pre685 : own_P p e below T678 (mkF m 71 #[vR a0, vR b636, vI 3, vJ (own_u3 cc), .second, vR b678] [(.ref a0)]) s₁ (entryFrame m #[(.ref a0)] 6) := by
  intro t k
  refine pre684 t ?_
  refine XS.astore X678.here hx rfl (hb hby d4_68) rfl rfl (l' := #[vR a0, vR b636, vI 3, vJ (own_u3 cc), .second, vR b678]) rfl ?_
  refine XS.aloadN X678.here hx rfl (hb hby d4_70) rfl rfl ?_
  exact k
 obtain ⟨T686, X686, e686, st686⟩ := getF X678 hx hZ hown (host := "") (Or.inl (own_w hw 17 rfl)) Via.refl e678 Ff680 (g := (mkF m 71 #[vR a0, vR b636, vI 3, vJ (own_u3 cc), .second, vR b678] [(.ref a0)])) rfl rfl (hb hby d4_71)
 have pre687 : own_P p e below T686 (mkF m 74 #[vR a0, vR b636, vI 3, vJ (own_u3 cc), .second, vR b678] [(.ref r1)]) s₁ (entryFrame m #[(.ref a0)] 6) := fun t k => pre685 t (st686 t k)
 have pre688 : own_P p e below T686 (mkF m 79 #[vR a0, vR b636, vI 3, vJ (own_u3 cc), .second, vR b678] [(.ref a0), (.int 3), (.ref b678), (.int 0), (.ref r1)]) s₁ (entryFrame m #[(.ref a0)] 6) := by
  intro t k
  refine pre687 t ?_
  refine XS.iconst X686.here hx rfl (hb hby d4_74) ?_
  refine XS.aload X686.here hx rfl (hb hby d4_75) rfl rfl ?_
  refine XS.iloadN X686.here hx rfl (hb hby d4_77) rfl ?_
  refine XS.aloadN X686.here hx rfl (hb hby d4_78) rfl rfl ?_
  exact k
 obtain ⟨T689, X689, e689, st689⟩ := getF X686 hx hZ hown (host := "") (Or.inl (own_w hw 17 rfl)) Via.refl e686 Ff680 (g := (mkF m 79 #[vR a0, vR b636, vI 3, vJ (own_u3 cc), .second, vR b678] [(.ref a0), (.int 3), (.ref b678), (.int 0), (.ref r1)])) rfl rfl (hb hby d4_79)
 have pre690 : own_P p e below T689 (mkF m 82 #[vR a0, vR b636, vI 3, vJ (own_u3 cc), .second, vR b678] [(.ref r1), (.int 3), (.ref b678), (.int 0), (.ref r1)]) s₁ (entryFrame m #[(.ref a0)] 6) := fun t k => pre688 t (st689 t k)
 obtain ⟨cl691, Ar691, q691, S691, M691, H691, G691⟩ := id Vf681
 have pre692 : own_P p e below T689 (mkF m 83 #[vR a0, vR b636, vI 3, vJ (own_u3 cc), .second, vR b678] [(.int 1), (.int 3), (.ref b678), (.int 0), (.ref r1)]) s₁ (entryFrame m #[(.ref a0)] 6) := by
  intro t k
  refine pre690 t ?_
  refine X689.arraylength hx (by rw [e689]; exact Ar691.1) (State.isArrayOf_alike hZ.alike Ar691.2.1) (g := (mkF m 82 #[vR a0, vR b636, vI 3, vJ (own_u3 cc), .second, vR b678] [(.ref r1), (.int 3), (.ref b678), (.int 0), (.ref r1)])) rfl rfl (hb hby d4_82) _ ?_
  rw [len_of S691 M691]
  exact k
 obtain ⟨T693, h693, L693, X693, e693, N693, K693q, V693q, st693⟩ := cpA X689 hx hZ hown (own_w hw 42 rfl) (own_w hw 41 rfl) (own_w hw 39 rfl) (own_w hw 40 rfl) e689 Vf681 Ob678_1 (Or.inl ⟨rfl, rfl⟩) (by decide) (by decide) (by decide) (by decide) (by decide) (us := [(.int y0)]) rfl (Nat.le_of_ble_eq_true rfl) N678 g_b678 (g := (mkF m 83 #[vR a0, vR b636, vI 3, vJ (own_u3 cc), .second, vR b678] [(.int 1), (.int 3), (.ref b678), (.int 0), (.ref r1)])) rfl (by rw [hml]; rfl) rfl (hb hby d4_83) (by decide) (W := 0) (by show 2 * 0 + _ ≤ _; exact Nat.le_of_eq rfl) (by decide)
 have Z693 : n0 ≤ h693.size := Nat.le_trans Z678 K693q.1
 have K693 : Keep h0 h693 [] := K678.trans K693q (fun x hx => by cases List.mem_singleton.mp hx; exact Or.inr sz_b678)
 have Ff694 : Fld Z h693 a0 own_CK "collection" "I" (.int cc) := (Ff679).keep K693q (fun q => absurd (List.mem_singleton.mp q) ne_a0_b678)
 have Ff695 : Fld Z h693 a0 own_CK "documentKey" "[B" (.ref r1) := (Ff680).keep K693q (fun q => absurd (List.mem_singleton.mp q) ne_a0_b678)
 have Vf696 : Arv Z h693 r1 k_r1 .byte (1 : Int32) [(.int y0)] (.int 0) := (Vf681).keep K693q (fun q => absurd (List.mem_singleton.mp q) ne_r1_b678)
 have Ef697 : Exa Z h693 b636 "[B" := (Ef682).keep K693q
 have Vf698 : Arv Z h693 b636 k636 .byte (5 : Int32) [(.int (own_m0 cc)), (.int (own_m1 cc)), (.int (own_l2 cc)), (.int 0), (.int 0)] (.int 0) := (Vf683).keep K693q (fun q => absurd (List.mem_singleton.mp q) ne_b636_b678)
 have Ef699 : Exa Z h693 b678 "[B" := (Ob678_0).keep K693q
 have V693 : Arv Z h693 b678 kb678 .byte (4 : Int32) [(.int (own_m0 cc)), (.int (own_m1 cc)), (.int (own_l2 cc)), (.int y0)] (.int 0) := V693q
 have pre700 : own_P p e below T693 (mkF m 86 #[vR a0, vR b636, vI 3, vJ (own_u3 cc), .second, vR b678] []) s₁ (entryFrame m #[(.ref a0)] 6) := fun t k => pre692 t (st693 t k)
 obtain ⟨fs, hr, hrun, hended, hW, hsame⟩ := X693.leave (v := some (.ref b678)) (fun h => by rw [Bd.returns] at h; cases h)
 refine ⟨_, _, pre700 _ ?_, hrun, hended, _, _, rfl, ?_, ⟨_, rfl⟩, hW, hsame.mono (by decide) (by decide)⟩
 ·
  refine XS.aload X693.here hx rfl (hb hby d4_86) rfl rfl ?_
  exact retOut X693 hx Bd.returns rfl (Or.inr (Or.inr (Or.inr (Or.inr ⟨rfl, rfl, rfl⟩)))) (hb hby d4_88) hr
 ·
  show Q4_3_1 Z a0 cc r1 k_r1 y0 h0 n0 _ T693.heap _
  rw [e693]
  exact ⟨b678, kb678, rfl, N693, K693, sz_b678, Ef699, V693⟩
def Q4_3_2 (Z : State) (a0 : Addr) (cc : Int32) (r1 : Addr) (k_r1 : ClassId) (y0 : Int32) (y1 : Int32) (h0 : Heap) (n0 : Nat) (v : Option Value) (h : Heap) (L : List Loc) : Prop := ∃ (b : Addr) (k_b : ClassId), v = some (.ref b) ∧ Fr n0 L ∧ Keep h0 h [] ∧ h0.size ≤ b ∧ Exa Z h b "[B" ∧ Arv Z h b k_b .byte (5 : Int32) [(.int (own_m0 cc)), (.int (own_m1 cc)), (.int (own_l2 cc)), (.int y0), (.int y1)] (.int 0)
set_option maxRecDepth 65536 in
set_option maxHeartbeats 40000000 in
theorem rm4_3_2 (l : Launch) (Z : State) (ar0 : Array Value) (hw : ∀ d ∈ tables_1, d.before ar0 Z = true) (ws : List Jvm.Cond) (a0 : Addr) (cc : Int32) (r1 : Addr) (k_r1 : ClassId) (y0 : Int32) (y1 : Int32) (h0 : Heap) (n0 : Nat) (Z0 : n0 ≤ h0.size) (F_collection_a0 : Fld Z h0 a0 own_CK "collection" "I" (.int cc)) (F_documentKey_a0 : Fld Z h0 a0 own_CK "documentKey" "[B" (.ref r1)) (V_r1 : Arv Z h0 r1 k_r1 .byte (2 : Int32) [(.int y0), (.int y1)] (.int 0)) (hz1 : ¬ ((own_u1 cc) = (0 : Int64))) (hz2 : ¬ ((own_u2 cc) = (0 : Int64))) (hz3 : (own_u3 cc) = (0 : Int64)) :
  MetFree l (⟨own_CK, "write", "()[B"⟩ : MethodName) (head1 (Jvm.Cond.code (⟨own_CK, "write", "()[B"⟩ : MethodName) prog_8_method_3_code 6 (some (.array .byte)) :: ws) ({ frames := 2, cells := 2, slots := 10, locals := 28 } : Room)) (fun a U => a = #[(.ref a0)] ∧ Z.Warmed39 U.vm ∧ U.heap = h0) (fun _ _ _ _ _ => True) (fun _ U o U' => ∃ v L, o = .returned v ∧ Q4_3_2 Z a0 cc r1 k_r1 y0 y1 h0 n0 v U'.heap L ∧ FrameEnd U o U' L ({ frames := 2, cells := 2, slots := 10, locals := 28 } : Room).cells ({ frames := 2, cells := 2, slots := 10, locals := 28 } : Room).slots) := by
 refine MetFree.of_bodySF (plainFor_of_name pn_1) hisR ?_
 intro p e s m args below meth c s₁ Bd hml0 hP hK
 obtain ⟨rfl, hZ, hh⟩ := hP
 have hx := Bd.exec
 have hby := Bd.bytes
 have hml : c.maxLocals = 6 := hml0
 have hown : s.vm.findClass own_CK = some m.cls := by have q := findClass_of_methodNamed Bd.named; exact q
 have hnm := (name_of_methodNamed Bd.named Bd.method).1
 have X0 : Stand p l e ({ frames := 2, cells := 2, slots := 10, locals := 28 } : Room) s m #[(.ref a0)] below meth c s₁ [] 0 0 := Stand.of_body Bd
 have e0 : s₁.heap = h0 := by rw [← hh, Bd.state]; rfl
 have N0 := Fr.nil n0
 have pre0 : own_P p e below s₁ (mkF m 0 #[vR a0, .unset, .unset, .unset, .unset, .unset] []) s₁ (entryFrame m #[(.ref a0)] 6) := fun t k => castTop (ef_4 m a0) k
 have pre701 : own_P p e below s₁ (mkF m 1 #[vR a0, .unset, .unset, .unset, .unset, .unset] [(.int 5)]) s₁ (entryFrame m #[(.ref a0)] 6) := by
  intro t k
  refine pre0 t ?_
  refine XS.iconst X0.here hx rfl (hb hby d4_0) ?_
  exact k
 obtain ⟨T702, h702, k702, X702, e702, E702, A702, C702, st702⟩ := newPE X0 hx hZ (own_w hw 0 rfl) e0 (g := (mkF m 1 #[vR a0, .unset, .unset, .unset, .unset, .unset] [(.int 5)])) rfl (hb hby d4_1) rfl (by decide) (cap := 5) (by decide) (by decide) (by decide) (by decide) (ad := "[B") rfl
 obtain ⟨b702, g702⟩ : ∃ z, z = h0.size := ⟨_, rfl⟩
 rw [← g702] at A702 C702 st702
 have ne_a0_b702 : a0 ≠ b702 := Nat.ne_of_lt (Nat.lt_of_lt_of_le (F_collection_a0).lt (Nat.le_of_eq g702.symm))
 have ne_r1_b702 : r1 ≠ b702 := Nat.ne_of_lt (Nat.lt_of_lt_of_le (V_r1).lt (Nat.le_of_eq g702.symm))
 have g_b702 : n0 ≤ b702 := Nat.le_trans Z0 (Nat.le_of_eq g702.symm)
 have sz_b702 : h0.size ≤ b702 := Nat.le_trans (Keep.refl h0 []).1 (Nat.le_of_eq g702.symm)
 have Z702 : n0 ≤ h702.size := Nat.le_trans Z0 E702.1
 have K702 : Keep h0 h702 [] := (Keep.refl h0 []).ext E702
 have Ff703 : Fld Z h702 a0 own_CK "collection" "I" (.int cc) := (F_collection_a0).ext E702
 have Ff704 : Fld Z h702 a0 own_CK "documentKey" "[B" (.ref r1) := (F_documentKey_a0).ext E702
 have Vf705 : Arv Z h702 r1 k_r1 .byte (2 : Int32) [(.int y0), (.int y1)] (.int 0) := (V_r1).ext E702
 have V_b702 : Arv Z h702 b702 k702 .byte (5 : Int32) [(.int 0), (.int 0), (.int 0), (.int 0), (.int 0)] (.int 0) := (Arv.new A702 (by decide)).pad (pad_rep [] (.int 0) 5)
 have pre706 : own_P p e below T702 (mkF m 3 #[vR a0, .unset, .unset, .unset, .unset, .unset] [(.ref b702)]) s₁ (entryFrame m #[(.ref a0)] 6) := fun t k => pre701 t (st702 t k)
 have pre707 : own_P p e below T702 (mkF m 7 #[vR a0, vR b702, vI 0, .unset, .unset, .unset] [(.ref a0)]) s₁ (entryFrame m #[(.ref a0)] 6) := by
  intro t k
  refine pre706 t ?_
  refine XS.astoreN X702.here hx rfl (hb hby d4_3) rfl rfl (l' := #[vR a0, vR b702, .unset, .unset, .unset, .unset]) rfl ?_
  refine XS.iconst X702.here hx rfl (hb hby d4_4) ?_
  refine XS.istoreN X702.here hx rfl (hb hby d4_5) rfl (l' := #[vR a0, vR b702, vI 0, .unset, .unset, .unset]) rfl ?_
  refine XS.aloadN X702.here hx rfl (hb hby d4_6) rfl rfl ?_
  exact k
 obtain ⟨T708, X708, e708, st708⟩ := getF X702 hx hZ hown (host := "") (Or.inl (own_w hw 15 rfl)) Via.refl e702 Ff703 (g := (mkF m 7 #[vR a0, vR b702, vI 0, .unset, .unset, .unset] [(.ref a0)])) rfl rfl (hb hby d4_7)
 have pre709 : own_P p e below T708 (mkF m 10 #[vR a0, vR b702, vI 0, .unset, .unset, .unset] [(.int cc)]) s₁ (entryFrame m #[(.ref a0)] 6) := fun t k => pre707 t (st708 t k)
 obtain ⟨_, _, ⟨T710, L710, k710, n710⟩, -, X710, ⟨Lc710, hQ710, l710, y710, z710⟩, st710⟩ := Jvm.LawKit.callS X708 hx (y := (⟨"java/lang/Integer", "toUnsignedLong", "(I)J"⟩ : MethodName)) hown (mvT hZ (own_w hw 24 rfl)) (mvT hZ (own_w hw 25 rfl)) (mvT hZ (own_w hw 26 rfl)) (mvT hZ (own_w hw 27 rfl)) (by decide) (backOf (W := 0) (rm5 l Z ar0 hw [] cc h702 n0 Z702) hZ (own_w hw 27 rfl) (own_w hw 26 rfl) (by decide) (by decide)) (g := (mkF m 10 #[vR a0, vR b702, vI 0, .unset, .unset, .unset] [(.int cc)])) rfl (by rw [hml]; rfl) (argsL := [(.int cc)]) (rest := []) (lenOf pd_2 rfl) rfl (by show 2 * 0 + _ ≤ _; exact Nat.le_of_eq rfl) (hb hby d4_10) (fun _ _ => ⟨rfl, e708, (by decide : 1 + 0 ≤ _), (by decide : 5 + 0 ≤ _)⟩)
 dsimp only [Pt.U, Pt.locs, Pt.cells, Pt.slots] at X710 l710 y710 z710 st710 hQ710
 subst l710 y710 z710
 obtain ⟨rfl, N710q, e710⟩ := hQ710
 have N710 := Fr.app N0 N710q
 have pre711 : own_P p e below T710 (mkF m 13 #[vR a0, vR b702, vI 0, .unset, .unset, .unset] [(.long (own_u0 cc))]) s₁ (entryFrame m #[(.ref a0)] 6) := fun t k => pre709 t (st710 t k)
 have pre712 : own_P p e below T710 (mkF m 32 #[vR a0, vR b702, vI 0, vJ (own_u1 cc), .second, vI (own_g0 cc)] [(.int (lcmpW (own_u1 cc) (0 : Int64))), (.int 0), (.ref b702)]) s₁ (entryFrame m #[(.ref a0)] 6) := by
  intro t k
  refine pre711 t ?_
  refine XS.lstoreN X710.here hx rfl (hb hby d4_13) rfl (l' := #[vR a0, vR b702, vI 0, vJ (own_u0 cc), .second, .unset]) rfl ?_
  refine XS.lloadN X710.here hx rfl (hb hby d4_14) rfl ?_
  refine X710.ldc2Long hx hown (mvT hZ (own_w hw 29 rfl)) (g := (mkF m 15 #[vR a0, vR b702, vI 0, vJ (own_u0 cc), .second, .unset] [(.long (own_u0 cc))])) rfl (hb hby d4_15) _ ?_
  refine XS.land X710.here hx rfl (hb hby d4_18) rfl ?_
  refine XS.l2i X710.here hx rfl (hb hby d4_19) rfl ?_
  refine XS.istore X710.here hx rfl (hb hby d4_20) rfl (l' := #[vR a0, vR b702, vI 0, vJ (own_u0 cc), .second, vI (own_g0 cc)]) rfl ?_
  refine XS.lloadN X710.here hx rfl (hb hby d4_22) rfl ?_
  refine XS.bipush X710.here hx rfl (hb hby d4_23) ?_
  refine XS.lushr X710.here hx rfl (hb hby d4_25) rfl ?_
  refine XS.lstoreN X710.here hx rfl (hb hby d4_26) rfl (l' := #[vR a0, vR b702, vI 0, vJ (own_u1 cc), .second, vI (own_g0 cc)]) rfl ?_
  refine XS.aloadN X710.here hx rfl (hb hby d4_27) rfl rfl ?_
  refine XS.iloadN X710.here hx rfl (hb hby d4_28) rfl ?_
  refine XS.lloadN X710.here hx rfl (hb hby d4_29) rfl ?_
  refine XS.lconst X710.here hx rfl (hb hby d4_30) ?_
  refine XS.lcmp X710.here hx rfl (hb hby d4_31) rfl ?_
  exact k
 have hk713 : ¬ ((own_u1 cc) = (0 : Int64)) := hz1
 have pre714 : own_P p e below T710 (mkF m 47 #[vR a0, vR b702, vI 0, vJ (own_u1 cc), .second, vI (own_g0 cc)] [(.int (((own_g0 cc) ||| (128 : Int32)).toInt8.toInt32)), (.int 0), (.ref b702)]) s₁ (entryFrame m #[(.ref a0)] 6) := by
  intro t k
  refine pre712 t ?_
  refine XS.ifYes X710.here hx rfl (pc0 := 32) (pc' := 40) rfl (hb hby d4_32) rfl ((if0 _ _).trans (feq (own_neL hk713)).2) (by decide) (by decide) ?_
  refine XS.iload X710.here hx rfl (hb hby d4_40) rfl ?_
  refine XS.sipush X710.here hx rfl (hb hby d4_42) ?_
  refine XS.ior X710.here hx rfl (hb hby d4_45) rfl ?_
  refine XS.i2b X710.here hx rfl (hb hby d4_46) rfl ?_
  exact k
 obtain ⟨cl715, Ar715, q715, S715, M715, H715, G715⟩ := id V_b702
 have hin715 : ¬ ((0 : Int32) < 0 ∨ cl715.slots.size ≤ ((0 : Int32)).toNatClampNeg) := inb_of S715 ⟨by decide, by decide⟩
 obtain ⟨T715, h715, X715, e715, W715, st715⟩ := stB X710 hx hZ e710 Ar715 (j := (0 : Int32)) hin715 (g := (mkF m 47 #[vR a0, vR b702, vI 0, vJ (own_u1 cc), .second, vI (own_g0 cc)] [(.int (((own_g0 cc) ||| (128 : Int32)).toInt8.toInt32)), (.int 0), (.ref b702)])) rfl rfl (hb hby d4_47)
 have Z715 : n0 ≤ h715.size := Nat.le_trans Z702 (Keep.of_wr W715).1
 have K715 : Keep h0 h715 [] := K702.wr W715 (Or.inr sz_b702)
 have N715 := Fr.snoc X715 N710 g_b702
 have Ff716 : Fld Z h715 a0 own_CK "collection" "I" (.int cc) := (Ff703).other W715 (Or.inl ne_a0_b702)
 have Ff717 : Fld Z h715 a0 own_CK "documentKey" "[B" (.ref r1) := (Ff704).other W715 (Or.inl ne_a0_b702)
 have Vf718 : Arv Z h715 r1 k_r1 .byte (2 : Int32) [(.int y0), (.int y1)] (.int 0) := (Vf705).other W715 ne_r1_b702
 have Ef719 : Exa Z h715 b702 "[B" := (C702).wr W715
 have V715 : Arv Z h715 b702 k702 .byte (5 : Int32) [(.int (own_m0 cc)), (.int 0), (.int 0), (.int 0), (.int 0)] (.int 0) := Arv.set Ar715 q715 S715 M715 H715 G715 (fits_nar_byte _) W715 0 rfl (Nat.le_of_ble_eq_true rfl)
 have pre720 : own_P p e below T715 (mkF m 48 #[vR a0, vR b702, vI 0, vJ (own_u1 cc), .second, vI (own_g0 cc)] []) s₁ (entryFrame m #[(.ref a0)] 6) := fun t k => pre714 t (st715 t k)
 have pre721 : own_P p e below T715 (mkF m 32 #[vR a0, vR b702, vI 1, vJ (own_u2 cc), .second, vI (own_g1 cc)] [(.int (lcmpW (own_u2 cc) (0 : Int64))), (.int 1), (.ref b702)]) s₁ (entryFrame m #[(.ref a0)] 6) := by
  intro t k
  refine pre720 t ?_
  refine XS.iinc X715.here hx rfl (hb hby d4_48) rfl (l' := #[vR a0, vR b702, vI 1, vJ (own_u1 cc), .second, vI (own_g0 cc)]) rfl ?_
  refine XS.lloadN X715.here hx rfl (hb hby d4_51) rfl ?_
  refine XS.lconst X715.here hx rfl (hb hby d4_52) ?_
  refine XS.lcmp X715.here hx rfl (hb hby d4_53) rfl ?_
  refine XS.ifYes X715.here hx rfl (pc0 := 54) (pc' := 14) rfl (hb hby d4_54) rfl ((if0 _ _).trans (feq (own_neL hk713)).2) (by decide) (by decide) ?_
  refine XS.lloadN X715.here hx rfl (hb hby d4_14) rfl ?_
  refine X715.ldc2Long hx hown (mvT hZ (own_w hw 29 rfl)) (g := (mkF m 15 #[vR a0, vR b702, vI 1, vJ (own_u1 cc), .second, vI (own_g0 cc)] [(.long (own_u1 cc))])) rfl (hb hby d4_15) _ ?_
  refine XS.land X715.here hx rfl (hb hby d4_18) rfl ?_
  refine XS.l2i X715.here hx rfl (hb hby d4_19) rfl ?_
  refine XS.istore X715.here hx rfl (hb hby d4_20) rfl (l' := #[vR a0, vR b702, vI 1, vJ (own_u1 cc), .second, vI (own_g1 cc)]) rfl ?_
  refine XS.lloadN X715.here hx rfl (hb hby d4_22) rfl ?_
  refine XS.bipush X715.here hx rfl (hb hby d4_23) ?_
  refine XS.lushr X715.here hx rfl (hb hby d4_25) rfl ?_
  refine XS.lstoreN X715.here hx rfl (hb hby d4_26) rfl (l' := #[vR a0, vR b702, vI 1, vJ (own_u2 cc), .second, vI (own_g1 cc)]) rfl ?_
  refine XS.aloadN X715.here hx rfl (hb hby d4_27) rfl rfl ?_
  refine XS.iloadN X715.here hx rfl (hb hby d4_28) rfl ?_
  refine XS.lloadN X715.here hx rfl (hb hby d4_29) rfl ?_
  refine XS.lconst X715.here hx rfl (hb hby d4_30) ?_
  refine XS.lcmp X715.here hx rfl (hb hby d4_31) rfl ?_
  exact k
 have hk722 : ¬ ((own_u2 cc) = (0 : Int64)) := hz2
 have pre723 : own_P p e below T715 (mkF m 47 #[vR a0, vR b702, vI 1, vJ (own_u2 cc), .second, vI (own_g1 cc)] [(.int (((own_g1 cc) ||| (128 : Int32)).toInt8.toInt32)), (.int 1), (.ref b702)]) s₁ (entryFrame m #[(.ref a0)] 6) := by
  intro t k
  refine pre721 t ?_
  refine XS.ifYes X715.here hx rfl (pc0 := 32) (pc' := 40) rfl (hb hby d4_32) rfl ((if0 _ _).trans (feq (own_neL hk722)).2) (by decide) (by decide) ?_
  refine XS.iload X715.here hx rfl (hb hby d4_40) rfl ?_
  refine XS.sipush X715.here hx rfl (hb hby d4_42) ?_
  refine XS.ior X715.here hx rfl (hb hby d4_45) rfl ?_
  refine XS.i2b X715.here hx rfl (hb hby d4_46) rfl ?_
  exact k
 obtain ⟨cl724, Ar724, q724, S724, M724, H724, G724⟩ := id V715
 have hin724 : ¬ ((1 : Int32) < 0 ∨ cl724.slots.size ≤ ((1 : Int32)).toNatClampNeg) := inb_of S724 ⟨by decide, by decide⟩
 obtain ⟨T724, h724, X724, e724, W724, st724⟩ := stB X715 hx hZ e715 Ar724 (j := (1 : Int32)) hin724 (g := (mkF m 47 #[vR a0, vR b702, vI 1, vJ (own_u2 cc), .second, vI (own_g1 cc)] [(.int (((own_g1 cc) ||| (128 : Int32)).toInt8.toInt32)), (.int 1), (.ref b702)])) rfl rfl (hb hby d4_47)
 have Z724 : n0 ≤ h724.size := Nat.le_trans Z715 (Keep.of_wr W724).1
 have K724 : Keep h0 h724 [] := K715.wr W724 (Or.inr sz_b702)
 have N724 := Fr.snoc X724 N715 g_b702
 have Ff725 : Fld Z h724 a0 own_CK "collection" "I" (.int cc) := (Ff716).other W724 (Or.inl ne_a0_b702)
 have Ff726 : Fld Z h724 a0 own_CK "documentKey" "[B" (.ref r1) := (Ff717).other W724 (Or.inl ne_a0_b702)
 have Vf727 : Arv Z h724 r1 k_r1 .byte (2 : Int32) [(.int y0), (.int y1)] (.int 0) := (Vf718).other W724 ne_r1_b702
 have Ef728 : Exa Z h724 b702 "[B" := (Ef719).wr W724
 have V724 : Arv Z h724 b702 k702 .byte (5 : Int32) [(.int (own_m0 cc)), (.int (own_m1 cc)), (.int 0), (.int 0), (.int 0)] (.int 0) := Arv.set Ar724 q724 S724 M724 H724 G724 (fits_nar_byte _) W724 1 rfl (Nat.le_of_ble_eq_true rfl)
 have pre729 : own_P p e below T724 (mkF m 48 #[vR a0, vR b702, vI 1, vJ (own_u2 cc), .second, vI (own_g1 cc)] []) s₁ (entryFrame m #[(.ref a0)] 6) := fun t k => pre723 t (st724 t k)
 have pre730 : own_P p e below T724 (mkF m 32 #[vR a0, vR b702, vI 2, vJ (own_u3 cc), .second, vI (own_g2 cc)] [(.int (lcmpW (own_u3 cc) (0 : Int64))), (.int 2), (.ref b702)]) s₁ (entryFrame m #[(.ref a0)] 6) := by
  intro t k
  refine pre729 t ?_
  refine XS.iinc X724.here hx rfl (hb hby d4_48) rfl (l' := #[vR a0, vR b702, vI 2, vJ (own_u2 cc), .second, vI (own_g1 cc)]) rfl ?_
  refine XS.lloadN X724.here hx rfl (hb hby d4_51) rfl ?_
  refine XS.lconst X724.here hx rfl (hb hby d4_52) ?_
  refine XS.lcmp X724.here hx rfl (hb hby d4_53) rfl ?_
  refine XS.ifYes X724.here hx rfl (pc0 := 54) (pc' := 14) rfl (hb hby d4_54) rfl ((if0 _ _).trans (feq (own_neL hk722)).2) (by decide) (by decide) ?_
  refine XS.lloadN X724.here hx rfl (hb hby d4_14) rfl ?_
  refine X724.ldc2Long hx hown (mvT hZ (own_w hw 29 rfl)) (g := (mkF m 15 #[vR a0, vR b702, vI 2, vJ (own_u2 cc), .second, vI (own_g1 cc)] [(.long (own_u2 cc))])) rfl (hb hby d4_15) _ ?_
  refine XS.land X724.here hx rfl (hb hby d4_18) rfl ?_
  refine XS.l2i X724.here hx rfl (hb hby d4_19) rfl ?_
  refine XS.istore X724.here hx rfl (hb hby d4_20) rfl (l' := #[vR a0, vR b702, vI 2, vJ (own_u2 cc), .second, vI (own_g2 cc)]) rfl ?_
  refine XS.lloadN X724.here hx rfl (hb hby d4_22) rfl ?_
  refine XS.bipush X724.here hx rfl (hb hby d4_23) ?_
  refine XS.lushr X724.here hx rfl (hb hby d4_25) rfl ?_
  refine XS.lstoreN X724.here hx rfl (hb hby d4_26) rfl (l' := #[vR a0, vR b702, vI 2, vJ (own_u3 cc), .second, vI (own_g2 cc)]) rfl ?_
  refine XS.aloadN X724.here hx rfl (hb hby d4_27) rfl rfl ?_
  refine XS.iloadN X724.here hx rfl (hb hby d4_28) rfl ?_
  refine XS.lloadN X724.here hx rfl (hb hby d4_29) rfl ?_
  refine XS.lconst X724.here hx rfl (hb hby d4_30) ?_
  refine XS.lcmp X724.here hx rfl (hb hby d4_31) rfl ?_
  exact k
 have hk731 : (own_u3 cc) = (0 : Int64) := hz3
 have pre732 : own_P p e below T724 (mkF m 47 #[vR a0, vR b702, vI 2, vJ (own_u3 cc), .second, vI (own_g2 cc)] [(.int ((own_g2 cc).toInt8.toInt32)), (.int 2), (.ref b702)]) s₁ (entryFrame m #[(.ref a0)] 6) := by
  intro t k
  refine pre730 t ?_
  refine XS.ifNo X724.here hx rfl (hb hby d4_32) rfl ((if0 _ _).trans (teq (own_eqL hk731)).2) ?_
  refine XS.iload X724.here hx rfl (hb hby d4_35) rfl ?_
  refine XS.goto X724.here hx rfl (pc0 := 37) (pc' := 46) rfl (hb hby d4_37) (by decide) (by decide) ?_
  refine XS.i2b X724.here hx rfl (hb hby d4_46) rfl ?_
  exact k
 obtain ⟨cl733, Ar733, q733, S733, M733, H733, G733⟩ := id V724
 have hin733 : ¬ ((2 : Int32) < 0 ∨ cl733.slots.size ≤ ((2 : Int32)).toNatClampNeg) := inb_of S733 ⟨by decide, by decide⟩
 obtain ⟨T733, h733, X733, e733, W733, st733⟩ := stB X724 hx hZ e724 Ar733 (j := (2 : Int32)) hin733 (g := (mkF m 47 #[vR a0, vR b702, vI 2, vJ (own_u3 cc), .second, vI (own_g2 cc)] [(.int ((own_g2 cc).toInt8.toInt32)), (.int 2), (.ref b702)])) rfl rfl (hb hby d4_47)
 have Z733 : n0 ≤ h733.size := Nat.le_trans Z724 (Keep.of_wr W733).1
 have K733 : Keep h0 h733 [] := K724.wr W733 (Or.inr sz_b702)
 have N733 := Fr.snoc X733 N724 g_b702
 have Ff734 : Fld Z h733 a0 own_CK "collection" "I" (.int cc) := (Ff725).other W733 (Or.inl ne_a0_b702)
 have Ff735 : Fld Z h733 a0 own_CK "documentKey" "[B" (.ref r1) := (Ff726).other W733 (Or.inl ne_a0_b702)
 have Vf736 : Arv Z h733 r1 k_r1 .byte (2 : Int32) [(.int y0), (.int y1)] (.int 0) := (Vf727).other W733 ne_r1_b702
 have Ef737 : Exa Z h733 b702 "[B" := (Ef728).wr W733
 have V733 : Arv Z h733 b702 k702 .byte (5 : Int32) [(.int (own_m0 cc)), (.int (own_m1 cc)), (.int (own_l2 cc)), (.int 0), (.int 0)] (.int 0) := Arv.set Ar733 q733 S733 M733 H733 G733 (fits_nar_byte _) W733 2 rfl (Nat.le_of_ble_eq_true rfl)
 have pre738 : own_P p e below T733 (mkF m 48 #[vR a0, vR b702, vI 2, vJ (own_u3 cc), .second, vI (own_g2 cc)] []) s₁ (entryFrame m #[(.ref a0)] 6) := fun t k => pre732 t (st733 t k)
 have pre739 : own_P p e below T733 (mkF m 60 #[vR a0, vR b702, vI 3, vJ (own_u3 cc), .second, vI (own_g2 cc)] [(.ref a0), (.int 3), (.ref b702)]) s₁ (entryFrame m #[(.ref a0)] 6) := by
  intro t k
  refine pre738 t ?_
  refine XS.iinc X733.here hx rfl (hb hby d4_48) rfl (l' := #[vR a0, vR b702, vI 3, vJ (own_u3 cc), .second, vI (own_g2 cc)]) rfl ?_
  refine XS.lloadN X733.here hx rfl (hb hby d4_51) rfl ?_
  refine XS.lconst X733.here hx rfl (hb hby d4_52) ?_
  refine XS.lcmp X733.here hx rfl (hb hby d4_53) rfl ?_
  refine XS.ifNo X733.here hx rfl (hb hby d4_54) rfl ((if0 _ _).trans (teq (own_eqL hk731)).2) ?_
  refine XS.aloadN X733.here hx rfl (hb hby d4_57) rfl rfl ?_
  refine XS.iloadN X733.here hx rfl (hb hby d4_58) rfl ?_
  refine XS.aloadN X733.here hx rfl (hb hby d4_59) rfl rfl ?_
  exact k
 obtain ⟨T740, X740, e740, st740⟩ := getF X733 hx hZ hown (host := "") (Or.inl (own_w hw 17 rfl)) Via.refl e733 Ff735 (g := (mkF m 60 #[vR a0, vR b702, vI 3, vJ (own_u3 cc), .second, vI (own_g2 cc)] [(.ref a0), (.int 3), (.ref b702)])) rfl rfl (hb hby d4_60)
 have pre741 : own_P p e below T740 (mkF m 63 #[vR a0, vR b702, vI 3, vJ (own_u3 cc), .second, vI (own_g2 cc)] [(.ref r1), (.int 3), (.ref b702)]) s₁ (entryFrame m #[(.ref a0)] 6) := fun t k => pre739 t (st740 t k)
 obtain ⟨cl742, Ar742, q742, S742, M742, H742, G742⟩ := id Vf736
 have pre743 : own_P p e below T740 (mkF m 65 #[vR a0, vR b702, vI 3, vJ (own_u3 cc), .second, vI (own_g2 cc)] [(.int 5), (.ref b702)]) s₁ (entryFrame m #[(.ref a0)] 6) := by
  intro t k
  refine pre741 t ?_
  refine X740.arraylength hx (by rw [e740]; exact Ar742.1) (State.isArrayOf_alike hZ.alike Ar742.2.1) (g := (mkF m 63 #[vR a0, vR b702, vI 3, vJ (own_u3 cc), .second, vI (own_g2 cc)] [(.ref r1), (.int 3), (.ref b702)])) rfl rfl (hb hby d4_63) _ ?_
  rw [len_of S742 M742]
  refine XS.iadd X740.here hx rfl (hb hby d4_64) rfl ?_
  exact k
 obtain ⟨_, _, ⟨T744, L744, k744, n744⟩, -, X744, ⟨Lc744, hQ744, l744, y744, z744⟩, st744⟩ := Jvm.LawKit.callS X740 hx (y := (⟨"java/util/Arrays", "copyOf", "([BI)[B"⟩ : MethodName)) hown (mvT hZ (own_w hw 30 rfl)) (mvT hZ (own_w hw 31 rfl)) (mvT hZ (own_w hw 32 rfl)) (mvT hZ (own_w hw 33 rfl)) (by decide) (backOf (W := 0) (rm6_5 l Z ar0 hw [] b702 k702 (own_m0 cc) (own_m1 cc) (own_l2 cc) (0 : Int32) (0 : Int32) h733 n0 Z733 V733 Ef737) hZ (own_w hw 33 rfl) (own_w hw 32 rfl) (by decide) (by decide)) (g := (mkF m 65 #[vR a0, vR b702, vI 3, vJ (own_u3 cc), .second, vI (own_g2 cc)] [(.int 5), (.ref b702)])) rfl (by rw [hml]; rfl) (argsL := [(.ref b702), (.int 5)]) (rest := []) (lenOf pd_3 rfl) rfl (by show 2 * 0 + _ ≤ _; exact Nat.le_of_eq rfl) (hb hby d4_65) (fun _ _ => ⟨rfl, e740, (by decide : 1 + 1 ≤ _), (by decide : 5 + 5 ≤ _)⟩)
 dsimp only [Pt.U, Pt.locs, Pt.cells, Pt.slots] at X744 l744 y744 z744 st744 hQ744
 subst l744 y744 z744
 obtain ⟨h744, e744⟩ : ∃ h, T744.heap = h := ⟨_, rfl⟩
 rw [e744] at hQ744
 obtain ⟨b744, kb744, rfl, N744q, K744q, y_b744, Ob744_0, Ob744_1⟩ := hQ744
 have N744 := Fr.app N733 N744q
 have ne_a0_b744 : a0 ≠ b744 := Nat.ne_of_lt (Nat.lt_of_lt_of_le (Ff734).lt y_b744)
 have ne_r1_b744 : r1 ≠ b744 := Nat.ne_of_lt (Nat.lt_of_lt_of_le (Vf736).lt y_b744)
 have ne_b702_b744 : b702 ≠ b744 := Nat.ne_of_lt (Nat.lt_of_lt_of_le (Ef737).lt y_b744)
 have g_b744 : n0 ≤ b744 := Nat.le_trans Z733 y_b744
 have sz_b744 : h0.size ≤ b744 := Nat.le_trans K733.1 y_b744
 have Z744 : n0 ≤ h744.size := Nat.le_trans Z733 K744q.1
 have K744 : Keep h0 h744 [] := K733.trans K744q (fun x hx => absurd hx List.not_mem_nil)
 have Ff745 : Fld Z h744 a0 own_CK "collection" "I" (.int cc) := (Ff734).keep K744q List.not_mem_nil
 have Ff746 : Fld Z h744 a0 own_CK "documentKey" "[B" (.ref r1) := (Ff735).keep K744q List.not_mem_nil
 have Vf747 : Arv Z h744 r1 k_r1 .byte (2 : Int32) [(.int y0), (.int y1)] (.int 0) := (Vf736).keep K744q List.not_mem_nil
 have Ef748 : Exa Z h744 b702 "[B" := (Ef737).keep K744q
 have Vf749 : Arv Z h744 b702 k702 .byte (5 : Int32) [(.int (own_m0 cc)), (.int (own_m1 cc)), (.int (own_l2 cc)), (.int 0), (.int 0)] (.int 0) := (V733).keep K744q List.not_mem_nil
 have pre750 : own_P p e below T744 (mkF m 68 #[vR a0, vR b702, vI 3, vJ (own_u3 cc), .second, vI (own_g2 cc)] [(.ref b744)]) s₁ (entryFrame m #[(.ref a0)] 6) := fun t k => pre743 t (st744 t k)
 have pre751 : own_P p e below T744 (mkF m 71 #[vR a0, vR b702, vI 3, vJ (own_u3 cc), .second, vR b744] [(.ref a0)]) s₁ (entryFrame m #[(.ref a0)] 6) := by
  intro t k
  refine pre750 t ?_
  refine XS.astore X744.here hx rfl (hb hby d4_68) rfl rfl (l' := #[vR a0, vR b702, vI 3, vJ (own_u3 cc), .second, vR b744]) rfl ?_
  refine XS.aloadN X744.here hx rfl (hb hby d4_70) rfl rfl ?_
  exact k
 obtain ⟨T752, X752, e752, st752⟩ := getF X744 hx hZ hown (host := "") (Or.inl (own_w hw 17 rfl)) Via.refl e744 Ff746 (g := (mkF m 71 #[vR a0, vR b702, vI 3, vJ (own_u3 cc), .second, vR b744] [(.ref a0)])) rfl rfl (hb hby d4_71)
 have pre753 : own_P p e below T752 (mkF m 74 #[vR a0, vR b702, vI 3, vJ (own_u3 cc), .second, vR b744] [(.ref r1)]) s₁ (entryFrame m #[(.ref a0)] 6) := fun t k => pre751 t (st752 t k)
 have pre754 : own_P p e below T752 (mkF m 79 #[vR a0, vR b702, vI 3, vJ (own_u3 cc), .second, vR b744] [(.ref a0), (.int 3), (.ref b744), (.int 0), (.ref r1)]) s₁ (entryFrame m #[(.ref a0)] 6) := by
  intro t k
  refine pre753 t ?_
  refine XS.iconst X752.here hx rfl (hb hby d4_74) ?_
  refine XS.aload X752.here hx rfl (hb hby d4_75) rfl rfl ?_
  refine XS.iloadN X752.here hx rfl (hb hby d4_77) rfl ?_
  refine XS.aloadN X752.here hx rfl (hb hby d4_78) rfl rfl ?_
  exact k
 obtain ⟨T755, X755, e755, st755⟩ := getF X752 hx hZ hown (host := "") (Or.inl (own_w hw 17 rfl)) Via.refl e752 Ff746 (g := (mkF m 79 #[vR a0, vR b702, vI 3, vJ (own_u3 cc), .second, vR b744] [(.ref a0), (.int 3), (.ref b744), (.int 0), (.ref r1)])) rfl rfl (hb hby d4_79)
 have pre756 : own_P p e below T755 (mkF m 82 #[vR a0, vR b702, vI 3, vJ (own_u3 cc), .second, vR b744] [(.ref r1), (.int 3), (.ref b744), (.int 0), (.ref r1)]) s₁ (entryFrame m #[(.ref a0)] 6) := fun t k => pre754 t (st755 t k)
 obtain ⟨cl757, Ar757, q757, S757, M757, H757, G757⟩ := id Vf747
 have pre758 : own_P p e below T755 (mkF m 83 #[vR a0, vR b702, vI 3, vJ (own_u3 cc), .second, vR b744] [(.int 2), (.int 3), (.ref b744), (.int 0), (.ref r1)]) s₁ (entryFrame m #[(.ref a0)] 6) := by
  intro t k
  refine pre756 t ?_
  refine X755.arraylength hx (by rw [e755]; exact Ar757.1) (State.isArrayOf_alike hZ.alike Ar757.2.1) (g := (mkF m 82 #[vR a0, vR b702, vI 3, vJ (own_u3 cc), .second, vR b744] [(.ref r1), (.int 3), (.ref b744), (.int 0), (.ref r1)])) rfl rfl (hb hby d4_82) _ ?_
  rw [len_of S757 M757]
  exact k
 obtain ⟨T759, h759, L759, X759, e759, N759, K759q, V759q, st759⟩ := cpA X755 hx hZ hown (own_w hw 42 rfl) (own_w hw 41 rfl) (own_w hw 39 rfl) (own_w hw 40 rfl) e755 Vf747 Ob744_0 (Or.inl ⟨rfl, rfl⟩) (by decide) (by decide) (by decide) (by decide) (by decide) (us := [(.int y0), (.int y1)]) rfl (Nat.le_of_ble_eq_true rfl) N744 g_b744 (g := (mkF m 83 #[vR a0, vR b702, vI 3, vJ (own_u3 cc), .second, vR b744] [(.int 2), (.int 3), (.ref b744), (.int 0), (.ref r1)])) rfl (by rw [hml]; rfl) rfl (hb hby d4_83) (by decide) (W := 0) (by show 2 * 0 + _ ≤ _; exact Nat.le_of_eq rfl) (by decide)
 have Z759 : n0 ≤ h759.size := Nat.le_trans Z744 K759q.1
 have K759 : Keep h0 h759 [] := K744.trans K759q (fun x hx => by cases List.mem_singleton.mp hx; exact Or.inr sz_b744)
 have Ff760 : Fld Z h759 a0 own_CK "collection" "I" (.int cc) := (Ff745).keep K759q (fun q => absurd (List.mem_singleton.mp q) ne_a0_b744)
 have Ff761 : Fld Z h759 a0 own_CK "documentKey" "[B" (.ref r1) := (Ff746).keep K759q (fun q => absurd (List.mem_singleton.mp q) ne_a0_b744)
 have Vf762 : Arv Z h759 r1 k_r1 .byte (2 : Int32) [(.int y0), (.int y1)] (.int 0) := (Vf747).keep K759q (fun q => absurd (List.mem_singleton.mp q) ne_r1_b744)
 have Ef763 : Exa Z h759 b702 "[B" := (Ef748).keep K759q
 have Vf764 : Arv Z h759 b702 k702 .byte (5 : Int32) [(.int (own_m0 cc)), (.int (own_m1 cc)), (.int (own_l2 cc)), (.int 0), (.int 0)] (.int 0) := (Vf749).keep K759q (fun q => absurd (List.mem_singleton.mp q) ne_b702_b744)
 have Ef765 : Exa Z h759 b744 "[B" := (Ob744_1).keep K759q
 have V759 : Arv Z h759 b744 kb744 .byte (5 : Int32) [(.int (own_m0 cc)), (.int (own_m1 cc)), (.int (own_l2 cc)), (.int y0), (.int y1)] (.int 0) := V759q
 have pre766 : own_P p e below T759 (mkF m 86 #[vR a0, vR b702, vI 3, vJ (own_u3 cc), .second, vR b744] []) s₁ (entryFrame m #[(.ref a0)] 6) := fun t k => pre758 t (st759 t k)
 obtain ⟨fs, hr, hrun, hended, hW, hsame⟩ := X759.leave (v := some (.ref b744)) (fun h => by rw [Bd.returns] at h; cases h)
 refine ⟨_, _, pre766 _ ?_, hrun, hended, _, _, rfl, ?_, ⟨_, rfl⟩, hW, hsame.mono (by decide) (by decide)⟩
 ·
  refine XS.aload X759.here hx rfl (hb hby d4_86) rfl rfl ?_
  exact retOut X759 hx Bd.returns rfl (Or.inr (Or.inr (Or.inr (Or.inr ⟨rfl, rfl, rfl⟩)))) (hb hby d4_88) hr
 ·
  show Q4_3_2 Z a0 cc r1 k_r1 y0 y1 h0 n0 _ T759.heap _
  rw [e759]
  exact ⟨b744, kb744, rfl, N759, K759, sz_b744, Ef765, V759⟩
def Q4_3_3 (Z : State) (a0 : Addr) (cc : Int32) (r1 : Addr) (k_r1 : ClassId) (y0 : Int32) (y1 : Int32) (y2 : Int32) (h0 : Heap) (n0 : Nat) (v : Option Value) (h : Heap) (L : List Loc) : Prop := ∃ (b : Addr) (k_b : ClassId), v = some (.ref b) ∧ Fr n0 L ∧ Keep h0 h [] ∧ h0.size ≤ b ∧ Exa Z h b "[B" ∧ Arv Z h b k_b .byte (6 : Int32) [(.int (own_m0 cc)), (.int (own_m1 cc)), (.int (own_l2 cc)), (.int y0), (.int y1), (.int y2)] (.int 0)
set_option maxRecDepth 65536 in
set_option maxHeartbeats 40000000 in
theorem rm4_3_3 (l : Launch) (Z : State) (ar0 : Array Value) (hw : ∀ d ∈ tables_1, d.before ar0 Z = true) (ws : List Jvm.Cond) (a0 : Addr) (cc : Int32) (r1 : Addr) (k_r1 : ClassId) (y0 : Int32) (y1 : Int32) (y2 : Int32) (h0 : Heap) (n0 : Nat) (Z0 : n0 ≤ h0.size) (F_collection_a0 : Fld Z h0 a0 own_CK "collection" "I" (.int cc)) (F_documentKey_a0 : Fld Z h0 a0 own_CK "documentKey" "[B" (.ref r1)) (V_r1 : Arv Z h0 r1 k_r1 .byte (3 : Int32) [(.int y0), (.int y1), (.int y2)] (.int 0)) (hz1 : ¬ ((own_u1 cc) = (0 : Int64))) (hz2 : ¬ ((own_u2 cc) = (0 : Int64))) (hz3 : (own_u3 cc) = (0 : Int64)) :
  MetFree l (⟨own_CK, "write", "()[B"⟩ : MethodName) (head1 (Jvm.Cond.code (⟨own_CK, "write", "()[B"⟩ : MethodName) prog_8_method_3_code 6 (some (.array .byte)) :: ws) ({ frames := 2, cells := 2, slots := 11, locals := 32 } : Room)) (fun a U => a = #[(.ref a0)] ∧ Z.Warmed39 U.vm ∧ U.heap = h0) (fun _ _ _ _ _ => True) (fun _ U o U' => ∃ v L, o = .returned v ∧ Q4_3_3 Z a0 cc r1 k_r1 y0 y1 y2 h0 n0 v U'.heap L ∧ FrameEnd U o U' L ({ frames := 2, cells := 2, slots := 11, locals := 32 } : Room).cells ({ frames := 2, cells := 2, slots := 11, locals := 32 } : Room).slots) := by
 refine MetFree.of_bodySF (plainFor_of_name pn_1) hisR ?_
 intro p e s m args below meth c s₁ Bd hml0 hP hK
 obtain ⟨rfl, hZ, hh⟩ := hP
 have hx := Bd.exec
 have hby := Bd.bytes
 have hml : c.maxLocals = 6 := hml0
 have hown : s.vm.findClass own_CK = some m.cls := by have q := findClass_of_methodNamed Bd.named; exact q
 have hnm := (name_of_methodNamed Bd.named Bd.method).1
 have X0 : Stand p l e ({ frames := 2, cells := 2, slots := 11, locals := 32 } : Room) s m #[(.ref a0)] below meth c s₁ [] 0 0 := Stand.of_body Bd
 have e0 : s₁.heap = h0 := by rw [← hh, Bd.state]; rfl
 have N0 := Fr.nil n0
 have pre0 : own_P p e below s₁ (mkF m 0 #[vR a0, .unset, .unset, .unset, .unset, .unset] []) s₁ (entryFrame m #[(.ref a0)] 6) := fun t k => castTop (ef_4 m a0) k
 have pre767 : own_P p e below s₁ (mkF m 1 #[vR a0, .unset, .unset, .unset, .unset, .unset] [(.int 5)]) s₁ (entryFrame m #[(.ref a0)] 6) := by
  intro t k
  refine pre0 t ?_
  refine XS.iconst X0.here hx rfl (hb hby d4_0) ?_
  exact k
 obtain ⟨T768, h768, k768, X768, e768, E768, A768, C768, st768⟩ := newPE X0 hx hZ (own_w hw 0 rfl) e0 (g := (mkF m 1 #[vR a0, .unset, .unset, .unset, .unset, .unset] [(.int 5)])) rfl (hb hby d4_1) rfl (by decide) (cap := 5) (by decide) (by decide) (by decide) (by decide) (ad := "[B") rfl
 obtain ⟨b768, g768⟩ : ∃ z, z = h0.size := ⟨_, rfl⟩
 rw [← g768] at A768 C768 st768
 have ne_a0_b768 : a0 ≠ b768 := Nat.ne_of_lt (Nat.lt_of_lt_of_le (F_collection_a0).lt (Nat.le_of_eq g768.symm))
 have ne_r1_b768 : r1 ≠ b768 := Nat.ne_of_lt (Nat.lt_of_lt_of_le (V_r1).lt (Nat.le_of_eq g768.symm))
 have g_b768 : n0 ≤ b768 := Nat.le_trans Z0 (Nat.le_of_eq g768.symm)
 have sz_b768 : h0.size ≤ b768 := Nat.le_trans (Keep.refl h0 []).1 (Nat.le_of_eq g768.symm)
 have Z768 : n0 ≤ h768.size := Nat.le_trans Z0 E768.1
 have K768 : Keep h0 h768 [] := (Keep.refl h0 []).ext E768
 have Ff769 : Fld Z h768 a0 own_CK "collection" "I" (.int cc) := (F_collection_a0).ext E768
 have Ff770 : Fld Z h768 a0 own_CK "documentKey" "[B" (.ref r1) := (F_documentKey_a0).ext E768
 have Vf771 : Arv Z h768 r1 k_r1 .byte (3 : Int32) [(.int y0), (.int y1), (.int y2)] (.int 0) := (V_r1).ext E768
 have V_b768 : Arv Z h768 b768 k768 .byte (5 : Int32) [(.int 0), (.int 0), (.int 0), (.int 0), (.int 0)] (.int 0) := (Arv.new A768 (by decide)).pad (pad_rep [] (.int 0) 5)
 have pre772 : own_P p e below T768 (mkF m 3 #[vR a0, .unset, .unset, .unset, .unset, .unset] [(.ref b768)]) s₁ (entryFrame m #[(.ref a0)] 6) := fun t k => pre767 t (st768 t k)
 have pre773 : own_P p e below T768 (mkF m 7 #[vR a0, vR b768, vI 0, .unset, .unset, .unset] [(.ref a0)]) s₁ (entryFrame m #[(.ref a0)] 6) := by
  intro t k
  refine pre772 t ?_
  refine XS.astoreN X768.here hx rfl (hb hby d4_3) rfl rfl (l' := #[vR a0, vR b768, .unset, .unset, .unset, .unset]) rfl ?_
  refine XS.iconst X768.here hx rfl (hb hby d4_4) ?_
  refine XS.istoreN X768.here hx rfl (hb hby d4_5) rfl (l' := #[vR a0, vR b768, vI 0, .unset, .unset, .unset]) rfl ?_
  refine XS.aloadN X768.here hx rfl (hb hby d4_6) rfl rfl ?_
  exact k
 obtain ⟨T774, X774, e774, st774⟩ := getF X768 hx hZ hown (host := "") (Or.inl (own_w hw 15 rfl)) Via.refl e768 Ff769 (g := (mkF m 7 #[vR a0, vR b768, vI 0, .unset, .unset, .unset] [(.ref a0)])) rfl rfl (hb hby d4_7)
 have pre775 : own_P p e below T774 (mkF m 10 #[vR a0, vR b768, vI 0, .unset, .unset, .unset] [(.int cc)]) s₁ (entryFrame m #[(.ref a0)] 6) := fun t k => pre773 t (st774 t k)
 obtain ⟨_, _, ⟨T776, L776, k776, n776⟩, -, X776, ⟨Lc776, hQ776, l776, y776, z776⟩, st776⟩ := Jvm.LawKit.callS X774 hx (y := (⟨"java/lang/Integer", "toUnsignedLong", "(I)J"⟩ : MethodName)) hown (mvT hZ (own_w hw 24 rfl)) (mvT hZ (own_w hw 25 rfl)) (mvT hZ (own_w hw 26 rfl)) (mvT hZ (own_w hw 27 rfl)) (by decide) (backOf (W := 0) (rm5 l Z ar0 hw [] cc h768 n0 Z768) hZ (own_w hw 27 rfl) (own_w hw 26 rfl) (by decide) (by decide)) (g := (mkF m 10 #[vR a0, vR b768, vI 0, .unset, .unset, .unset] [(.int cc)])) rfl (by rw [hml]; rfl) (argsL := [(.int cc)]) (rest := []) (lenOf pd_2 rfl) rfl (by show 2 * 0 + _ ≤ _; exact Nat.le_of_eq rfl) (hb hby d4_10) (fun _ _ => ⟨rfl, e774, (by decide : 1 + 0 ≤ _), (by decide : 5 + 0 ≤ _)⟩)
 dsimp only [Pt.U, Pt.locs, Pt.cells, Pt.slots] at X776 l776 y776 z776 st776 hQ776
 subst l776 y776 z776
 obtain ⟨rfl, N776q, e776⟩ := hQ776
 have N776 := Fr.app N0 N776q
 have pre777 : own_P p e below T776 (mkF m 13 #[vR a0, vR b768, vI 0, .unset, .unset, .unset] [(.long (own_u0 cc))]) s₁ (entryFrame m #[(.ref a0)] 6) := fun t k => pre775 t (st776 t k)
 have pre778 : own_P p e below T776 (mkF m 32 #[vR a0, vR b768, vI 0, vJ (own_u1 cc), .second, vI (own_g0 cc)] [(.int (lcmpW (own_u1 cc) (0 : Int64))), (.int 0), (.ref b768)]) s₁ (entryFrame m #[(.ref a0)] 6) := by
  intro t k
  refine pre777 t ?_
  refine XS.lstoreN X776.here hx rfl (hb hby d4_13) rfl (l' := #[vR a0, vR b768, vI 0, vJ (own_u0 cc), .second, .unset]) rfl ?_
  refine XS.lloadN X776.here hx rfl (hb hby d4_14) rfl ?_
  refine X776.ldc2Long hx hown (mvT hZ (own_w hw 29 rfl)) (g := (mkF m 15 #[vR a0, vR b768, vI 0, vJ (own_u0 cc), .second, .unset] [(.long (own_u0 cc))])) rfl (hb hby d4_15) _ ?_
  refine XS.land X776.here hx rfl (hb hby d4_18) rfl ?_
  refine XS.l2i X776.here hx rfl (hb hby d4_19) rfl ?_
  refine XS.istore X776.here hx rfl (hb hby d4_20) rfl (l' := #[vR a0, vR b768, vI 0, vJ (own_u0 cc), .second, vI (own_g0 cc)]) rfl ?_
  refine XS.lloadN X776.here hx rfl (hb hby d4_22) rfl ?_
  refine XS.bipush X776.here hx rfl (hb hby d4_23) ?_
  refine XS.lushr X776.here hx rfl (hb hby d4_25) rfl ?_
  refine XS.lstoreN X776.here hx rfl (hb hby d4_26) rfl (l' := #[vR a0, vR b768, vI 0, vJ (own_u1 cc), .second, vI (own_g0 cc)]) rfl ?_
  refine XS.aloadN X776.here hx rfl (hb hby d4_27) rfl rfl ?_
  refine XS.iloadN X776.here hx rfl (hb hby d4_28) rfl ?_
  refine XS.lloadN X776.here hx rfl (hb hby d4_29) rfl ?_
  refine XS.lconst X776.here hx rfl (hb hby d4_30) ?_
  refine XS.lcmp X776.here hx rfl (hb hby d4_31) rfl ?_
  exact k
 have hk779 : ¬ ((own_u1 cc) = (0 : Int64)) := hz1
 have pre780 : own_P p e below T776 (mkF m 47 #[vR a0, vR b768, vI 0, vJ (own_u1 cc), .second, vI (own_g0 cc)] [(.int (((own_g0 cc) ||| (128 : Int32)).toInt8.toInt32)), (.int 0), (.ref b768)]) s₁ (entryFrame m #[(.ref a0)] 6) := by
  intro t k
  refine pre778 t ?_
  refine XS.ifYes X776.here hx rfl (pc0 := 32) (pc' := 40) rfl (hb hby d4_32) rfl ((if0 _ _).trans (feq (own_neL hk779)).2) (by decide) (by decide) ?_
  refine XS.iload X776.here hx rfl (hb hby d4_40) rfl ?_
  refine XS.sipush X776.here hx rfl (hb hby d4_42) ?_
  refine XS.ior X776.here hx rfl (hb hby d4_45) rfl ?_
  refine XS.i2b X776.here hx rfl (hb hby d4_46) rfl ?_
  exact k
 obtain ⟨cl781, Ar781, q781, S781, M781, H781, G781⟩ := id V_b768
 have hin781 : ¬ ((0 : Int32) < 0 ∨ cl781.slots.size ≤ ((0 : Int32)).toNatClampNeg) := inb_of S781 ⟨by decide, by decide⟩
 obtain ⟨T781, h781, X781, e781, W781, st781⟩ := stB X776 hx hZ e776 Ar781 (j := (0 : Int32)) hin781 (g := (mkF m 47 #[vR a0, vR b768, vI 0, vJ (own_u1 cc), .second, vI (own_g0 cc)] [(.int (((own_g0 cc) ||| (128 : Int32)).toInt8.toInt32)), (.int 0), (.ref b768)])) rfl rfl (hb hby d4_47)
 have Z781 : n0 ≤ h781.size := Nat.le_trans Z768 (Keep.of_wr W781).1
 have K781 : Keep h0 h781 [] := K768.wr W781 (Or.inr sz_b768)
 have N781 := Fr.snoc X781 N776 g_b768
 have Ff782 : Fld Z h781 a0 own_CK "collection" "I" (.int cc) := (Ff769).other W781 (Or.inl ne_a0_b768)
 have Ff783 : Fld Z h781 a0 own_CK "documentKey" "[B" (.ref r1) := (Ff770).other W781 (Or.inl ne_a0_b768)
 have Vf784 : Arv Z h781 r1 k_r1 .byte (3 : Int32) [(.int y0), (.int y1), (.int y2)] (.int 0) := (Vf771).other W781 ne_r1_b768
 have Ef785 : Exa Z h781 b768 "[B" := (C768).wr W781
 have V781 : Arv Z h781 b768 k768 .byte (5 : Int32) [(.int (own_m0 cc)), (.int 0), (.int 0), (.int 0), (.int 0)] (.int 0) := Arv.set Ar781 q781 S781 M781 H781 G781 (fits_nar_byte _) W781 0 rfl (Nat.le_of_ble_eq_true rfl)
 have pre786 : own_P p e below T781 (mkF m 48 #[vR a0, vR b768, vI 0, vJ (own_u1 cc), .second, vI (own_g0 cc)] []) s₁ (entryFrame m #[(.ref a0)] 6) := fun t k => pre780 t (st781 t k)
 have pre787 : own_P p e below T781 (mkF m 32 #[vR a0, vR b768, vI 1, vJ (own_u2 cc), .second, vI (own_g1 cc)] [(.int (lcmpW (own_u2 cc) (0 : Int64))), (.int 1), (.ref b768)]) s₁ (entryFrame m #[(.ref a0)] 6) := by
  intro t k
  refine pre786 t ?_
  refine XS.iinc X781.here hx rfl (hb hby d4_48) rfl (l' := #[vR a0, vR b768, vI 1, vJ (own_u1 cc), .second, vI (own_g0 cc)]) rfl ?_
  refine XS.lloadN X781.here hx rfl (hb hby d4_51) rfl ?_
  refine XS.lconst X781.here hx rfl (hb hby d4_52) ?_
  refine XS.lcmp X781.here hx rfl (hb hby d4_53) rfl ?_
  refine XS.ifYes X781.here hx rfl (pc0 := 54) (pc' := 14) rfl (hb hby d4_54) rfl ((if0 _ _).trans (feq (own_neL hk779)).2) (by decide) (by decide) ?_
  refine XS.lloadN X781.here hx rfl (hb hby d4_14) rfl ?_
  refine X781.ldc2Long hx hown (mvT hZ (own_w hw 29 rfl)) (g := (mkF m 15 #[vR a0, vR b768, vI 1, vJ (own_u1 cc), .second, vI (own_g0 cc)] [(.long (own_u1 cc))])) rfl (hb hby d4_15) _ ?_
  refine XS.land X781.here hx rfl (hb hby d4_18) rfl ?_
  refine XS.l2i X781.here hx rfl (hb hby d4_19) rfl ?_
  refine XS.istore X781.here hx rfl (hb hby d4_20) rfl (l' := #[vR a0, vR b768, vI 1, vJ (own_u1 cc), .second, vI (own_g1 cc)]) rfl ?_
  refine XS.lloadN X781.here hx rfl (hb hby d4_22) rfl ?_
  refine XS.bipush X781.here hx rfl (hb hby d4_23) ?_
  refine XS.lushr X781.here hx rfl (hb hby d4_25) rfl ?_
  refine XS.lstoreN X781.here hx rfl (hb hby d4_26) rfl (l' := #[vR a0, vR b768, vI 1, vJ (own_u2 cc), .second, vI (own_g1 cc)]) rfl ?_
  refine XS.aloadN X781.here hx rfl (hb hby d4_27) rfl rfl ?_
  refine XS.iloadN X781.here hx rfl (hb hby d4_28) rfl ?_
  refine XS.lloadN X781.here hx rfl (hb hby d4_29) rfl ?_
  refine XS.lconst X781.here hx rfl (hb hby d4_30) ?_
  refine XS.lcmp X781.here hx rfl (hb hby d4_31) rfl ?_
  exact k
 have hk788 : ¬ ((own_u2 cc) = (0 : Int64)) := hz2
 have pre789 : own_P p e below T781 (mkF m 47 #[vR a0, vR b768, vI 1, vJ (own_u2 cc), .second, vI (own_g1 cc)] [(.int (((own_g1 cc) ||| (128 : Int32)).toInt8.toInt32)), (.int 1), (.ref b768)]) s₁ (entryFrame m #[(.ref a0)] 6) := by
  intro t k
  refine pre787 t ?_
  refine XS.ifYes X781.here hx rfl (pc0 := 32) (pc' := 40) rfl (hb hby d4_32) rfl ((if0 _ _).trans (feq (own_neL hk788)).2) (by decide) (by decide) ?_
  refine XS.iload X781.here hx rfl (hb hby d4_40) rfl ?_
  refine XS.sipush X781.here hx rfl (hb hby d4_42) ?_
  refine XS.ior X781.here hx rfl (hb hby d4_45) rfl ?_
  refine XS.i2b X781.here hx rfl (hb hby d4_46) rfl ?_
  exact k
 obtain ⟨cl790, Ar790, q790, S790, M790, H790, G790⟩ := id V781
 have hin790 : ¬ ((1 : Int32) < 0 ∨ cl790.slots.size ≤ ((1 : Int32)).toNatClampNeg) := inb_of S790 ⟨by decide, by decide⟩
 obtain ⟨T790, h790, X790, e790, W790, st790⟩ := stB X781 hx hZ e781 Ar790 (j := (1 : Int32)) hin790 (g := (mkF m 47 #[vR a0, vR b768, vI 1, vJ (own_u2 cc), .second, vI (own_g1 cc)] [(.int (((own_g1 cc) ||| (128 : Int32)).toInt8.toInt32)), (.int 1), (.ref b768)])) rfl rfl (hb hby d4_47)
 have Z790 : n0 ≤ h790.size := Nat.le_trans Z781 (Keep.of_wr W790).1
 have K790 : Keep h0 h790 [] := K781.wr W790 (Or.inr sz_b768)
 have N790 := Fr.snoc X790 N781 g_b768
 have Ff791 : Fld Z h790 a0 own_CK "collection" "I" (.int cc) := (Ff782).other W790 (Or.inl ne_a0_b768)
 have Ff792 : Fld Z h790 a0 own_CK "documentKey" "[B" (.ref r1) := (Ff783).other W790 (Or.inl ne_a0_b768)
 have Vf793 : Arv Z h790 r1 k_r1 .byte (3 : Int32) [(.int y0), (.int y1), (.int y2)] (.int 0) := (Vf784).other W790 ne_r1_b768
 have Ef794 : Exa Z h790 b768 "[B" := (Ef785).wr W790
 have V790 : Arv Z h790 b768 k768 .byte (5 : Int32) [(.int (own_m0 cc)), (.int (own_m1 cc)), (.int 0), (.int 0), (.int 0)] (.int 0) := Arv.set Ar790 q790 S790 M790 H790 G790 (fits_nar_byte _) W790 1 rfl (Nat.le_of_ble_eq_true rfl)
 have pre795 : own_P p e below T790 (mkF m 48 #[vR a0, vR b768, vI 1, vJ (own_u2 cc), .second, vI (own_g1 cc)] []) s₁ (entryFrame m #[(.ref a0)] 6) := fun t k => pre789 t (st790 t k)
 have pre796 : own_P p e below T790 (mkF m 32 #[vR a0, vR b768, vI 2, vJ (own_u3 cc), .second, vI (own_g2 cc)] [(.int (lcmpW (own_u3 cc) (0 : Int64))), (.int 2), (.ref b768)]) s₁ (entryFrame m #[(.ref a0)] 6) := by
  intro t k
  refine pre795 t ?_
  refine XS.iinc X790.here hx rfl (hb hby d4_48) rfl (l' := #[vR a0, vR b768, vI 2, vJ (own_u2 cc), .second, vI (own_g1 cc)]) rfl ?_
  refine XS.lloadN X790.here hx rfl (hb hby d4_51) rfl ?_
  refine XS.lconst X790.here hx rfl (hb hby d4_52) ?_
  refine XS.lcmp X790.here hx rfl (hb hby d4_53) rfl ?_
  refine XS.ifYes X790.here hx rfl (pc0 := 54) (pc' := 14) rfl (hb hby d4_54) rfl ((if0 _ _).trans (feq (own_neL hk788)).2) (by decide) (by decide) ?_
  refine XS.lloadN X790.here hx rfl (hb hby d4_14) rfl ?_
  refine X790.ldc2Long hx hown (mvT hZ (own_w hw 29 rfl)) (g := (mkF m 15 #[vR a0, vR b768, vI 2, vJ (own_u2 cc), .second, vI (own_g1 cc)] [(.long (own_u2 cc))])) rfl (hb hby d4_15) _ ?_
  refine XS.land X790.here hx rfl (hb hby d4_18) rfl ?_
  refine XS.l2i X790.here hx rfl (hb hby d4_19) rfl ?_
  refine XS.istore X790.here hx rfl (hb hby d4_20) rfl (l' := #[vR a0, vR b768, vI 2, vJ (own_u2 cc), .second, vI (own_g2 cc)]) rfl ?_
  refine XS.lloadN X790.here hx rfl (hb hby d4_22) rfl ?_
  refine XS.bipush X790.here hx rfl (hb hby d4_23) ?_
  refine XS.lushr X790.here hx rfl (hb hby d4_25) rfl ?_
  refine XS.lstoreN X790.here hx rfl (hb hby d4_26) rfl (l' := #[vR a0, vR b768, vI 2, vJ (own_u3 cc), .second, vI (own_g2 cc)]) rfl ?_
  refine XS.aloadN X790.here hx rfl (hb hby d4_27) rfl rfl ?_
  refine XS.iloadN X790.here hx rfl (hb hby d4_28) rfl ?_
  refine XS.lloadN X790.here hx rfl (hb hby d4_29) rfl ?_
  refine XS.lconst X790.here hx rfl (hb hby d4_30) ?_
  refine XS.lcmp X790.here hx rfl (hb hby d4_31) rfl ?_
  exact k
 have hk797 : (own_u3 cc) = (0 : Int64) := hz3
 have pre798 : own_P p e below T790 (mkF m 47 #[vR a0, vR b768, vI 2, vJ (own_u3 cc), .second, vI (own_g2 cc)] [(.int ((own_g2 cc).toInt8.toInt32)), (.int 2), (.ref b768)]) s₁ (entryFrame m #[(.ref a0)] 6) := by
  intro t k
  refine pre796 t ?_
  refine XS.ifNo X790.here hx rfl (hb hby d4_32) rfl ((if0 _ _).trans (teq (own_eqL hk797)).2) ?_
  refine XS.iload X790.here hx rfl (hb hby d4_35) rfl ?_
  refine XS.goto X790.here hx rfl (pc0 := 37) (pc' := 46) rfl (hb hby d4_37) (by decide) (by decide) ?_
  refine XS.i2b X790.here hx rfl (hb hby d4_46) rfl ?_
  exact k
 obtain ⟨cl799, Ar799, q799, S799, M799, H799, G799⟩ := id V790
 have hin799 : ¬ ((2 : Int32) < 0 ∨ cl799.slots.size ≤ ((2 : Int32)).toNatClampNeg) := inb_of S799 ⟨by decide, by decide⟩
 obtain ⟨T799, h799, X799, e799, W799, st799⟩ := stB X790 hx hZ e790 Ar799 (j := (2 : Int32)) hin799 (g := (mkF m 47 #[vR a0, vR b768, vI 2, vJ (own_u3 cc), .second, vI (own_g2 cc)] [(.int ((own_g2 cc).toInt8.toInt32)), (.int 2), (.ref b768)])) rfl rfl (hb hby d4_47)
 have Z799 : n0 ≤ h799.size := Nat.le_trans Z790 (Keep.of_wr W799).1
 have K799 : Keep h0 h799 [] := K790.wr W799 (Or.inr sz_b768)
 have N799 := Fr.snoc X799 N790 g_b768
 have Ff800 : Fld Z h799 a0 own_CK "collection" "I" (.int cc) := (Ff791).other W799 (Or.inl ne_a0_b768)
 have Ff801 : Fld Z h799 a0 own_CK "documentKey" "[B" (.ref r1) := (Ff792).other W799 (Or.inl ne_a0_b768)
 have Vf802 : Arv Z h799 r1 k_r1 .byte (3 : Int32) [(.int y0), (.int y1), (.int y2)] (.int 0) := (Vf793).other W799 ne_r1_b768
 have Ef803 : Exa Z h799 b768 "[B" := (Ef794).wr W799
 have V799 : Arv Z h799 b768 k768 .byte (5 : Int32) [(.int (own_m0 cc)), (.int (own_m1 cc)), (.int (own_l2 cc)), (.int 0), (.int 0)] (.int 0) := Arv.set Ar799 q799 S799 M799 H799 G799 (fits_nar_byte _) W799 2 rfl (Nat.le_of_ble_eq_true rfl)
 have pre804 : own_P p e below T799 (mkF m 48 #[vR a0, vR b768, vI 2, vJ (own_u3 cc), .second, vI (own_g2 cc)] []) s₁ (entryFrame m #[(.ref a0)] 6) := fun t k => pre798 t (st799 t k)
 have pre805 : own_P p e below T799 (mkF m 60 #[vR a0, vR b768, vI 3, vJ (own_u3 cc), .second, vI (own_g2 cc)] [(.ref a0), (.int 3), (.ref b768)]) s₁ (entryFrame m #[(.ref a0)] 6) := by
  intro t k
  refine pre804 t ?_
  refine XS.iinc X799.here hx rfl (hb hby d4_48) rfl (l' := #[vR a0, vR b768, vI 3, vJ (own_u3 cc), .second, vI (own_g2 cc)]) rfl ?_
  refine XS.lloadN X799.here hx rfl (hb hby d4_51) rfl ?_
  refine XS.lconst X799.here hx rfl (hb hby d4_52) ?_
  refine XS.lcmp X799.here hx rfl (hb hby d4_53) rfl ?_
  refine XS.ifNo X799.here hx rfl (hb hby d4_54) rfl ((if0 _ _).trans (teq (own_eqL hk797)).2) ?_
  refine XS.aloadN X799.here hx rfl (hb hby d4_57) rfl rfl ?_
  refine XS.iloadN X799.here hx rfl (hb hby d4_58) rfl ?_
  refine XS.aloadN X799.here hx rfl (hb hby d4_59) rfl rfl ?_
  exact k
 obtain ⟨T806, X806, e806, st806⟩ := getF X799 hx hZ hown (host := "") (Or.inl (own_w hw 17 rfl)) Via.refl e799 Ff801 (g := (mkF m 60 #[vR a0, vR b768, vI 3, vJ (own_u3 cc), .second, vI (own_g2 cc)] [(.ref a0), (.int 3), (.ref b768)])) rfl rfl (hb hby d4_60)
 have pre807 : own_P p e below T806 (mkF m 63 #[vR a0, vR b768, vI 3, vJ (own_u3 cc), .second, vI (own_g2 cc)] [(.ref r1), (.int 3), (.ref b768)]) s₁ (entryFrame m #[(.ref a0)] 6) := fun t k => pre805 t (st806 t k)
 obtain ⟨cl808, Ar808, q808, S808, M808, H808, G808⟩ := id Vf802
 have pre809 : own_P p e below T806 (mkF m 65 #[vR a0, vR b768, vI 3, vJ (own_u3 cc), .second, vI (own_g2 cc)] [(.int 6), (.ref b768)]) s₁ (entryFrame m #[(.ref a0)] 6) := by
  intro t k
  refine pre807 t ?_
  refine X806.arraylength hx (by rw [e806]; exact Ar808.1) (State.isArrayOf_alike hZ.alike Ar808.2.1) (g := (mkF m 63 #[vR a0, vR b768, vI 3, vJ (own_u3 cc), .second, vI (own_g2 cc)] [(.ref r1), (.int 3), (.ref b768)])) rfl rfl (hb hby d4_63) _ ?_
  rw [len_of S808 M808]
  refine XS.iadd X806.here hx rfl (hb hby d4_64) rfl ?_
  exact k
 obtain ⟨_, _, ⟨T810, L810, k810, n810⟩, -, X810, ⟨Lc810, hQ810, l810, y810, z810⟩, st810⟩ := Jvm.LawKit.callS X806 hx (y := (⟨"java/util/Arrays", "copyOf", "([BI)[B"⟩ : MethodName)) hown (mvT hZ (own_w hw 30 rfl)) (mvT hZ (own_w hw 31 rfl)) (mvT hZ (own_w hw 32 rfl)) (mvT hZ (own_w hw 33 rfl)) (by decide) (backOf (W := 0) (rm6_6 l Z ar0 hw [] b768 k768 (own_m0 cc) (own_m1 cc) (own_l2 cc) (0 : Int32) (0 : Int32) h799 n0 Z799 V799 Ef803) hZ (own_w hw 33 rfl) (own_w hw 32 rfl) (by decide) (by decide)) (g := (mkF m 65 #[vR a0, vR b768, vI 3, vJ (own_u3 cc), .second, vI (own_g2 cc)] [(.int 6), (.ref b768)])) rfl (by rw [hml]; rfl) (argsL := [(.ref b768), (.int 6)]) (rest := []) (lenOf pd_3 rfl) rfl (by show 2 * 0 + _ ≤ _; exact Nat.le_of_eq rfl) (hb hby d4_65) (fun _ _ => ⟨rfl, e806, (by decide : 1 + 1 ≤ _), (by decide : 5 + 6 ≤ _)⟩)
 dsimp only [Pt.U, Pt.locs, Pt.cells, Pt.slots] at X810 l810 y810 z810 st810 hQ810
 subst l810 y810 z810
 obtain ⟨h810, e810⟩ : ∃ h, T810.heap = h := ⟨_, rfl⟩
 rw [e810] at hQ810
 obtain ⟨b810, kb810, rfl, N810q, K810q, y_b810, Ob810_0, Ob810_1⟩ := hQ810
 have N810 := Fr.app N799 N810q
 have ne_a0_b810 : a0 ≠ b810 := Nat.ne_of_lt (Nat.lt_of_lt_of_le (Ff800).lt y_b810)
 have ne_r1_b810 : r1 ≠ b810 := Nat.ne_of_lt (Nat.lt_of_lt_of_le (Vf802).lt y_b810)
 have ne_b768_b810 : b768 ≠ b810 := Nat.ne_of_lt (Nat.lt_of_lt_of_le (Ef803).lt y_b810)
 have g_b810 : n0 ≤ b810 := Nat.le_trans Z799 y_b810
 have sz_b810 : h0.size ≤ b810 := Nat.le_trans K799.1 y_b810
 have Z810 : n0 ≤ h810.size := Nat.le_trans Z799 K810q.1
 have K810 : Keep h0 h810 [] := K799.trans K810q (fun x hx => absurd hx List.not_mem_nil)
 have Ff811 : Fld Z h810 a0 own_CK "collection" "I" (.int cc) := (Ff800).keep K810q List.not_mem_nil
 have Ff812 : Fld Z h810 a0 own_CK "documentKey" "[B" (.ref r1) := (Ff801).keep K810q List.not_mem_nil
 have Vf813 : Arv Z h810 r1 k_r1 .byte (3 : Int32) [(.int y0), (.int y1), (.int y2)] (.int 0) := (Vf802).keep K810q List.not_mem_nil
 have Ef814 : Exa Z h810 b768 "[B" := (Ef803).keep K810q
 have Vf815 : Arv Z h810 b768 k768 .byte (5 : Int32) [(.int (own_m0 cc)), (.int (own_m1 cc)), (.int (own_l2 cc)), (.int 0), (.int 0)] (.int 0) := (V799).keep K810q List.not_mem_nil
 have pre816 : own_P p e below T810 (mkF m 68 #[vR a0, vR b768, vI 3, vJ (own_u3 cc), .second, vI (own_g2 cc)] [(.ref b810)]) s₁ (entryFrame m #[(.ref a0)] 6) := fun t k => pre809 t (st810 t k)
 have pre817 : own_P p e below T810 (mkF m 71 #[vR a0, vR b768, vI 3, vJ (own_u3 cc), .second, vR b810] [(.ref a0)]) s₁ (entryFrame m #[(.ref a0)] 6) := by
  intro t k
  refine pre816 t ?_
  refine XS.astore X810.here hx rfl (hb hby d4_68) rfl rfl (l' := #[vR a0, vR b768, vI 3, vJ (own_u3 cc), .second, vR b810]) rfl ?_
  refine XS.aloadN X810.here hx rfl (hb hby d4_70) rfl rfl ?_
  exact k
 obtain ⟨T818, X818, e818, st818⟩ := getF X810 hx hZ hown (host := "") (Or.inl (own_w hw 17 rfl)) Via.refl e810 Ff812 (g := (mkF m 71 #[vR a0, vR b768, vI 3, vJ (own_u3 cc), .second, vR b810] [(.ref a0)])) rfl rfl (hb hby d4_71)
 have pre819 : own_P p e below T818 (mkF m 74 #[vR a0, vR b768, vI 3, vJ (own_u3 cc), .second, vR b810] [(.ref r1)]) s₁ (entryFrame m #[(.ref a0)] 6) := fun t k => pre817 t (st818 t k)
 have pre820 : own_P p e below T818 (mkF m 79 #[vR a0, vR b768, vI 3, vJ (own_u3 cc), .second, vR b810] [(.ref a0), (.int 3), (.ref b810), (.int 0), (.ref r1)]) s₁ (entryFrame m #[(.ref a0)] 6) := by
  intro t k
  refine pre819 t ?_
  refine XS.iconst X818.here hx rfl (hb hby d4_74) ?_
  refine XS.aload X818.here hx rfl (hb hby d4_75) rfl rfl ?_
  refine XS.iloadN X818.here hx rfl (hb hby d4_77) rfl ?_
  refine XS.aloadN X818.here hx rfl (hb hby d4_78) rfl rfl ?_
  exact k
 obtain ⟨T821, X821, e821, st821⟩ := getF X818 hx hZ hown (host := "") (Or.inl (own_w hw 17 rfl)) Via.refl e818 Ff812 (g := (mkF m 79 #[vR a0, vR b768, vI 3, vJ (own_u3 cc), .second, vR b810] [(.ref a0), (.int 3), (.ref b810), (.int 0), (.ref r1)])) rfl rfl (hb hby d4_79)
 have pre822 : own_P p e below T821 (mkF m 82 #[vR a0, vR b768, vI 3, vJ (own_u3 cc), .second, vR b810] [(.ref r1), (.int 3), (.ref b810), (.int 0), (.ref r1)]) s₁ (entryFrame m #[(.ref a0)] 6) := fun t k => pre820 t (st821 t k)
 obtain ⟨cl823, Ar823, q823, S823, M823, H823, G823⟩ := id Vf813
 have pre824 : own_P p e below T821 (mkF m 83 #[vR a0, vR b768, vI 3, vJ (own_u3 cc), .second, vR b810] [(.int 3), (.int 3), (.ref b810), (.int 0), (.ref r1)]) s₁ (entryFrame m #[(.ref a0)] 6) := by
  intro t k
  refine pre822 t ?_
  refine X821.arraylength hx (by rw [e821]; exact Ar823.1) (State.isArrayOf_alike hZ.alike Ar823.2.1) (g := (mkF m 82 #[vR a0, vR b768, vI 3, vJ (own_u3 cc), .second, vR b810] [(.ref r1), (.int 3), (.ref b810), (.int 0), (.ref r1)])) rfl rfl (hb hby d4_82) _ ?_
  rw [len_of S823 M823]
  exact k
 obtain ⟨T825, h825, L825, X825, e825, N825, K825q, V825q, st825⟩ := cpA X821 hx hZ hown (own_w hw 42 rfl) (own_w hw 41 rfl) (own_w hw 39 rfl) (own_w hw 40 rfl) e821 Vf813 Ob810_1 (Or.inl ⟨rfl, rfl⟩) (by decide) (by decide) (by decide) (by decide) (by decide) (us := [(.int y0), (.int y1), (.int y2)]) rfl (Nat.le_of_ble_eq_true rfl) N810 g_b810 (g := (mkF m 83 #[vR a0, vR b768, vI 3, vJ (own_u3 cc), .second, vR b810] [(.int 3), (.int 3), (.ref b810), (.int 0), (.ref r1)])) rfl (by rw [hml]; rfl) rfl (hb hby d4_83) (by decide) (W := 0) (by show 2 * 0 + _ ≤ _; exact Nat.le_of_eq rfl) (by decide)
 have Z825 : n0 ≤ h825.size := Nat.le_trans Z810 K825q.1
 have K825 : Keep h0 h825 [] := K810.trans K825q (fun x hx => by cases List.mem_singleton.mp hx; exact Or.inr sz_b810)
 have Ff826 : Fld Z h825 a0 own_CK "collection" "I" (.int cc) := (Ff811).keep K825q (fun q => absurd (List.mem_singleton.mp q) ne_a0_b810)
 have Ff827 : Fld Z h825 a0 own_CK "documentKey" "[B" (.ref r1) := (Ff812).keep K825q (fun q => absurd (List.mem_singleton.mp q) ne_a0_b810)
 have Vf828 : Arv Z h825 r1 k_r1 .byte (3 : Int32) [(.int y0), (.int y1), (.int y2)] (.int 0) := (Vf813).keep K825q (fun q => absurd (List.mem_singleton.mp q) ne_r1_b810)
 have Ef829 : Exa Z h825 b768 "[B" := (Ef814).keep K825q
 have Vf830 : Arv Z h825 b768 k768 .byte (5 : Int32) [(.int (own_m0 cc)), (.int (own_m1 cc)), (.int (own_l2 cc)), (.int 0), (.int 0)] (.int 0) := (Vf815).keep K825q (fun q => absurd (List.mem_singleton.mp q) ne_b768_b810)
 have Ef831 : Exa Z h825 b810 "[B" := (Ob810_0).keep K825q
 have V825 : Arv Z h825 b810 kb810 .byte (6 : Int32) [(.int (own_m0 cc)), (.int (own_m1 cc)), (.int (own_l2 cc)), (.int y0), (.int y1), (.int y2)] (.int 0) := V825q
 have pre832 : own_P p e below T825 (mkF m 86 #[vR a0, vR b768, vI 3, vJ (own_u3 cc), .second, vR b810] []) s₁ (entryFrame m #[(.ref a0)] 6) := fun t k => pre824 t (st825 t k)
 obtain ⟨fs, hr, hrun, hended, hW, hsame⟩ := X825.leave (v := some (.ref b810)) (fun h => by rw [Bd.returns] at h; cases h)
 refine ⟨_, _, pre832 _ ?_, hrun, hended, _, _, rfl, ?_, ⟨_, rfl⟩, hW, hsame.mono (by decide) (by decide)⟩
 ·
  refine XS.aload X825.here hx rfl (hb hby d4_86) rfl rfl ?_
  exact retOut X825 hx Bd.returns rfl (Or.inr (Or.inr (Or.inr (Or.inr ⟨rfl, rfl, rfl⟩)))) (hb hby d4_88) hr
 ·
  show Q4_3_3 Z a0 cc r1 k_r1 y0 y1 y2 h0 n0 _ T825.heap _
  rw [e825]
  exact ⟨b810, kb810, rfl, N825, K825, sz_b810, Ef831, V825⟩
def Q4_4_0 (Z : State) (a0 : Addr) (cc : Int32) (r1 : Addr) (k_r1 : ClassId) (h0 : Heap) (n0 : Nat) (v : Option Value) (h : Heap) (L : List Loc) : Prop := ∃ (b : Addr) (k_b : ClassId), v = some (.ref b) ∧ Fr n0 L ∧ Keep h0 h [] ∧ h0.size ≤ b ∧ Exa Z h b "[B" ∧ Arv Z h b k_b .byte (4 : Int32) [(.int (own_m0 cc)), (.int (own_m1 cc)), (.int (own_m2 cc)), (.int (own_l3 cc))] (.int 0)
set_option maxRecDepth 65536 in
set_option maxHeartbeats 40000000 in
theorem rm4_4_0 (l : Launch) (Z : State) (ar0 : Array Value) (hw : ∀ d ∈ tables_1, d.before ar0 Z = true) (ws : List Jvm.Cond) (a0 : Addr) (cc : Int32) (r1 : Addr) (k_r1 : ClassId) (h0 : Heap) (n0 : Nat) (Z0 : n0 ≤ h0.size) (F_collection_a0 : Fld Z h0 a0 own_CK "collection" "I" (.int cc)) (F_documentKey_a0 : Fld Z h0 a0 own_CK "documentKey" "[B" (.ref r1)) (V_r1 : Arv Z h0 r1 k_r1 .byte (0 : Int32) [] (.int 0)) (hz1 : ¬ ((own_u1 cc) = (0 : Int64))) (hz2 : ¬ ((own_u2 cc) = (0 : Int64))) (hz3 : ¬ ((own_u3 cc) = (0 : Int64))) (hz4 : (own_u4 cc) = (0 : Int64)) :
  MetFree l (⟨own_CK, "write", "()[B"⟩ : MethodName) (head1 (Jvm.Cond.code (⟨own_CK, "write", "()[B"⟩ : MethodName) prog_8_method_3_code 6 (some (.array .byte)) :: ws) ({ frames := 2, cells := 2, slots := 9, locals := 32 } : Room)) (fun a U => a = #[(.ref a0)] ∧ Z.Warmed39 U.vm ∧ U.heap = h0) (fun _ _ _ _ _ => True) (fun _ U o U' => ∃ v L, o = .returned v ∧ Q4_4_0 Z a0 cc r1 k_r1 h0 n0 v U'.heap L ∧ FrameEnd U o U' L ({ frames := 2, cells := 2, slots := 9, locals := 32 } : Room).cells ({ frames := 2, cells := 2, slots := 9, locals := 32 } : Room).slots) := by
 refine MetFree.of_bodySF (plainFor_of_name pn_1) hisR ?_
 intro p e s m args below meth c s₁ Bd hml0 hP hK
 obtain ⟨rfl, hZ, hh⟩ := hP
 have hx := Bd.exec
 have hby := Bd.bytes
 have hml : c.maxLocals = 6 := hml0
 have hown : s.vm.findClass own_CK = some m.cls := by have q := findClass_of_methodNamed Bd.named; exact q
 have hnm := (name_of_methodNamed Bd.named Bd.method).1
 have X0 : Stand p l e ({ frames := 2, cells := 2, slots := 9, locals := 32 } : Room) s m #[(.ref a0)] below meth c s₁ [] 0 0 := Stand.of_body Bd
 have e0 : s₁.heap = h0 := by rw [← hh, Bd.state]; rfl
 have N0 := Fr.nil n0
 have pre0 : own_P p e below s₁ (mkF m 0 #[vR a0, .unset, .unset, .unset, .unset, .unset] []) s₁ (entryFrame m #[(.ref a0)] 6) := fun t k => castTop (ef_4 m a0) k
 have pre833 : own_P p e below s₁ (mkF m 1 #[vR a0, .unset, .unset, .unset, .unset, .unset] [(.int 5)]) s₁ (entryFrame m #[(.ref a0)] 6) := by
  intro t k
  refine pre0 t ?_
  refine XS.iconst X0.here hx rfl (hb hby d4_0) ?_
  exact k
 obtain ⟨T834, h834, k834, X834, e834, E834, A834, C834, st834⟩ := newPE X0 hx hZ (own_w hw 0 rfl) e0 (g := (mkF m 1 #[vR a0, .unset, .unset, .unset, .unset, .unset] [(.int 5)])) rfl (hb hby d4_1) rfl (by decide) (cap := 5) (by decide) (by decide) (by decide) (by decide) (ad := "[B") rfl
 obtain ⟨b834, g834⟩ : ∃ z, z = h0.size := ⟨_, rfl⟩
 rw [← g834] at A834 C834 st834
 have ne_a0_b834 : a0 ≠ b834 := Nat.ne_of_lt (Nat.lt_of_lt_of_le (F_collection_a0).lt (Nat.le_of_eq g834.symm))
 have ne_r1_b834 : r1 ≠ b834 := Nat.ne_of_lt (Nat.lt_of_lt_of_le (V_r1).lt (Nat.le_of_eq g834.symm))
 have g_b834 : n0 ≤ b834 := Nat.le_trans Z0 (Nat.le_of_eq g834.symm)
 have sz_b834 : h0.size ≤ b834 := Nat.le_trans (Keep.refl h0 []).1 (Nat.le_of_eq g834.symm)
 have Z834 : n0 ≤ h834.size := Nat.le_trans Z0 E834.1
 have K834 : Keep h0 h834 [] := (Keep.refl h0 []).ext E834
 have Ff835 : Fld Z h834 a0 own_CK "collection" "I" (.int cc) := (F_collection_a0).ext E834
 have Ff836 : Fld Z h834 a0 own_CK "documentKey" "[B" (.ref r1) := (F_documentKey_a0).ext E834
 have Vf837 : Arv Z h834 r1 k_r1 .byte (0 : Int32) [] (.int 0) := (V_r1).ext E834
 have V_b834 : Arv Z h834 b834 k834 .byte (5 : Int32) [(.int 0), (.int 0), (.int 0), (.int 0), (.int 0)] (.int 0) := (Arv.new A834 (by decide)).pad (pad_rep [] (.int 0) 5)
 have pre838 : own_P p e below T834 (mkF m 3 #[vR a0, .unset, .unset, .unset, .unset, .unset] [(.ref b834)]) s₁ (entryFrame m #[(.ref a0)] 6) := fun t k => pre833 t (st834 t k)
 have pre839 : own_P p e below T834 (mkF m 7 #[vR a0, vR b834, vI 0, .unset, .unset, .unset] [(.ref a0)]) s₁ (entryFrame m #[(.ref a0)] 6) := by
  intro t k
  refine pre838 t ?_
  refine XS.astoreN X834.here hx rfl (hb hby d4_3) rfl rfl (l' := #[vR a0, vR b834, .unset, .unset, .unset, .unset]) rfl ?_
  refine XS.iconst X834.here hx rfl (hb hby d4_4) ?_
  refine XS.istoreN X834.here hx rfl (hb hby d4_5) rfl (l' := #[vR a0, vR b834, vI 0, .unset, .unset, .unset]) rfl ?_
  refine XS.aloadN X834.here hx rfl (hb hby d4_6) rfl rfl ?_
  exact k
 obtain ⟨T840, X840, e840, st840⟩ := getF X834 hx hZ hown (host := "") (Or.inl (own_w hw 15 rfl)) Via.refl e834 Ff835 (g := (mkF m 7 #[vR a0, vR b834, vI 0, .unset, .unset, .unset] [(.ref a0)])) rfl rfl (hb hby d4_7)
 have pre841 : own_P p e below T840 (mkF m 10 #[vR a0, vR b834, vI 0, .unset, .unset, .unset] [(.int cc)]) s₁ (entryFrame m #[(.ref a0)] 6) := fun t k => pre839 t (st840 t k)
 obtain ⟨_, _, ⟨T842, L842, k842, n842⟩, -, X842, ⟨Lc842, hQ842, l842, y842, z842⟩, st842⟩ := Jvm.LawKit.callS X840 hx (y := (⟨"java/lang/Integer", "toUnsignedLong", "(I)J"⟩ : MethodName)) hown (mvT hZ (own_w hw 24 rfl)) (mvT hZ (own_w hw 25 rfl)) (mvT hZ (own_w hw 26 rfl)) (mvT hZ (own_w hw 27 rfl)) (by decide) (backOf (W := 0) (rm5 l Z ar0 hw [] cc h834 n0 Z834) hZ (own_w hw 27 rfl) (own_w hw 26 rfl) (by decide) (by decide)) (g := (mkF m 10 #[vR a0, vR b834, vI 0, .unset, .unset, .unset] [(.int cc)])) rfl (by rw [hml]; rfl) (argsL := [(.int cc)]) (rest := []) (lenOf pd_2 rfl) rfl (by show 2 * 0 + _ ≤ _; exact Nat.le_of_eq rfl) (hb hby d4_10) (fun _ _ => ⟨rfl, e840, (by decide : 1 + 0 ≤ _), (by decide : 5 + 0 ≤ _)⟩)
 dsimp only [Pt.U, Pt.locs, Pt.cells, Pt.slots] at X842 l842 y842 z842 st842 hQ842
 subst l842 y842 z842
 obtain ⟨rfl, N842q, e842⟩ := hQ842
 have N842 := Fr.app N0 N842q
 have pre843 : own_P p e below T842 (mkF m 13 #[vR a0, vR b834, vI 0, .unset, .unset, .unset] [(.long (own_u0 cc))]) s₁ (entryFrame m #[(.ref a0)] 6) := fun t k => pre841 t (st842 t k)
 have pre844 : own_P p e below T842 (mkF m 32 #[vR a0, vR b834, vI 0, vJ (own_u1 cc), .second, vI (own_g0 cc)] [(.int (lcmpW (own_u1 cc) (0 : Int64))), (.int 0), (.ref b834)]) s₁ (entryFrame m #[(.ref a0)] 6) := by
  intro t k
  refine pre843 t ?_
  refine XS.lstoreN X842.here hx rfl (hb hby d4_13) rfl (l' := #[vR a0, vR b834, vI 0, vJ (own_u0 cc), .second, .unset]) rfl ?_
  refine XS.lloadN X842.here hx rfl (hb hby d4_14) rfl ?_
  refine X842.ldc2Long hx hown (mvT hZ (own_w hw 29 rfl)) (g := (mkF m 15 #[vR a0, vR b834, vI 0, vJ (own_u0 cc), .second, .unset] [(.long (own_u0 cc))])) rfl (hb hby d4_15) _ ?_
  refine XS.land X842.here hx rfl (hb hby d4_18) rfl ?_
  refine XS.l2i X842.here hx rfl (hb hby d4_19) rfl ?_
  refine XS.istore X842.here hx rfl (hb hby d4_20) rfl (l' := #[vR a0, vR b834, vI 0, vJ (own_u0 cc), .second, vI (own_g0 cc)]) rfl ?_
  refine XS.lloadN X842.here hx rfl (hb hby d4_22) rfl ?_
  refine XS.bipush X842.here hx rfl (hb hby d4_23) ?_
  refine XS.lushr X842.here hx rfl (hb hby d4_25) rfl ?_
  refine XS.lstoreN X842.here hx rfl (hb hby d4_26) rfl (l' := #[vR a0, vR b834, vI 0, vJ (own_u1 cc), .second, vI (own_g0 cc)]) rfl ?_
  refine XS.aloadN X842.here hx rfl (hb hby d4_27) rfl rfl ?_
  refine XS.iloadN X842.here hx rfl (hb hby d4_28) rfl ?_
  refine XS.lloadN X842.here hx rfl (hb hby d4_29) rfl ?_
  refine XS.lconst X842.here hx rfl (hb hby d4_30) ?_
  refine XS.lcmp X842.here hx rfl (hb hby d4_31) rfl ?_
  exact k
 have hk845 : ¬ ((own_u1 cc) = (0 : Int64)) := hz1
 have pre846 : own_P p e below T842 (mkF m 47 #[vR a0, vR b834, vI 0, vJ (own_u1 cc), .second, vI (own_g0 cc)] [(.int (((own_g0 cc) ||| (128 : Int32)).toInt8.toInt32)), (.int 0), (.ref b834)]) s₁ (entryFrame m #[(.ref a0)] 6) := by
  intro t k
  refine pre844 t ?_
  refine XS.ifYes X842.here hx rfl (pc0 := 32) (pc' := 40) rfl (hb hby d4_32) rfl ((if0 _ _).trans (feq (own_neL hk845)).2) (by decide) (by decide) ?_
  refine XS.iload X842.here hx rfl (hb hby d4_40) rfl ?_
  refine XS.sipush X842.here hx rfl (hb hby d4_42) ?_
  refine XS.ior X842.here hx rfl (hb hby d4_45) rfl ?_
  refine XS.i2b X842.here hx rfl (hb hby d4_46) rfl ?_
  exact k
 obtain ⟨cl847, Ar847, q847, S847, M847, H847, G847⟩ := id V_b834
 have hin847 : ¬ ((0 : Int32) < 0 ∨ cl847.slots.size ≤ ((0 : Int32)).toNatClampNeg) := inb_of S847 ⟨by decide, by decide⟩
 obtain ⟨T847, h847, X847, e847, W847, st847⟩ := stB X842 hx hZ e842 Ar847 (j := (0 : Int32)) hin847 (g := (mkF m 47 #[vR a0, vR b834, vI 0, vJ (own_u1 cc), .second, vI (own_g0 cc)] [(.int (((own_g0 cc) ||| (128 : Int32)).toInt8.toInt32)), (.int 0), (.ref b834)])) rfl rfl (hb hby d4_47)
 have Z847 : n0 ≤ h847.size := Nat.le_trans Z834 (Keep.of_wr W847).1
 have K847 : Keep h0 h847 [] := K834.wr W847 (Or.inr sz_b834)
 have N847 := Fr.snoc X847 N842 g_b834
 have Ff848 : Fld Z h847 a0 own_CK "collection" "I" (.int cc) := (Ff835).other W847 (Or.inl ne_a0_b834)
 have Ff849 : Fld Z h847 a0 own_CK "documentKey" "[B" (.ref r1) := (Ff836).other W847 (Or.inl ne_a0_b834)
 have Vf850 : Arv Z h847 r1 k_r1 .byte (0 : Int32) [] (.int 0) := (Vf837).other W847 ne_r1_b834
 have Ef851 : Exa Z h847 b834 "[B" := (C834).wr W847
 have V847 : Arv Z h847 b834 k834 .byte (5 : Int32) [(.int (own_m0 cc)), (.int 0), (.int 0), (.int 0), (.int 0)] (.int 0) := Arv.set Ar847 q847 S847 M847 H847 G847 (fits_nar_byte _) W847 0 rfl (Nat.le_of_ble_eq_true rfl)
 have pre852 : own_P p e below T847 (mkF m 48 #[vR a0, vR b834, vI 0, vJ (own_u1 cc), .second, vI (own_g0 cc)] []) s₁ (entryFrame m #[(.ref a0)] 6) := fun t k => pre846 t (st847 t k)
 have pre853 : own_P p e below T847 (mkF m 32 #[vR a0, vR b834, vI 1, vJ (own_u2 cc), .second, vI (own_g1 cc)] [(.int (lcmpW (own_u2 cc) (0 : Int64))), (.int 1), (.ref b834)]) s₁ (entryFrame m #[(.ref a0)] 6) := by
  intro t k
  refine pre852 t ?_
  refine XS.iinc X847.here hx rfl (hb hby d4_48) rfl (l' := #[vR a0, vR b834, vI 1, vJ (own_u1 cc), .second, vI (own_g0 cc)]) rfl ?_
  refine XS.lloadN X847.here hx rfl (hb hby d4_51) rfl ?_
  refine XS.lconst X847.here hx rfl (hb hby d4_52) ?_
  refine XS.lcmp X847.here hx rfl (hb hby d4_53) rfl ?_
  refine XS.ifYes X847.here hx rfl (pc0 := 54) (pc' := 14) rfl (hb hby d4_54) rfl ((if0 _ _).trans (feq (own_neL hk845)).2) (by decide) (by decide) ?_
  refine XS.lloadN X847.here hx rfl (hb hby d4_14) rfl ?_
  refine X847.ldc2Long hx hown (mvT hZ (own_w hw 29 rfl)) (g := (mkF m 15 #[vR a0, vR b834, vI 1, vJ (own_u1 cc), .second, vI (own_g0 cc)] [(.long (own_u1 cc))])) rfl (hb hby d4_15) _ ?_
  refine XS.land X847.here hx rfl (hb hby d4_18) rfl ?_
  refine XS.l2i X847.here hx rfl (hb hby d4_19) rfl ?_
  refine XS.istore X847.here hx rfl (hb hby d4_20) rfl (l' := #[vR a0, vR b834, vI 1, vJ (own_u1 cc), .second, vI (own_g1 cc)]) rfl ?_
  refine XS.lloadN X847.here hx rfl (hb hby d4_22) rfl ?_
  refine XS.bipush X847.here hx rfl (hb hby d4_23) ?_
  refine XS.lushr X847.here hx rfl (hb hby d4_25) rfl ?_
  refine XS.lstoreN X847.here hx rfl (hb hby d4_26) rfl (l' := #[vR a0, vR b834, vI 1, vJ (own_u2 cc), .second, vI (own_g1 cc)]) rfl ?_
  refine XS.aloadN X847.here hx rfl (hb hby d4_27) rfl rfl ?_
  refine XS.iloadN X847.here hx rfl (hb hby d4_28) rfl ?_
  refine XS.lloadN X847.here hx rfl (hb hby d4_29) rfl ?_
  refine XS.lconst X847.here hx rfl (hb hby d4_30) ?_
  refine XS.lcmp X847.here hx rfl (hb hby d4_31) rfl ?_
  exact k
 have hk854 : ¬ ((own_u2 cc) = (0 : Int64)) := hz2
 have pre855 : own_P p e below T847 (mkF m 47 #[vR a0, vR b834, vI 1, vJ (own_u2 cc), .second, vI (own_g1 cc)] [(.int (((own_g1 cc) ||| (128 : Int32)).toInt8.toInt32)), (.int 1), (.ref b834)]) s₁ (entryFrame m #[(.ref a0)] 6) := by
  intro t k
  refine pre853 t ?_
  refine XS.ifYes X847.here hx rfl (pc0 := 32) (pc' := 40) rfl (hb hby d4_32) rfl ((if0 _ _).trans (feq (own_neL hk854)).2) (by decide) (by decide) ?_
  refine XS.iload X847.here hx rfl (hb hby d4_40) rfl ?_
  refine XS.sipush X847.here hx rfl (hb hby d4_42) ?_
  refine XS.ior X847.here hx rfl (hb hby d4_45) rfl ?_
  refine XS.i2b X847.here hx rfl (hb hby d4_46) rfl ?_
  exact k
 obtain ⟨cl856, Ar856, q856, S856, M856, H856, G856⟩ := id V847
 have hin856 : ¬ ((1 : Int32) < 0 ∨ cl856.slots.size ≤ ((1 : Int32)).toNatClampNeg) := inb_of S856 ⟨by decide, by decide⟩
 obtain ⟨T856, h856, X856, e856, W856, st856⟩ := stB X847 hx hZ e847 Ar856 (j := (1 : Int32)) hin856 (g := (mkF m 47 #[vR a0, vR b834, vI 1, vJ (own_u2 cc), .second, vI (own_g1 cc)] [(.int (((own_g1 cc) ||| (128 : Int32)).toInt8.toInt32)), (.int 1), (.ref b834)])) rfl rfl (hb hby d4_47)
 have Z856 : n0 ≤ h856.size := Nat.le_trans Z847 (Keep.of_wr W856).1
 have K856 : Keep h0 h856 [] := K847.wr W856 (Or.inr sz_b834)
 have N856 := Fr.snoc X856 N847 g_b834
 have Ff857 : Fld Z h856 a0 own_CK "collection" "I" (.int cc) := (Ff848).other W856 (Or.inl ne_a0_b834)
 have Ff858 : Fld Z h856 a0 own_CK "documentKey" "[B" (.ref r1) := (Ff849).other W856 (Or.inl ne_a0_b834)
 have Vf859 : Arv Z h856 r1 k_r1 .byte (0 : Int32) [] (.int 0) := (Vf850).other W856 ne_r1_b834
 have Ef860 : Exa Z h856 b834 "[B" := (Ef851).wr W856
 have V856 : Arv Z h856 b834 k834 .byte (5 : Int32) [(.int (own_m0 cc)), (.int (own_m1 cc)), (.int 0), (.int 0), (.int 0)] (.int 0) := Arv.set Ar856 q856 S856 M856 H856 G856 (fits_nar_byte _) W856 1 rfl (Nat.le_of_ble_eq_true rfl)
 have pre861 : own_P p e below T856 (mkF m 48 #[vR a0, vR b834, vI 1, vJ (own_u2 cc), .second, vI (own_g1 cc)] []) s₁ (entryFrame m #[(.ref a0)] 6) := fun t k => pre855 t (st856 t k)
 have pre862 : own_P p e below T856 (mkF m 32 #[vR a0, vR b834, vI 2, vJ (own_u3 cc), .second, vI (own_g2 cc)] [(.int (lcmpW (own_u3 cc) (0 : Int64))), (.int 2), (.ref b834)]) s₁ (entryFrame m #[(.ref a0)] 6) := by
  intro t k
  refine pre861 t ?_
  refine XS.iinc X856.here hx rfl (hb hby d4_48) rfl (l' := #[vR a0, vR b834, vI 2, vJ (own_u2 cc), .second, vI (own_g1 cc)]) rfl ?_
  refine XS.lloadN X856.here hx rfl (hb hby d4_51) rfl ?_
  refine XS.lconst X856.here hx rfl (hb hby d4_52) ?_
  refine XS.lcmp X856.here hx rfl (hb hby d4_53) rfl ?_
  refine XS.ifYes X856.here hx rfl (pc0 := 54) (pc' := 14) rfl (hb hby d4_54) rfl ((if0 _ _).trans (feq (own_neL hk854)).2) (by decide) (by decide) ?_
  refine XS.lloadN X856.here hx rfl (hb hby d4_14) rfl ?_
  refine X856.ldc2Long hx hown (mvT hZ (own_w hw 29 rfl)) (g := (mkF m 15 #[vR a0, vR b834, vI 2, vJ (own_u2 cc), .second, vI (own_g1 cc)] [(.long (own_u2 cc))])) rfl (hb hby d4_15) _ ?_
  refine XS.land X856.here hx rfl (hb hby d4_18) rfl ?_
  refine XS.l2i X856.here hx rfl (hb hby d4_19) rfl ?_
  refine XS.istore X856.here hx rfl (hb hby d4_20) rfl (l' := #[vR a0, vR b834, vI 2, vJ (own_u2 cc), .second, vI (own_g2 cc)]) rfl ?_
  refine XS.lloadN X856.here hx rfl (hb hby d4_22) rfl ?_
  refine XS.bipush X856.here hx rfl (hb hby d4_23) ?_
  refine XS.lushr X856.here hx rfl (hb hby d4_25) rfl ?_
  refine XS.lstoreN X856.here hx rfl (hb hby d4_26) rfl (l' := #[vR a0, vR b834, vI 2, vJ (own_u3 cc), .second, vI (own_g2 cc)]) rfl ?_
  refine XS.aloadN X856.here hx rfl (hb hby d4_27) rfl rfl ?_
  refine XS.iloadN X856.here hx rfl (hb hby d4_28) rfl ?_
  refine XS.lloadN X856.here hx rfl (hb hby d4_29) rfl ?_
  refine XS.lconst X856.here hx rfl (hb hby d4_30) ?_
  refine XS.lcmp X856.here hx rfl (hb hby d4_31) rfl ?_
  exact k
 have hk863 : ¬ ((own_u3 cc) = (0 : Int64)) := hz3
 have pre864 : own_P p e below T856 (mkF m 47 #[vR a0, vR b834, vI 2, vJ (own_u3 cc), .second, vI (own_g2 cc)] [(.int (((own_g2 cc) ||| (128 : Int32)).toInt8.toInt32)), (.int 2), (.ref b834)]) s₁ (entryFrame m #[(.ref a0)] 6) := by
  intro t k
  refine pre862 t ?_
  refine XS.ifYes X856.here hx rfl (pc0 := 32) (pc' := 40) rfl (hb hby d4_32) rfl ((if0 _ _).trans (feq (own_neL hk863)).2) (by decide) (by decide) ?_
  refine XS.iload X856.here hx rfl (hb hby d4_40) rfl ?_
  refine XS.sipush X856.here hx rfl (hb hby d4_42) ?_
  refine XS.ior X856.here hx rfl (hb hby d4_45) rfl ?_
  refine XS.i2b X856.here hx rfl (hb hby d4_46) rfl ?_
  exact k
 obtain ⟨cl865, Ar865, q865, S865, M865, H865, G865⟩ := id V856
 have hin865 : ¬ ((2 : Int32) < 0 ∨ cl865.slots.size ≤ ((2 : Int32)).toNatClampNeg) := inb_of S865 ⟨by decide, by decide⟩
 obtain ⟨T865, h865, X865, e865, W865, st865⟩ := stB X856 hx hZ e856 Ar865 (j := (2 : Int32)) hin865 (g := (mkF m 47 #[vR a0, vR b834, vI 2, vJ (own_u3 cc), .second, vI (own_g2 cc)] [(.int (((own_g2 cc) ||| (128 : Int32)).toInt8.toInt32)), (.int 2), (.ref b834)])) rfl rfl (hb hby d4_47)
 have Z865 : n0 ≤ h865.size := Nat.le_trans Z856 (Keep.of_wr W865).1
 have K865 : Keep h0 h865 [] := K856.wr W865 (Or.inr sz_b834)
 have N865 := Fr.snoc X865 N856 g_b834
 have Ff866 : Fld Z h865 a0 own_CK "collection" "I" (.int cc) := (Ff857).other W865 (Or.inl ne_a0_b834)
 have Ff867 : Fld Z h865 a0 own_CK "documentKey" "[B" (.ref r1) := (Ff858).other W865 (Or.inl ne_a0_b834)
 have Vf868 : Arv Z h865 r1 k_r1 .byte (0 : Int32) [] (.int 0) := (Vf859).other W865 ne_r1_b834
 have Ef869 : Exa Z h865 b834 "[B" := (Ef860).wr W865
 have V865 : Arv Z h865 b834 k834 .byte (5 : Int32) [(.int (own_m0 cc)), (.int (own_m1 cc)), (.int (own_m2 cc)), (.int 0), (.int 0)] (.int 0) := Arv.set Ar865 q865 S865 M865 H865 G865 (fits_nar_byte _) W865 2 rfl (Nat.le_of_ble_eq_true rfl)
 have pre870 : own_P p e below T865 (mkF m 48 #[vR a0, vR b834, vI 2, vJ (own_u3 cc), .second, vI (own_g2 cc)] []) s₁ (entryFrame m #[(.ref a0)] 6) := fun t k => pre864 t (st865 t k)
 have pre871 : own_P p e below T865 (mkF m 32 #[vR a0, vR b834, vI 3, vJ (own_u4 cc), .second, vI (own_g3 cc)] [(.int (lcmpW (own_u4 cc) (0 : Int64))), (.int 3), (.ref b834)]) s₁ (entryFrame m #[(.ref a0)] 6) := by
  intro t k
  refine pre870 t ?_
  refine XS.iinc X865.here hx rfl (hb hby d4_48) rfl (l' := #[vR a0, vR b834, vI 3, vJ (own_u3 cc), .second, vI (own_g2 cc)]) rfl ?_
  refine XS.lloadN X865.here hx rfl (hb hby d4_51) rfl ?_
  refine XS.lconst X865.here hx rfl (hb hby d4_52) ?_
  refine XS.lcmp X865.here hx rfl (hb hby d4_53) rfl ?_
  refine XS.ifYes X865.here hx rfl (pc0 := 54) (pc' := 14) rfl (hb hby d4_54) rfl ((if0 _ _).trans (feq (own_neL hk863)).2) (by decide) (by decide) ?_
  refine XS.lloadN X865.here hx rfl (hb hby d4_14) rfl ?_
  refine X865.ldc2Long hx hown (mvT hZ (own_w hw 29 rfl)) (g := (mkF m 15 #[vR a0, vR b834, vI 3, vJ (own_u3 cc), .second, vI (own_g2 cc)] [(.long (own_u3 cc))])) rfl (hb hby d4_15) _ ?_
  refine XS.land X865.here hx rfl (hb hby d4_18) rfl ?_
  refine XS.l2i X865.here hx rfl (hb hby d4_19) rfl ?_
  refine XS.istore X865.here hx rfl (hb hby d4_20) rfl (l' := #[vR a0, vR b834, vI 3, vJ (own_u3 cc), .second, vI (own_g3 cc)]) rfl ?_
  refine XS.lloadN X865.here hx rfl (hb hby d4_22) rfl ?_
  refine XS.bipush X865.here hx rfl (hb hby d4_23) ?_
  refine XS.lushr X865.here hx rfl (hb hby d4_25) rfl ?_
  refine XS.lstoreN X865.here hx rfl (hb hby d4_26) rfl (l' := #[vR a0, vR b834, vI 3, vJ (own_u4 cc), .second, vI (own_g3 cc)]) rfl ?_
  refine XS.aloadN X865.here hx rfl (hb hby d4_27) rfl rfl ?_
  refine XS.iloadN X865.here hx rfl (hb hby d4_28) rfl ?_
  refine XS.lloadN X865.here hx rfl (hb hby d4_29) rfl ?_
  refine XS.lconst X865.here hx rfl (hb hby d4_30) ?_
  refine XS.lcmp X865.here hx rfl (hb hby d4_31) rfl ?_
  exact k
 have hk872 : (own_u4 cc) = (0 : Int64) := hz4
 have pre873 : own_P p e below T865 (mkF m 47 #[vR a0, vR b834, vI 3, vJ (own_u4 cc), .second, vI (own_g3 cc)] [(.int ((own_g3 cc).toInt8.toInt32)), (.int 3), (.ref b834)]) s₁ (entryFrame m #[(.ref a0)] 6) := by
  intro t k
  refine pre871 t ?_
  refine XS.ifNo X865.here hx rfl (hb hby d4_32) rfl ((if0 _ _).trans (teq (own_eqL hk872)).2) ?_
  refine XS.iload X865.here hx rfl (hb hby d4_35) rfl ?_
  refine XS.goto X865.here hx rfl (pc0 := 37) (pc' := 46) rfl (hb hby d4_37) (by decide) (by decide) ?_
  refine XS.i2b X865.here hx rfl (hb hby d4_46) rfl ?_
  exact k
 obtain ⟨cl874, Ar874, q874, S874, M874, H874, G874⟩ := id V865
 have hin874 : ¬ ((3 : Int32) < 0 ∨ cl874.slots.size ≤ ((3 : Int32)).toNatClampNeg) := inb_of S874 ⟨by decide, by decide⟩
 obtain ⟨T874, h874, X874, e874, W874, st874⟩ := stB X865 hx hZ e865 Ar874 (j := (3 : Int32)) hin874 (g := (mkF m 47 #[vR a0, vR b834, vI 3, vJ (own_u4 cc), .second, vI (own_g3 cc)] [(.int ((own_g3 cc).toInt8.toInt32)), (.int 3), (.ref b834)])) rfl rfl (hb hby d4_47)
 have Z874 : n0 ≤ h874.size := Nat.le_trans Z865 (Keep.of_wr W874).1
 have K874 : Keep h0 h874 [] := K865.wr W874 (Or.inr sz_b834)
 have N874 := Fr.snoc X874 N865 g_b834
 have Ff875 : Fld Z h874 a0 own_CK "collection" "I" (.int cc) := (Ff866).other W874 (Or.inl ne_a0_b834)
 have Ff876 : Fld Z h874 a0 own_CK "documentKey" "[B" (.ref r1) := (Ff867).other W874 (Or.inl ne_a0_b834)
 have Vf877 : Arv Z h874 r1 k_r1 .byte (0 : Int32) [] (.int 0) := (Vf868).other W874 ne_r1_b834
 have Ef878 : Exa Z h874 b834 "[B" := (Ef869).wr W874
 have V874 : Arv Z h874 b834 k834 .byte (5 : Int32) [(.int (own_m0 cc)), (.int (own_m1 cc)), (.int (own_m2 cc)), (.int (own_l3 cc)), (.int 0)] (.int 0) := Arv.set Ar874 q874 S874 M874 H874 G874 (fits_nar_byte _) W874 3 rfl (Nat.le_of_ble_eq_true rfl)
 have pre879 : own_P p e below T874 (mkF m 48 #[vR a0, vR b834, vI 3, vJ (own_u4 cc), .second, vI (own_g3 cc)] []) s₁ (entryFrame m #[(.ref a0)] 6) := fun t k => pre873 t (st874 t k)
 have pre880 : own_P p e below T874 (mkF m 60 #[vR a0, vR b834, vI 4, vJ (own_u4 cc), .second, vI (own_g3 cc)] [(.ref a0), (.int 4), (.ref b834)]) s₁ (entryFrame m #[(.ref a0)] 6) := by
  intro t k
  refine pre879 t ?_
  refine XS.iinc X874.here hx rfl (hb hby d4_48) rfl (l' := #[vR a0, vR b834, vI 4, vJ (own_u4 cc), .second, vI (own_g3 cc)]) rfl ?_
  refine XS.lloadN X874.here hx rfl (hb hby d4_51) rfl ?_
  refine XS.lconst X874.here hx rfl (hb hby d4_52) ?_
  refine XS.lcmp X874.here hx rfl (hb hby d4_53) rfl ?_
  refine XS.ifNo X874.here hx rfl (hb hby d4_54) rfl ((if0 _ _).trans (teq (own_eqL hk872)).2) ?_
  refine XS.aloadN X874.here hx rfl (hb hby d4_57) rfl rfl ?_
  refine XS.iloadN X874.here hx rfl (hb hby d4_58) rfl ?_
  refine XS.aloadN X874.here hx rfl (hb hby d4_59) rfl rfl ?_
  exact k
 obtain ⟨T881, X881, e881, st881⟩ := getF X874 hx hZ hown (host := "") (Or.inl (own_w hw 17 rfl)) Via.refl e874 Ff876 (g := (mkF m 60 #[vR a0, vR b834, vI 4, vJ (own_u4 cc), .second, vI (own_g3 cc)] [(.ref a0), (.int 4), (.ref b834)])) rfl rfl (hb hby d4_60)
 have pre882 : own_P p e below T881 (mkF m 63 #[vR a0, vR b834, vI 4, vJ (own_u4 cc), .second, vI (own_g3 cc)] [(.ref r1), (.int 4), (.ref b834)]) s₁ (entryFrame m #[(.ref a0)] 6) := fun t k => pre880 t (st881 t k)
 obtain ⟨cl883, Ar883, q883, S883, M883, H883, G883⟩ := id Vf877
 have pre884 : own_P p e below T881 (mkF m 65 #[vR a0, vR b834, vI 4, vJ (own_u4 cc), .second, vI (own_g3 cc)] [(.int 4), (.ref b834)]) s₁ (entryFrame m #[(.ref a0)] 6) := by
  intro t k
  refine pre882 t ?_
  refine X881.arraylength hx (by rw [e881]; exact Ar883.1) (State.isArrayOf_alike hZ.alike Ar883.2.1) (g := (mkF m 63 #[vR a0, vR b834, vI 4, vJ (own_u4 cc), .second, vI (own_g3 cc)] [(.ref r1), (.int 4), (.ref b834)])) rfl rfl (hb hby d4_63) _ ?_
  rw [len_of S883 M883]
  refine XS.iadd X881.here hx rfl (hb hby d4_64) rfl ?_
  exact k
 obtain ⟨_, _, ⟨T885, L885, k885, n885⟩, -, X885, ⟨Lc885, hQ885, l885, y885, z885⟩, st885⟩ := Jvm.LawKit.callS X881 hx (y := (⟨"java/util/Arrays", "copyOf", "([BI)[B"⟩ : MethodName)) hown (mvT hZ (own_w hw 30 rfl)) (mvT hZ (own_w hw 31 rfl)) (mvT hZ (own_w hw 32 rfl)) (mvT hZ (own_w hw 33 rfl)) (by decide) (backOf (W := 0) (rm6_4 l Z ar0 hw [] b834 k834 (own_m0 cc) (own_m1 cc) (own_m2 cc) (own_l3 cc) (0 : Int32) h874 n0 Z874 V874 Ef878) hZ (own_w hw 33 rfl) (own_w hw 32 rfl) (by decide) (by decide)) (g := (mkF m 65 #[vR a0, vR b834, vI 4, vJ (own_u4 cc), .second, vI (own_g3 cc)] [(.int 4), (.ref b834)])) rfl (by rw [hml]; rfl) (argsL := [(.ref b834), (.int 4)]) (rest := []) (lenOf pd_3 rfl) rfl (by show 2 * 0 + _ ≤ _; exact Nat.le_of_eq rfl) (hb hby d4_65) (fun _ _ => ⟨rfl, e881, (by decide : 1 + 1 ≤ _), (by decide : 5 + 4 ≤ _)⟩)
 dsimp only [Pt.U, Pt.locs, Pt.cells, Pt.slots] at X885 l885 y885 z885 st885 hQ885
 subst l885 y885 z885
 obtain ⟨h885, e885⟩ : ∃ h, T885.heap = h := ⟨_, rfl⟩
 rw [e885] at hQ885
 obtain ⟨b885, kb885, rfl, N885q, K885q, y_b885, Ob885_0, Ob885_1⟩ := hQ885
 have N885 := Fr.app N874 N885q
 have ne_a0_b885 : a0 ≠ b885 := Nat.ne_of_lt (Nat.lt_of_lt_of_le (Ff875).lt y_b885)
 have ne_r1_b885 : r1 ≠ b885 := Nat.ne_of_lt (Nat.lt_of_lt_of_le (Vf877).lt y_b885)
 have ne_b834_b885 : b834 ≠ b885 := Nat.ne_of_lt (Nat.lt_of_lt_of_le (Ef878).lt y_b885)
 have g_b885 : n0 ≤ b885 := Nat.le_trans Z874 y_b885
 have sz_b885 : h0.size ≤ b885 := Nat.le_trans K874.1 y_b885
 have Z885 : n0 ≤ h885.size := Nat.le_trans Z874 K885q.1
 have K885 : Keep h0 h885 [] := K874.trans K885q (fun x hx => absurd hx List.not_mem_nil)
 have Ff886 : Fld Z h885 a0 own_CK "collection" "I" (.int cc) := (Ff875).keep K885q List.not_mem_nil
 have Ff887 : Fld Z h885 a0 own_CK "documentKey" "[B" (.ref r1) := (Ff876).keep K885q List.not_mem_nil
 have Vf888 : Arv Z h885 r1 k_r1 .byte (0 : Int32) [] (.int 0) := (Vf877).keep K885q List.not_mem_nil
 have Ef889 : Exa Z h885 b834 "[B" := (Ef878).keep K885q
 have Vf890 : Arv Z h885 b834 k834 .byte (5 : Int32) [(.int (own_m0 cc)), (.int (own_m1 cc)), (.int (own_m2 cc)), (.int (own_l3 cc)), (.int 0)] (.int 0) := (V874).keep K885q List.not_mem_nil
 have pre891 : own_P p e below T885 (mkF m 68 #[vR a0, vR b834, vI 4, vJ (own_u4 cc), .second, vI (own_g3 cc)] [(.ref b885)]) s₁ (entryFrame m #[(.ref a0)] 6) := fun t k => pre884 t (st885 t k)
 have pre892 : own_P p e below T885 (mkF m 71 #[vR a0, vR b834, vI 4, vJ (own_u4 cc), .second, vR b885] [(.ref a0)]) s₁ (entryFrame m #[(.ref a0)] 6) := by
  intro t k
  refine pre891 t ?_
  refine XS.astore X885.here hx rfl (hb hby d4_68) rfl rfl (l' := #[vR a0, vR b834, vI 4, vJ (own_u4 cc), .second, vR b885]) rfl ?_
  refine XS.aloadN X885.here hx rfl (hb hby d4_70) rfl rfl ?_
  exact k
 obtain ⟨T893, X893, e893, st893⟩ := getF X885 hx hZ hown (host := "") (Or.inl (own_w hw 17 rfl)) Via.refl e885 Ff887 (g := (mkF m 71 #[vR a0, vR b834, vI 4, vJ (own_u4 cc), .second, vR b885] [(.ref a0)])) rfl rfl (hb hby d4_71)
 have pre894 : own_P p e below T893 (mkF m 74 #[vR a0, vR b834, vI 4, vJ (own_u4 cc), .second, vR b885] [(.ref r1)]) s₁ (entryFrame m #[(.ref a0)] 6) := fun t k => pre892 t (st893 t k)
 have pre895 : own_P p e below T893 (mkF m 79 #[vR a0, vR b834, vI 4, vJ (own_u4 cc), .second, vR b885] [(.ref a0), (.int 4), (.ref b885), (.int 0), (.ref r1)]) s₁ (entryFrame m #[(.ref a0)] 6) := by
  intro t k
  refine pre894 t ?_
  refine XS.iconst X893.here hx rfl (hb hby d4_74) ?_
  refine XS.aload X893.here hx rfl (hb hby d4_75) rfl rfl ?_
  refine XS.iloadN X893.here hx rfl (hb hby d4_77) rfl ?_
  refine XS.aloadN X893.here hx rfl (hb hby d4_78) rfl rfl ?_
  exact k
 obtain ⟨T896, X896, e896, st896⟩ := getF X893 hx hZ hown (host := "") (Or.inl (own_w hw 17 rfl)) Via.refl e893 Ff887 (g := (mkF m 79 #[vR a0, vR b834, vI 4, vJ (own_u4 cc), .second, vR b885] [(.ref a0), (.int 4), (.ref b885), (.int 0), (.ref r1)])) rfl rfl (hb hby d4_79)
 have pre897 : own_P p e below T896 (mkF m 82 #[vR a0, vR b834, vI 4, vJ (own_u4 cc), .second, vR b885] [(.ref r1), (.int 4), (.ref b885), (.int 0), (.ref r1)]) s₁ (entryFrame m #[(.ref a0)] 6) := fun t k => pre895 t (st896 t k)
 obtain ⟨cl898, Ar898, q898, S898, M898, H898, G898⟩ := id Vf888
 have pre899 : own_P p e below T896 (mkF m 83 #[vR a0, vR b834, vI 4, vJ (own_u4 cc), .second, vR b885] [(.int 0), (.int 4), (.ref b885), (.int 0), (.ref r1)]) s₁ (entryFrame m #[(.ref a0)] 6) := by
  intro t k
  refine pre897 t ?_
  refine X896.arraylength hx (by rw [e896]; exact Ar898.1) (State.isArrayOf_alike hZ.alike Ar898.2.1) (g := (mkF m 82 #[vR a0, vR b834, vI 4, vJ (own_u4 cc), .second, vR b885] [(.ref r1), (.int 4), (.ref b885), (.int 0), (.ref r1)])) rfl rfl (hb hby d4_82) _ ?_
  rw [len_of S898 M898]
  exact k
 obtain ⟨T900, h900, L900, X900, e900, N900, K900q, V900q, st900⟩ := cpA X896 hx hZ hown (own_w hw 42 rfl) (own_w hw 41 rfl) (own_w hw 39 rfl) (own_w hw 40 rfl) e896 Vf888 Ob885_1 (Or.inl ⟨rfl, rfl⟩) (by decide) (by decide) (by decide) (by decide) (by decide) (us := []) rfl (Nat.le_of_ble_eq_true rfl) N885 g_b885 (g := (mkF m 83 #[vR a0, vR b834, vI 4, vJ (own_u4 cc), .second, vR b885] [(.int 0), (.int 4), (.ref b885), (.int 0), (.ref r1)])) rfl (by rw [hml]; rfl) rfl (hb hby d4_83) (by decide) (W := 0) (by show 2 * 0 + _ ≤ _; exact Nat.le_of_eq rfl) (by decide)
 have Z900 : n0 ≤ h900.size := Nat.le_trans Z885 K900q.1
 have K900 : Keep h0 h900 [] := K885.trans K900q (fun x hx => by cases List.mem_singleton.mp hx; exact Or.inr sz_b885)
 have Ff901 : Fld Z h900 a0 own_CK "collection" "I" (.int cc) := (Ff886).keep K900q (fun q => absurd (List.mem_singleton.mp q) ne_a0_b885)
 have Ff902 : Fld Z h900 a0 own_CK "documentKey" "[B" (.ref r1) := (Ff887).keep K900q (fun q => absurd (List.mem_singleton.mp q) ne_a0_b885)
 have Vf903 : Arv Z h900 r1 k_r1 .byte (0 : Int32) [] (.int 0) := (Vf888).keep K900q (fun q => absurd (List.mem_singleton.mp q) ne_r1_b885)
 have Ef904 : Exa Z h900 b834 "[B" := (Ef889).keep K900q
 have Vf905 : Arv Z h900 b834 k834 .byte (5 : Int32) [(.int (own_m0 cc)), (.int (own_m1 cc)), (.int (own_m2 cc)), (.int (own_l3 cc)), (.int 0)] (.int 0) := (Vf890).keep K900q (fun q => absurd (List.mem_singleton.mp q) ne_b834_b885)
 have Ef906 : Exa Z h900 b885 "[B" := (Ob885_0).keep K900q
 have V900 : Arv Z h900 b885 kb885 .byte (4 : Int32) [(.int (own_m0 cc)), (.int (own_m1 cc)), (.int (own_m2 cc)), (.int (own_l3 cc))] (.int 0) := V900q
 have pre907 : own_P p e below T900 (mkF m 86 #[vR a0, vR b834, vI 4, vJ (own_u4 cc), .second, vR b885] []) s₁ (entryFrame m #[(.ref a0)] 6) := fun t k => pre899 t (st900 t k)
 obtain ⟨fs, hr, hrun, hended, hW, hsame⟩ := X900.leave (v := some (.ref b885)) (fun h => by rw [Bd.returns] at h; cases h)
 refine ⟨_, _, pre907 _ ?_, hrun, hended, _, _, rfl, ?_, ⟨_, rfl⟩, hW, hsame.mono (by decide) (by decide)⟩
 ·
  refine XS.aload X900.here hx rfl (hb hby d4_86) rfl rfl ?_
  exact retOut X900 hx Bd.returns rfl (Or.inr (Or.inr (Or.inr (Or.inr ⟨rfl, rfl, rfl⟩)))) (hb hby d4_88) hr
 ·
  show Q4_4_0 Z a0 cc r1 k_r1 h0 n0 _ T900.heap _
  rw [e900]
  exact ⟨b885, kb885, rfl, N900, K900, sz_b885, Ef906, V900⟩
def Q4_4_1 (Z : State) (a0 : Addr) (cc : Int32) (r1 : Addr) (k_r1 : ClassId) (y0 : Int32) (h0 : Heap) (n0 : Nat) (v : Option Value) (h : Heap) (L : List Loc) : Prop := ∃ (b : Addr) (k_b : ClassId), v = some (.ref b) ∧ Fr n0 L ∧ Keep h0 h [] ∧ h0.size ≤ b ∧ Exa Z h b "[B" ∧ Arv Z h b k_b .byte (5 : Int32) [(.int (own_m0 cc)), (.int (own_m1 cc)), (.int (own_m2 cc)), (.int (own_l3 cc)), (.int y0)] (.int 0)
set_option maxRecDepth 65536 in
set_option maxHeartbeats 40000000 in
theorem rm4_4_1 (l : Launch) (Z : State) (ar0 : Array Value) (hw : ∀ d ∈ tables_1, d.before ar0 Z = true) (ws : List Jvm.Cond) (a0 : Addr) (cc : Int32) (r1 : Addr) (k_r1 : ClassId) (y0 : Int32) (h0 : Heap) (n0 : Nat) (Z0 : n0 ≤ h0.size) (F_collection_a0 : Fld Z h0 a0 own_CK "collection" "I" (.int cc)) (F_documentKey_a0 : Fld Z h0 a0 own_CK "documentKey" "[B" (.ref r1)) (V_r1 : Arv Z h0 r1 k_r1 .byte (1 : Int32) [(.int y0)] (.int 0)) (hz1 : ¬ ((own_u1 cc) = (0 : Int64))) (hz2 : ¬ ((own_u2 cc) = (0 : Int64))) (hz3 : ¬ ((own_u3 cc) = (0 : Int64))) (hz4 : (own_u4 cc) = (0 : Int64)) :
  MetFree l (⟨own_CK, "write", "()[B"⟩ : MethodName) (head1 (Jvm.Cond.code (⟨own_CK, "write", "()[B"⟩ : MethodName) prog_8_method_3_code 6 (some (.array .byte)) :: ws) ({ frames := 2, cells := 2, slots := 10, locals := 28 } : Room)) (fun a U => a = #[(.ref a0)] ∧ Z.Warmed39 U.vm ∧ U.heap = h0) (fun _ _ _ _ _ => True) (fun _ U o U' => ∃ v L, o = .returned v ∧ Q4_4_1 Z a0 cc r1 k_r1 y0 h0 n0 v U'.heap L ∧ FrameEnd U o U' L ({ frames := 2, cells := 2, slots := 10, locals := 28 } : Room).cells ({ frames := 2, cells := 2, slots := 10, locals := 28 } : Room).slots) := by
 refine MetFree.of_bodySF (plainFor_of_name pn_1) hisR ?_
 intro p e s m args below meth c s₁ Bd hml0 hP hK
 obtain ⟨rfl, hZ, hh⟩ := hP
 have hx := Bd.exec
 have hby := Bd.bytes
 have hml : c.maxLocals = 6 := hml0
 have hown : s.vm.findClass own_CK = some m.cls := by have q := findClass_of_methodNamed Bd.named; exact q
 have hnm := (name_of_methodNamed Bd.named Bd.method).1
 have X0 : Stand p l e ({ frames := 2, cells := 2, slots := 10, locals := 28 } : Room) s m #[(.ref a0)] below meth c s₁ [] 0 0 := Stand.of_body Bd
 have e0 : s₁.heap = h0 := by rw [← hh, Bd.state]; rfl
 have N0 := Fr.nil n0
 have pre0 : own_P p e below s₁ (mkF m 0 #[vR a0, .unset, .unset, .unset, .unset, .unset] []) s₁ (entryFrame m #[(.ref a0)] 6) := fun t k => castTop (ef_4 m a0) k
 have pre908 : own_P p e below s₁ (mkF m 1 #[vR a0, .unset, .unset, .unset, .unset, .unset] [(.int 5)]) s₁ (entryFrame m #[(.ref a0)] 6) := by
  intro t k
  refine pre0 t ?_
  refine XS.iconst X0.here hx rfl (hb hby d4_0) ?_
  exact k
 obtain ⟨T909, h909, k909, X909, e909, E909, A909, C909, st909⟩ := newPE X0 hx hZ (own_w hw 0 rfl) e0 (g := (mkF m 1 #[vR a0, .unset, .unset, .unset, .unset, .unset] [(.int 5)])) rfl (hb hby d4_1) rfl (by decide) (cap := 5) (by decide) (by decide) (by decide) (by decide) (ad := "[B") rfl
 obtain ⟨b909, g909⟩ : ∃ z, z = h0.size := ⟨_, rfl⟩
 rw [← g909] at A909 C909 st909
 have ne_a0_b909 : a0 ≠ b909 := Nat.ne_of_lt (Nat.lt_of_lt_of_le (F_collection_a0).lt (Nat.le_of_eq g909.symm))
 have ne_r1_b909 : r1 ≠ b909 := Nat.ne_of_lt (Nat.lt_of_lt_of_le (V_r1).lt (Nat.le_of_eq g909.symm))
 have g_b909 : n0 ≤ b909 := Nat.le_trans Z0 (Nat.le_of_eq g909.symm)
 have sz_b909 : h0.size ≤ b909 := Nat.le_trans (Keep.refl h0 []).1 (Nat.le_of_eq g909.symm)
 have Z909 : n0 ≤ h909.size := Nat.le_trans Z0 E909.1
 have K909 : Keep h0 h909 [] := (Keep.refl h0 []).ext E909
 have Ff910 : Fld Z h909 a0 own_CK "collection" "I" (.int cc) := (F_collection_a0).ext E909
 have Ff911 : Fld Z h909 a0 own_CK "documentKey" "[B" (.ref r1) := (F_documentKey_a0).ext E909
 have Vf912 : Arv Z h909 r1 k_r1 .byte (1 : Int32) [(.int y0)] (.int 0) := (V_r1).ext E909
 have V_b909 : Arv Z h909 b909 k909 .byte (5 : Int32) [(.int 0), (.int 0), (.int 0), (.int 0), (.int 0)] (.int 0) := (Arv.new A909 (by decide)).pad (pad_rep [] (.int 0) 5)
 have pre913 : own_P p e below T909 (mkF m 3 #[vR a0, .unset, .unset, .unset, .unset, .unset] [(.ref b909)]) s₁ (entryFrame m #[(.ref a0)] 6) := fun t k => pre908 t (st909 t k)
 have pre914 : own_P p e below T909 (mkF m 7 #[vR a0, vR b909, vI 0, .unset, .unset, .unset] [(.ref a0)]) s₁ (entryFrame m #[(.ref a0)] 6) := by
  intro t k
  refine pre913 t ?_
  refine XS.astoreN X909.here hx rfl (hb hby d4_3) rfl rfl (l' := #[vR a0, vR b909, .unset, .unset, .unset, .unset]) rfl ?_
  refine XS.iconst X909.here hx rfl (hb hby d4_4) ?_
  refine XS.istoreN X909.here hx rfl (hb hby d4_5) rfl (l' := #[vR a0, vR b909, vI 0, .unset, .unset, .unset]) rfl ?_
  refine XS.aloadN X909.here hx rfl (hb hby d4_6) rfl rfl ?_
  exact k
 obtain ⟨T915, X915, e915, st915⟩ := getF X909 hx hZ hown (host := "") (Or.inl (own_w hw 15 rfl)) Via.refl e909 Ff910 (g := (mkF m 7 #[vR a0, vR b909, vI 0, .unset, .unset, .unset] [(.ref a0)])) rfl rfl (hb hby d4_7)
 have pre916 : own_P p e below T915 (mkF m 10 #[vR a0, vR b909, vI 0, .unset, .unset, .unset] [(.int cc)]) s₁ (entryFrame m #[(.ref a0)] 6) := fun t k => pre914 t (st915 t k)
 obtain ⟨_, _, ⟨T917, L917, k917, n917⟩, -, X917, ⟨Lc917, hQ917, l917, y917, z917⟩, st917⟩ := Jvm.LawKit.callS X915 hx (y := (⟨"java/lang/Integer", "toUnsignedLong", "(I)J"⟩ : MethodName)) hown (mvT hZ (own_w hw 24 rfl)) (mvT hZ (own_w hw 25 rfl)) (mvT hZ (own_w hw 26 rfl)) (mvT hZ (own_w hw 27 rfl)) (by decide) (backOf (W := 0) (rm5 l Z ar0 hw [] cc h909 n0 Z909) hZ (own_w hw 27 rfl) (own_w hw 26 rfl) (by decide) (by decide)) (g := (mkF m 10 #[vR a0, vR b909, vI 0, .unset, .unset, .unset] [(.int cc)])) rfl (by rw [hml]; rfl) (argsL := [(.int cc)]) (rest := []) (lenOf pd_2 rfl) rfl (by show 2 * 0 + _ ≤ _; exact Nat.le_of_eq rfl) (hb hby d4_10) (fun _ _ => ⟨rfl, e915, (by decide : 1 + 0 ≤ _), (by decide : 5 + 0 ≤ _)⟩)
 dsimp only [Pt.U, Pt.locs, Pt.cells, Pt.slots] at X917 l917 y917 z917 st917 hQ917
 subst l917 y917 z917
 obtain ⟨rfl, N917q, e917⟩ := hQ917
 have N917 := Fr.app N0 N917q
 have pre918 : own_P p e below T917 (mkF m 13 #[vR a0, vR b909, vI 0, .unset, .unset, .unset] [(.long (own_u0 cc))]) s₁ (entryFrame m #[(.ref a0)] 6) := fun t k => pre916 t (st917 t k)
 have pre919 : own_P p e below T917 (mkF m 32 #[vR a0, vR b909, vI 0, vJ (own_u1 cc), .second, vI (own_g0 cc)] [(.int (lcmpW (own_u1 cc) (0 : Int64))), (.int 0), (.ref b909)]) s₁ (entryFrame m #[(.ref a0)] 6) := by
  intro t k
  refine pre918 t ?_
  refine XS.lstoreN X917.here hx rfl (hb hby d4_13) rfl (l' := #[vR a0, vR b909, vI 0, vJ (own_u0 cc), .second, .unset]) rfl ?_
  refine XS.lloadN X917.here hx rfl (hb hby d4_14) rfl ?_
  refine X917.ldc2Long hx hown (mvT hZ (own_w hw 29 rfl)) (g := (mkF m 15 #[vR a0, vR b909, vI 0, vJ (own_u0 cc), .second, .unset] [(.long (own_u0 cc))])) rfl (hb hby d4_15) _ ?_
  refine XS.land X917.here hx rfl (hb hby d4_18) rfl ?_
  refine XS.l2i X917.here hx rfl (hb hby d4_19) rfl ?_
  refine XS.istore X917.here hx rfl (hb hby d4_20) rfl (l' := #[vR a0, vR b909, vI 0, vJ (own_u0 cc), .second, vI (own_g0 cc)]) rfl ?_
  refine XS.lloadN X917.here hx rfl (hb hby d4_22) rfl ?_
  refine XS.bipush X917.here hx rfl (hb hby d4_23) ?_
  refine XS.lushr X917.here hx rfl (hb hby d4_25) rfl ?_
  refine XS.lstoreN X917.here hx rfl (hb hby d4_26) rfl (l' := #[vR a0, vR b909, vI 0, vJ (own_u1 cc), .second, vI (own_g0 cc)]) rfl ?_
  refine XS.aloadN X917.here hx rfl (hb hby d4_27) rfl rfl ?_
  refine XS.iloadN X917.here hx rfl (hb hby d4_28) rfl ?_
  refine XS.lloadN X917.here hx rfl (hb hby d4_29) rfl ?_
  refine XS.lconst X917.here hx rfl (hb hby d4_30) ?_
  refine XS.lcmp X917.here hx rfl (hb hby d4_31) rfl ?_
  exact k
 have hk920 : ¬ ((own_u1 cc) = (0 : Int64)) := hz1
 have pre921 : own_P p e below T917 (mkF m 47 #[vR a0, vR b909, vI 0, vJ (own_u1 cc), .second, vI (own_g0 cc)] [(.int (((own_g0 cc) ||| (128 : Int32)).toInt8.toInt32)), (.int 0), (.ref b909)]) s₁ (entryFrame m #[(.ref a0)] 6) := by
  intro t k
  refine pre919 t ?_
  refine XS.ifYes X917.here hx rfl (pc0 := 32) (pc' := 40) rfl (hb hby d4_32) rfl ((if0 _ _).trans (feq (own_neL hk920)).2) (by decide) (by decide) ?_
  refine XS.iload X917.here hx rfl (hb hby d4_40) rfl ?_
  refine XS.sipush X917.here hx rfl (hb hby d4_42) ?_
  refine XS.ior X917.here hx rfl (hb hby d4_45) rfl ?_
  refine XS.i2b X917.here hx rfl (hb hby d4_46) rfl ?_
  exact k
 obtain ⟨cl922, Ar922, q922, S922, M922, H922, G922⟩ := id V_b909
 have hin922 : ¬ ((0 : Int32) < 0 ∨ cl922.slots.size ≤ ((0 : Int32)).toNatClampNeg) := inb_of S922 ⟨by decide, by decide⟩
 obtain ⟨T922, h922, X922, e922, W922, st922⟩ := stB X917 hx hZ e917 Ar922 (j := (0 : Int32)) hin922 (g := (mkF m 47 #[vR a0, vR b909, vI 0, vJ (own_u1 cc), .second, vI (own_g0 cc)] [(.int (((own_g0 cc) ||| (128 : Int32)).toInt8.toInt32)), (.int 0), (.ref b909)])) rfl rfl (hb hby d4_47)
 have Z922 : n0 ≤ h922.size := Nat.le_trans Z909 (Keep.of_wr W922).1
 have K922 : Keep h0 h922 [] := K909.wr W922 (Or.inr sz_b909)
 have N922 := Fr.snoc X922 N917 g_b909
 have Ff923 : Fld Z h922 a0 own_CK "collection" "I" (.int cc) := (Ff910).other W922 (Or.inl ne_a0_b909)
 have Ff924 : Fld Z h922 a0 own_CK "documentKey" "[B" (.ref r1) := (Ff911).other W922 (Or.inl ne_a0_b909)
 have Vf925 : Arv Z h922 r1 k_r1 .byte (1 : Int32) [(.int y0)] (.int 0) := (Vf912).other W922 ne_r1_b909
 have Ef926 : Exa Z h922 b909 "[B" := (C909).wr W922
 have V922 : Arv Z h922 b909 k909 .byte (5 : Int32) [(.int (own_m0 cc)), (.int 0), (.int 0), (.int 0), (.int 0)] (.int 0) := Arv.set Ar922 q922 S922 M922 H922 G922 (fits_nar_byte _) W922 0 rfl (Nat.le_of_ble_eq_true rfl)
 have pre927 : own_P p e below T922 (mkF m 48 #[vR a0, vR b909, vI 0, vJ (own_u1 cc), .second, vI (own_g0 cc)] []) s₁ (entryFrame m #[(.ref a0)] 6) := fun t k => pre921 t (st922 t k)
 have pre928 : own_P p e below T922 (mkF m 32 #[vR a0, vR b909, vI 1, vJ (own_u2 cc), .second, vI (own_g1 cc)] [(.int (lcmpW (own_u2 cc) (0 : Int64))), (.int 1), (.ref b909)]) s₁ (entryFrame m #[(.ref a0)] 6) := by
  intro t k
  refine pre927 t ?_
  refine XS.iinc X922.here hx rfl (hb hby d4_48) rfl (l' := #[vR a0, vR b909, vI 1, vJ (own_u1 cc), .second, vI (own_g0 cc)]) rfl ?_
  refine XS.lloadN X922.here hx rfl (hb hby d4_51) rfl ?_
  refine XS.lconst X922.here hx rfl (hb hby d4_52) ?_
  refine XS.lcmp X922.here hx rfl (hb hby d4_53) rfl ?_
  refine XS.ifYes X922.here hx rfl (pc0 := 54) (pc' := 14) rfl (hb hby d4_54) rfl ((if0 _ _).trans (feq (own_neL hk920)).2) (by decide) (by decide) ?_
  refine XS.lloadN X922.here hx rfl (hb hby d4_14) rfl ?_
  refine X922.ldc2Long hx hown (mvT hZ (own_w hw 29 rfl)) (g := (mkF m 15 #[vR a0, vR b909, vI 1, vJ (own_u1 cc), .second, vI (own_g0 cc)] [(.long (own_u1 cc))])) rfl (hb hby d4_15) _ ?_
  refine XS.land X922.here hx rfl (hb hby d4_18) rfl ?_
  refine XS.l2i X922.here hx rfl (hb hby d4_19) rfl ?_
  refine XS.istore X922.here hx rfl (hb hby d4_20) rfl (l' := #[vR a0, vR b909, vI 1, vJ (own_u1 cc), .second, vI (own_g1 cc)]) rfl ?_
  refine XS.lloadN X922.here hx rfl (hb hby d4_22) rfl ?_
  refine XS.bipush X922.here hx rfl (hb hby d4_23) ?_
  refine XS.lushr X922.here hx rfl (hb hby d4_25) rfl ?_
  refine XS.lstoreN X922.here hx rfl (hb hby d4_26) rfl (l' := #[vR a0, vR b909, vI 1, vJ (own_u2 cc), .second, vI (own_g1 cc)]) rfl ?_
  refine XS.aloadN X922.here hx rfl (hb hby d4_27) rfl rfl ?_
  refine XS.iloadN X922.here hx rfl (hb hby d4_28) rfl ?_
  refine XS.lloadN X922.here hx rfl (hb hby d4_29) rfl ?_
  refine XS.lconst X922.here hx rfl (hb hby d4_30) ?_
  refine XS.lcmp X922.here hx rfl (hb hby d4_31) rfl ?_
  exact k
 have hk929 : ¬ ((own_u2 cc) = (0 : Int64)) := hz2
 have pre930 : own_P p e below T922 (mkF m 47 #[vR a0, vR b909, vI 1, vJ (own_u2 cc), .second, vI (own_g1 cc)] [(.int (((own_g1 cc) ||| (128 : Int32)).toInt8.toInt32)), (.int 1), (.ref b909)]) s₁ (entryFrame m #[(.ref a0)] 6) := by
  intro t k
  refine pre928 t ?_
  refine XS.ifYes X922.here hx rfl (pc0 := 32) (pc' := 40) rfl (hb hby d4_32) rfl ((if0 _ _).trans (feq (own_neL hk929)).2) (by decide) (by decide) ?_
  refine XS.iload X922.here hx rfl (hb hby d4_40) rfl ?_
  refine XS.sipush X922.here hx rfl (hb hby d4_42) ?_
  refine XS.ior X922.here hx rfl (hb hby d4_45) rfl ?_
  refine XS.i2b X922.here hx rfl (hb hby d4_46) rfl ?_
  exact k
 obtain ⟨cl931, Ar931, q931, S931, M931, H931, G931⟩ := id V922
 have hin931 : ¬ ((1 : Int32) < 0 ∨ cl931.slots.size ≤ ((1 : Int32)).toNatClampNeg) := inb_of S931 ⟨by decide, by decide⟩
 obtain ⟨T931, h931, X931, e931, W931, st931⟩ := stB X922 hx hZ e922 Ar931 (j := (1 : Int32)) hin931 (g := (mkF m 47 #[vR a0, vR b909, vI 1, vJ (own_u2 cc), .second, vI (own_g1 cc)] [(.int (((own_g1 cc) ||| (128 : Int32)).toInt8.toInt32)), (.int 1), (.ref b909)])) rfl rfl (hb hby d4_47)
 have Z931 : n0 ≤ h931.size := Nat.le_trans Z922 (Keep.of_wr W931).1
 have K931 : Keep h0 h931 [] := K922.wr W931 (Or.inr sz_b909)
 have N931 := Fr.snoc X931 N922 g_b909
 have Ff932 : Fld Z h931 a0 own_CK "collection" "I" (.int cc) := (Ff923).other W931 (Or.inl ne_a0_b909)
 have Ff933 : Fld Z h931 a0 own_CK "documentKey" "[B" (.ref r1) := (Ff924).other W931 (Or.inl ne_a0_b909)
 have Vf934 : Arv Z h931 r1 k_r1 .byte (1 : Int32) [(.int y0)] (.int 0) := (Vf925).other W931 ne_r1_b909
 have Ef935 : Exa Z h931 b909 "[B" := (Ef926).wr W931
 have V931 : Arv Z h931 b909 k909 .byte (5 : Int32) [(.int (own_m0 cc)), (.int (own_m1 cc)), (.int 0), (.int 0), (.int 0)] (.int 0) := Arv.set Ar931 q931 S931 M931 H931 G931 (fits_nar_byte _) W931 1 rfl (Nat.le_of_ble_eq_true rfl)
 have pre936 : own_P p e below T931 (mkF m 48 #[vR a0, vR b909, vI 1, vJ (own_u2 cc), .second, vI (own_g1 cc)] []) s₁ (entryFrame m #[(.ref a0)] 6) := fun t k => pre930 t (st931 t k)
 have pre937 : own_P p e below T931 (mkF m 32 #[vR a0, vR b909, vI 2, vJ (own_u3 cc), .second, vI (own_g2 cc)] [(.int (lcmpW (own_u3 cc) (0 : Int64))), (.int 2), (.ref b909)]) s₁ (entryFrame m #[(.ref a0)] 6) := by
  intro t k
  refine pre936 t ?_
  refine XS.iinc X931.here hx rfl (hb hby d4_48) rfl (l' := #[vR a0, vR b909, vI 2, vJ (own_u2 cc), .second, vI (own_g1 cc)]) rfl ?_
  refine XS.lloadN X931.here hx rfl (hb hby d4_51) rfl ?_
  refine XS.lconst X931.here hx rfl (hb hby d4_52) ?_
  refine XS.lcmp X931.here hx rfl (hb hby d4_53) rfl ?_
  refine XS.ifYes X931.here hx rfl (pc0 := 54) (pc' := 14) rfl (hb hby d4_54) rfl ((if0 _ _).trans (feq (own_neL hk929)).2) (by decide) (by decide) ?_
  refine XS.lloadN X931.here hx rfl (hb hby d4_14) rfl ?_
  refine X931.ldc2Long hx hown (mvT hZ (own_w hw 29 rfl)) (g := (mkF m 15 #[vR a0, vR b909, vI 2, vJ (own_u2 cc), .second, vI (own_g1 cc)] [(.long (own_u2 cc))])) rfl (hb hby d4_15) _ ?_
  refine XS.land X931.here hx rfl (hb hby d4_18) rfl ?_
  refine XS.l2i X931.here hx rfl (hb hby d4_19) rfl ?_
  refine XS.istore X931.here hx rfl (hb hby d4_20) rfl (l' := #[vR a0, vR b909, vI 2, vJ (own_u2 cc), .second, vI (own_g2 cc)]) rfl ?_
  refine XS.lloadN X931.here hx rfl (hb hby d4_22) rfl ?_
  refine XS.bipush X931.here hx rfl (hb hby d4_23) ?_
  refine XS.lushr X931.here hx rfl (hb hby d4_25) rfl ?_
  refine XS.lstoreN X931.here hx rfl (hb hby d4_26) rfl (l' := #[vR a0, vR b909, vI 2, vJ (own_u3 cc), .second, vI (own_g2 cc)]) rfl ?_
  refine XS.aloadN X931.here hx rfl (hb hby d4_27) rfl rfl ?_
  refine XS.iloadN X931.here hx rfl (hb hby d4_28) rfl ?_
  refine XS.lloadN X931.here hx rfl (hb hby d4_29) rfl ?_
  refine XS.lconst X931.here hx rfl (hb hby d4_30) ?_
  refine XS.lcmp X931.here hx rfl (hb hby d4_31) rfl ?_
  exact k
 have hk938 : ¬ ((own_u3 cc) = (0 : Int64)) := hz3
 have pre939 : own_P p e below T931 (mkF m 47 #[vR a0, vR b909, vI 2, vJ (own_u3 cc), .second, vI (own_g2 cc)] [(.int (((own_g2 cc) ||| (128 : Int32)).toInt8.toInt32)), (.int 2), (.ref b909)]) s₁ (entryFrame m #[(.ref a0)] 6) := by
  intro t k
  refine pre937 t ?_
  refine XS.ifYes X931.here hx rfl (pc0 := 32) (pc' := 40) rfl (hb hby d4_32) rfl ((if0 _ _).trans (feq (own_neL hk938)).2) (by decide) (by decide) ?_
  refine XS.iload X931.here hx rfl (hb hby d4_40) rfl ?_
  refine XS.sipush X931.here hx rfl (hb hby d4_42) ?_
  refine XS.ior X931.here hx rfl (hb hby d4_45) rfl ?_
  refine XS.i2b X931.here hx rfl (hb hby d4_46) rfl ?_
  exact k
 obtain ⟨cl940, Ar940, q940, S940, M940, H940, G940⟩ := id V931
 have hin940 : ¬ ((2 : Int32) < 0 ∨ cl940.slots.size ≤ ((2 : Int32)).toNatClampNeg) := inb_of S940 ⟨by decide, by decide⟩
 obtain ⟨T940, h940, X940, e940, W940, st940⟩ := stB X931 hx hZ e931 Ar940 (j := (2 : Int32)) hin940 (g := (mkF m 47 #[vR a0, vR b909, vI 2, vJ (own_u3 cc), .second, vI (own_g2 cc)] [(.int (((own_g2 cc) ||| (128 : Int32)).toInt8.toInt32)), (.int 2), (.ref b909)])) rfl rfl (hb hby d4_47)
 have Z940 : n0 ≤ h940.size := Nat.le_trans Z931 (Keep.of_wr W940).1
 have K940 : Keep h0 h940 [] := K931.wr W940 (Or.inr sz_b909)
 have N940 := Fr.snoc X940 N931 g_b909
 have Ff941 : Fld Z h940 a0 own_CK "collection" "I" (.int cc) := (Ff932).other W940 (Or.inl ne_a0_b909)
 have Ff942 : Fld Z h940 a0 own_CK "documentKey" "[B" (.ref r1) := (Ff933).other W940 (Or.inl ne_a0_b909)
 have Vf943 : Arv Z h940 r1 k_r1 .byte (1 : Int32) [(.int y0)] (.int 0) := (Vf934).other W940 ne_r1_b909
 have Ef944 : Exa Z h940 b909 "[B" := (Ef935).wr W940
 have V940 : Arv Z h940 b909 k909 .byte (5 : Int32) [(.int (own_m0 cc)), (.int (own_m1 cc)), (.int (own_m2 cc)), (.int 0), (.int 0)] (.int 0) := Arv.set Ar940 q940 S940 M940 H940 G940 (fits_nar_byte _) W940 2 rfl (Nat.le_of_ble_eq_true rfl)
 have pre945 : own_P p e below T940 (mkF m 48 #[vR a0, vR b909, vI 2, vJ (own_u3 cc), .second, vI (own_g2 cc)] []) s₁ (entryFrame m #[(.ref a0)] 6) := fun t k => pre939 t (st940 t k)
 have pre946 : own_P p e below T940 (mkF m 32 #[vR a0, vR b909, vI 3, vJ (own_u4 cc), .second, vI (own_g3 cc)] [(.int (lcmpW (own_u4 cc) (0 : Int64))), (.int 3), (.ref b909)]) s₁ (entryFrame m #[(.ref a0)] 6) := by
  intro t k
  refine pre945 t ?_
  refine XS.iinc X940.here hx rfl (hb hby d4_48) rfl (l' := #[vR a0, vR b909, vI 3, vJ (own_u3 cc), .second, vI (own_g2 cc)]) rfl ?_
  refine XS.lloadN X940.here hx rfl (hb hby d4_51) rfl ?_
  refine XS.lconst X940.here hx rfl (hb hby d4_52) ?_
  refine XS.lcmp X940.here hx rfl (hb hby d4_53) rfl ?_
  refine XS.ifYes X940.here hx rfl (pc0 := 54) (pc' := 14) rfl (hb hby d4_54) rfl ((if0 _ _).trans (feq (own_neL hk938)).2) (by decide) (by decide) ?_
  refine XS.lloadN X940.here hx rfl (hb hby d4_14) rfl ?_
  refine X940.ldc2Long hx hown (mvT hZ (own_w hw 29 rfl)) (g := (mkF m 15 #[vR a0, vR b909, vI 3, vJ (own_u3 cc), .second, vI (own_g2 cc)] [(.long (own_u3 cc))])) rfl (hb hby d4_15) _ ?_
  refine XS.land X940.here hx rfl (hb hby d4_18) rfl ?_
  refine XS.l2i X940.here hx rfl (hb hby d4_19) rfl ?_
  refine XS.istore X940.here hx rfl (hb hby d4_20) rfl (l' := #[vR a0, vR b909, vI 3, vJ (own_u3 cc), .second, vI (own_g3 cc)]) rfl ?_
  refine XS.lloadN X940.here hx rfl (hb hby d4_22) rfl ?_
  refine XS.bipush X940.here hx rfl (hb hby d4_23) ?_
  refine XS.lushr X940.here hx rfl (hb hby d4_25) rfl ?_
  refine XS.lstoreN X940.here hx rfl (hb hby d4_26) rfl (l' := #[vR a0, vR b909, vI 3, vJ (own_u4 cc), .second, vI (own_g3 cc)]) rfl ?_
  refine XS.aloadN X940.here hx rfl (hb hby d4_27) rfl rfl ?_
  refine XS.iloadN X940.here hx rfl (hb hby d4_28) rfl ?_
  refine XS.lloadN X940.here hx rfl (hb hby d4_29) rfl ?_
  refine XS.lconst X940.here hx rfl (hb hby d4_30) ?_
  refine XS.lcmp X940.here hx rfl (hb hby d4_31) rfl ?_
  exact k
 have hk947 : (own_u4 cc) = (0 : Int64) := hz4
 have pre948 : own_P p e below T940 (mkF m 47 #[vR a0, vR b909, vI 3, vJ (own_u4 cc), .second, vI (own_g3 cc)] [(.int ((own_g3 cc).toInt8.toInt32)), (.int 3), (.ref b909)]) s₁ (entryFrame m #[(.ref a0)] 6) := by
  intro t k
  refine pre946 t ?_
  refine XS.ifNo X940.here hx rfl (hb hby d4_32) rfl ((if0 _ _).trans (teq (own_eqL hk947)).2) ?_
  refine XS.iload X940.here hx rfl (hb hby d4_35) rfl ?_
  refine XS.goto X940.here hx rfl (pc0 := 37) (pc' := 46) rfl (hb hby d4_37) (by decide) (by decide) ?_
  refine XS.i2b X940.here hx rfl (hb hby d4_46) rfl ?_
  exact k
 obtain ⟨cl949, Ar949, q949, S949, M949, H949, G949⟩ := id V940
 have hin949 : ¬ ((3 : Int32) < 0 ∨ cl949.slots.size ≤ ((3 : Int32)).toNatClampNeg) := inb_of S949 ⟨by decide, by decide⟩
 obtain ⟨T949, h949, X949, e949, W949, st949⟩ := stB X940 hx hZ e940 Ar949 (j := (3 : Int32)) hin949 (g := (mkF m 47 #[vR a0, vR b909, vI 3, vJ (own_u4 cc), .second, vI (own_g3 cc)] [(.int ((own_g3 cc).toInt8.toInt32)), (.int 3), (.ref b909)])) rfl rfl (hb hby d4_47)
 have Z949 : n0 ≤ h949.size := Nat.le_trans Z940 (Keep.of_wr W949).1
 have K949 : Keep h0 h949 [] := K940.wr W949 (Or.inr sz_b909)
 have N949 := Fr.snoc X949 N940 g_b909
 have Ff950 : Fld Z h949 a0 own_CK "collection" "I" (.int cc) := (Ff941).other W949 (Or.inl ne_a0_b909)
 have Ff951 : Fld Z h949 a0 own_CK "documentKey" "[B" (.ref r1) := (Ff942).other W949 (Or.inl ne_a0_b909)
 have Vf952 : Arv Z h949 r1 k_r1 .byte (1 : Int32) [(.int y0)] (.int 0) := (Vf943).other W949 ne_r1_b909
 have Ef953 : Exa Z h949 b909 "[B" := (Ef944).wr W949
 have V949 : Arv Z h949 b909 k909 .byte (5 : Int32) [(.int (own_m0 cc)), (.int (own_m1 cc)), (.int (own_m2 cc)), (.int (own_l3 cc)), (.int 0)] (.int 0) := Arv.set Ar949 q949 S949 M949 H949 G949 (fits_nar_byte _) W949 3 rfl (Nat.le_of_ble_eq_true rfl)
 have pre954 : own_P p e below T949 (mkF m 48 #[vR a0, vR b909, vI 3, vJ (own_u4 cc), .second, vI (own_g3 cc)] []) s₁ (entryFrame m #[(.ref a0)] 6) := fun t k => pre948 t (st949 t k)
 have pre955 : own_P p e below T949 (mkF m 60 #[vR a0, vR b909, vI 4, vJ (own_u4 cc), .second, vI (own_g3 cc)] [(.ref a0), (.int 4), (.ref b909)]) s₁ (entryFrame m #[(.ref a0)] 6) := by
  intro t k
  refine pre954 t ?_
  refine XS.iinc X949.here hx rfl (hb hby d4_48) rfl (l' := #[vR a0, vR b909, vI 4, vJ (own_u4 cc), .second, vI (own_g3 cc)]) rfl ?_
  refine XS.lloadN X949.here hx rfl (hb hby d4_51) rfl ?_
  refine XS.lconst X949.here hx rfl (hb hby d4_52) ?_
  refine XS.lcmp X949.here hx rfl (hb hby d4_53) rfl ?_
  refine XS.ifNo X949.here hx rfl (hb hby d4_54) rfl ((if0 _ _).trans (teq (own_eqL hk947)).2) ?_
  refine XS.aloadN X949.here hx rfl (hb hby d4_57) rfl rfl ?_
  refine XS.iloadN X949.here hx rfl (hb hby d4_58) rfl ?_
  refine XS.aloadN X949.here hx rfl (hb hby d4_59) rfl rfl ?_
  exact k
 obtain ⟨T956, X956, e956, st956⟩ := getF X949 hx hZ hown (host := "") (Or.inl (own_w hw 17 rfl)) Via.refl e949 Ff951 (g := (mkF m 60 #[vR a0, vR b909, vI 4, vJ (own_u4 cc), .second, vI (own_g3 cc)] [(.ref a0), (.int 4), (.ref b909)])) rfl rfl (hb hby d4_60)
 have pre957 : own_P p e below T956 (mkF m 63 #[vR a0, vR b909, vI 4, vJ (own_u4 cc), .second, vI (own_g3 cc)] [(.ref r1), (.int 4), (.ref b909)]) s₁ (entryFrame m #[(.ref a0)] 6) := fun t k => pre955 t (st956 t k)
 obtain ⟨cl958, Ar958, q958, S958, M958, H958, G958⟩ := id Vf952
 have pre959 : own_P p e below T956 (mkF m 65 #[vR a0, vR b909, vI 4, vJ (own_u4 cc), .second, vI (own_g3 cc)] [(.int 5), (.ref b909)]) s₁ (entryFrame m #[(.ref a0)] 6) := by
  intro t k
  refine pre957 t ?_
  refine X956.arraylength hx (by rw [e956]; exact Ar958.1) (State.isArrayOf_alike hZ.alike Ar958.2.1) (g := (mkF m 63 #[vR a0, vR b909, vI 4, vJ (own_u4 cc), .second, vI (own_g3 cc)] [(.ref r1), (.int 4), (.ref b909)])) rfl rfl (hb hby d4_63) _ ?_
  rw [len_of S958 M958]
  refine XS.iadd X956.here hx rfl (hb hby d4_64) rfl ?_
  exact k
 obtain ⟨_, _, ⟨T960, L960, k960, n960⟩, -, X960, ⟨Lc960, hQ960, l960, y960, z960⟩, st960⟩ := Jvm.LawKit.callS X956 hx (y := (⟨"java/util/Arrays", "copyOf", "([BI)[B"⟩ : MethodName)) hown (mvT hZ (own_w hw 30 rfl)) (mvT hZ (own_w hw 31 rfl)) (mvT hZ (own_w hw 32 rfl)) (mvT hZ (own_w hw 33 rfl)) (by decide) (backOf (W := 0) (rm6_5 l Z ar0 hw [] b909 k909 (own_m0 cc) (own_m1 cc) (own_m2 cc) (own_l3 cc) (0 : Int32) h949 n0 Z949 V949 Ef953) hZ (own_w hw 33 rfl) (own_w hw 32 rfl) (by decide) (by decide)) (g := (mkF m 65 #[vR a0, vR b909, vI 4, vJ (own_u4 cc), .second, vI (own_g3 cc)] [(.int 5), (.ref b909)])) rfl (by rw [hml]; rfl) (argsL := [(.ref b909), (.int 5)]) (rest := []) (lenOf pd_3 rfl) rfl (by show 2 * 0 + _ ≤ _; exact Nat.le_of_eq rfl) (hb hby d4_65) (fun _ _ => ⟨rfl, e956, (by decide : 1 + 1 ≤ _), (by decide : 5 + 5 ≤ _)⟩)
 dsimp only [Pt.U, Pt.locs, Pt.cells, Pt.slots] at X960 l960 y960 z960 st960 hQ960
 subst l960 y960 z960
 obtain ⟨h960, e960⟩ : ∃ h, T960.heap = h := ⟨_, rfl⟩
 rw [e960] at hQ960
 obtain ⟨b960, kb960, rfl, N960q, K960q, y_b960, Ob960_0, Ob960_1⟩ := hQ960
 have N960 := Fr.app N949 N960q
 have ne_a0_b960 : a0 ≠ b960 := Nat.ne_of_lt (Nat.lt_of_lt_of_le (Ff950).lt y_b960)
 have ne_r1_b960 : r1 ≠ b960 := Nat.ne_of_lt (Nat.lt_of_lt_of_le (Vf952).lt y_b960)
 have ne_b909_b960 : b909 ≠ b960 := Nat.ne_of_lt (Nat.lt_of_lt_of_le (Ef953).lt y_b960)
 have g_b960 : n0 ≤ b960 := Nat.le_trans Z949 y_b960
 have sz_b960 : h0.size ≤ b960 := Nat.le_trans K949.1 y_b960
 have Z960 : n0 ≤ h960.size := Nat.le_trans Z949 K960q.1
 have K960 : Keep h0 h960 [] := K949.trans K960q (fun x hx => absurd hx List.not_mem_nil)
 have Ff961 : Fld Z h960 a0 own_CK "collection" "I" (.int cc) := (Ff950).keep K960q List.not_mem_nil
 have Ff962 : Fld Z h960 a0 own_CK "documentKey" "[B" (.ref r1) := (Ff951).keep K960q List.not_mem_nil
 have Vf963 : Arv Z h960 r1 k_r1 .byte (1 : Int32) [(.int y0)] (.int 0) := (Vf952).keep K960q List.not_mem_nil
 have Ef964 : Exa Z h960 b909 "[B" := (Ef953).keep K960q
 have Vf965 : Arv Z h960 b909 k909 .byte (5 : Int32) [(.int (own_m0 cc)), (.int (own_m1 cc)), (.int (own_m2 cc)), (.int (own_l3 cc)), (.int 0)] (.int 0) := (V949).keep K960q List.not_mem_nil
 have pre966 : own_P p e below T960 (mkF m 68 #[vR a0, vR b909, vI 4, vJ (own_u4 cc), .second, vI (own_g3 cc)] [(.ref b960)]) s₁ (entryFrame m #[(.ref a0)] 6) := fun t k => pre959 t (st960 t k)
 have pre967 : own_P p e below T960 (mkF m 71 #[vR a0, vR b909, vI 4, vJ (own_u4 cc), .second, vR b960] [(.ref a0)]) s₁ (entryFrame m #[(.ref a0)] 6) := by
  intro t k
  refine pre966 t ?_
  refine XS.astore X960.here hx rfl (hb hby d4_68) rfl rfl (l' := #[vR a0, vR b909, vI 4, vJ (own_u4 cc), .second, vR b960]) rfl ?_
  refine XS.aloadN X960.here hx rfl (hb hby d4_70) rfl rfl ?_
  exact k
 obtain ⟨T968, X968, e968, st968⟩ := getF X960 hx hZ hown (host := "") (Or.inl (own_w hw 17 rfl)) Via.refl e960 Ff962 (g := (mkF m 71 #[vR a0, vR b909, vI 4, vJ (own_u4 cc), .second, vR b960] [(.ref a0)])) rfl rfl (hb hby d4_71)
 have pre969 : own_P p e below T968 (mkF m 74 #[vR a0, vR b909, vI 4, vJ (own_u4 cc), .second, vR b960] [(.ref r1)]) s₁ (entryFrame m #[(.ref a0)] 6) := fun t k => pre967 t (st968 t k)
 have pre970 : own_P p e below T968 (mkF m 79 #[vR a0, vR b909, vI 4, vJ (own_u4 cc), .second, vR b960] [(.ref a0), (.int 4), (.ref b960), (.int 0), (.ref r1)]) s₁ (entryFrame m #[(.ref a0)] 6) := by
  intro t k
  refine pre969 t ?_
  refine XS.iconst X968.here hx rfl (hb hby d4_74) ?_
  refine XS.aload X968.here hx rfl (hb hby d4_75) rfl rfl ?_
  refine XS.iloadN X968.here hx rfl (hb hby d4_77) rfl ?_
  refine XS.aloadN X968.here hx rfl (hb hby d4_78) rfl rfl ?_
  exact k
 obtain ⟨T971, X971, e971, st971⟩ := getF X968 hx hZ hown (host := "") (Or.inl (own_w hw 17 rfl)) Via.refl e968 Ff962 (g := (mkF m 79 #[vR a0, vR b909, vI 4, vJ (own_u4 cc), .second, vR b960] [(.ref a0), (.int 4), (.ref b960), (.int 0), (.ref r1)])) rfl rfl (hb hby d4_79)
 have pre972 : own_P p e below T971 (mkF m 82 #[vR a0, vR b909, vI 4, vJ (own_u4 cc), .second, vR b960] [(.ref r1), (.int 4), (.ref b960), (.int 0), (.ref r1)]) s₁ (entryFrame m #[(.ref a0)] 6) := fun t k => pre970 t (st971 t k)
 obtain ⟨cl973, Ar973, q973, S973, M973, H973, G973⟩ := id Vf963
 have pre974 : own_P p e below T971 (mkF m 83 #[vR a0, vR b909, vI 4, vJ (own_u4 cc), .second, vR b960] [(.int 1), (.int 4), (.ref b960), (.int 0), (.ref r1)]) s₁ (entryFrame m #[(.ref a0)] 6) := by
  intro t k
  refine pre972 t ?_
  refine X971.arraylength hx (by rw [e971]; exact Ar973.1) (State.isArrayOf_alike hZ.alike Ar973.2.1) (g := (mkF m 82 #[vR a0, vR b909, vI 4, vJ (own_u4 cc), .second, vR b960] [(.ref r1), (.int 4), (.ref b960), (.int 0), (.ref r1)])) rfl rfl (hb hby d4_82) _ ?_
  rw [len_of S973 M973]
  exact k
 obtain ⟨T975, h975, L975, X975, e975, N975, K975q, V975q, st975⟩ := cpA X971 hx hZ hown (own_w hw 42 rfl) (own_w hw 41 rfl) (own_w hw 39 rfl) (own_w hw 40 rfl) e971 Vf963 Ob960_0 (Or.inl ⟨rfl, rfl⟩) (by decide) (by decide) (by decide) (by decide) (by decide) (us := [(.int y0)]) rfl (Nat.le_of_ble_eq_true rfl) N960 g_b960 (g := (mkF m 83 #[vR a0, vR b909, vI 4, vJ (own_u4 cc), .second, vR b960] [(.int 1), (.int 4), (.ref b960), (.int 0), (.ref r1)])) rfl (by rw [hml]; rfl) rfl (hb hby d4_83) (by decide) (W := 0) (by show 2 * 0 + _ ≤ _; exact Nat.le_of_eq rfl) (by decide)
 have Z975 : n0 ≤ h975.size := Nat.le_trans Z960 K975q.1
 have K975 : Keep h0 h975 [] := K960.trans K975q (fun x hx => by cases List.mem_singleton.mp hx; exact Or.inr sz_b960)
 have Ff976 : Fld Z h975 a0 own_CK "collection" "I" (.int cc) := (Ff961).keep K975q (fun q => absurd (List.mem_singleton.mp q) ne_a0_b960)
 have Ff977 : Fld Z h975 a0 own_CK "documentKey" "[B" (.ref r1) := (Ff962).keep K975q (fun q => absurd (List.mem_singleton.mp q) ne_a0_b960)
 have Vf978 : Arv Z h975 r1 k_r1 .byte (1 : Int32) [(.int y0)] (.int 0) := (Vf963).keep K975q (fun q => absurd (List.mem_singleton.mp q) ne_r1_b960)
 have Ef979 : Exa Z h975 b909 "[B" := (Ef964).keep K975q
 have Vf980 : Arv Z h975 b909 k909 .byte (5 : Int32) [(.int (own_m0 cc)), (.int (own_m1 cc)), (.int (own_m2 cc)), (.int (own_l3 cc)), (.int 0)] (.int 0) := (Vf965).keep K975q (fun q => absurd (List.mem_singleton.mp q) ne_b909_b960)
 have Ef981 : Exa Z h975 b960 "[B" := (Ob960_1).keep K975q
 have V975 : Arv Z h975 b960 kb960 .byte (5 : Int32) [(.int (own_m0 cc)), (.int (own_m1 cc)), (.int (own_m2 cc)), (.int (own_l3 cc)), (.int y0)] (.int 0) := V975q
 have pre982 : own_P p e below T975 (mkF m 86 #[vR a0, vR b909, vI 4, vJ (own_u4 cc), .second, vR b960] []) s₁ (entryFrame m #[(.ref a0)] 6) := fun t k => pre974 t (st975 t k)
 obtain ⟨fs, hr, hrun, hended, hW, hsame⟩ := X975.leave (v := some (.ref b960)) (fun h => by rw [Bd.returns] at h; cases h)
 refine ⟨_, _, pre982 _ ?_, hrun, hended, _, _, rfl, ?_, ⟨_, rfl⟩, hW, hsame.mono (by decide) (by decide)⟩
 ·
  refine XS.aload X975.here hx rfl (hb hby d4_86) rfl rfl ?_
  exact retOut X975 hx Bd.returns rfl (Or.inr (Or.inr (Or.inr (Or.inr ⟨rfl, rfl, rfl⟩)))) (hb hby d4_88) hr
 ·
  show Q4_4_1 Z a0 cc r1 k_r1 y0 h0 n0 _ T975.heap _
  rw [e975]
  exact ⟨b960, kb960, rfl, N975, K975, sz_b960, Ef981, V975⟩
def Q4_4_2 (Z : State) (a0 : Addr) (cc : Int32) (r1 : Addr) (k_r1 : ClassId) (y0 : Int32) (y1 : Int32) (h0 : Heap) (n0 : Nat) (v : Option Value) (h : Heap) (L : List Loc) : Prop := ∃ (b : Addr) (k_b : ClassId), v = some (.ref b) ∧ Fr n0 L ∧ Keep h0 h [] ∧ h0.size ≤ b ∧ Exa Z h b "[B" ∧ Arv Z h b k_b .byte (6 : Int32) [(.int (own_m0 cc)), (.int (own_m1 cc)), (.int (own_m2 cc)), (.int (own_l3 cc)), (.int y0), (.int y1)] (.int 0)
set_option maxRecDepth 65536 in
set_option maxHeartbeats 40000000 in
theorem rm4_4_2 (l : Launch) (Z : State) (ar0 : Array Value) (hw : ∀ d ∈ tables_1, d.before ar0 Z = true) (ws : List Jvm.Cond) (a0 : Addr) (cc : Int32) (r1 : Addr) (k_r1 : ClassId) (y0 : Int32) (y1 : Int32) (h0 : Heap) (n0 : Nat) (Z0 : n0 ≤ h0.size) (F_collection_a0 : Fld Z h0 a0 own_CK "collection" "I" (.int cc)) (F_documentKey_a0 : Fld Z h0 a0 own_CK "documentKey" "[B" (.ref r1)) (V_r1 : Arv Z h0 r1 k_r1 .byte (2 : Int32) [(.int y0), (.int y1)] (.int 0)) (hz1 : ¬ ((own_u1 cc) = (0 : Int64))) (hz2 : ¬ ((own_u2 cc) = (0 : Int64))) (hz3 : ¬ ((own_u3 cc) = (0 : Int64))) (hz4 : (own_u4 cc) = (0 : Int64)) :
  MetFree l (⟨own_CK, "write", "()[B"⟩ : MethodName) (head1 (Jvm.Cond.code (⟨own_CK, "write", "()[B"⟩ : MethodName) prog_8_method_3_code 6 (some (.array .byte)) :: ws) ({ frames := 2, cells := 2, slots := 11, locals := 32 } : Room)) (fun a U => a = #[(.ref a0)] ∧ Z.Warmed39 U.vm ∧ U.heap = h0) (fun _ _ _ _ _ => True) (fun _ U o U' => ∃ v L, o = .returned v ∧ Q4_4_2 Z a0 cc r1 k_r1 y0 y1 h0 n0 v U'.heap L ∧ FrameEnd U o U' L ({ frames := 2, cells := 2, slots := 11, locals := 32 } : Room).cells ({ frames := 2, cells := 2, slots := 11, locals := 32 } : Room).slots) := by
 refine MetFree.of_bodySF (plainFor_of_name pn_1) hisR ?_
 intro p e s m args below meth c s₁ Bd hml0 hP hK
 obtain ⟨rfl, hZ, hh⟩ := hP
 have hx := Bd.exec
 have hby := Bd.bytes
 have hml : c.maxLocals = 6 := hml0
 have hown : s.vm.findClass own_CK = some m.cls := by have q := findClass_of_methodNamed Bd.named; exact q
 have hnm := (name_of_methodNamed Bd.named Bd.method).1
 have X0 : Stand p l e ({ frames := 2, cells := 2, slots := 11, locals := 32 } : Room) s m #[(.ref a0)] below meth c s₁ [] 0 0 := Stand.of_body Bd
 have e0 : s₁.heap = h0 := by rw [← hh, Bd.state]; rfl
 have N0 := Fr.nil n0
 have pre0 : own_P p e below s₁ (mkF m 0 #[vR a0, .unset, .unset, .unset, .unset, .unset] []) s₁ (entryFrame m #[(.ref a0)] 6) := fun t k => castTop (ef_4 m a0) k
 have pre983 : own_P p e below s₁ (mkF m 1 #[vR a0, .unset, .unset, .unset, .unset, .unset] [(.int 5)]) s₁ (entryFrame m #[(.ref a0)] 6) := by
  intro t k
  refine pre0 t ?_
  refine XS.iconst X0.here hx rfl (hb hby d4_0) ?_
  exact k
 obtain ⟨T984, h984, k984, X984, e984, E984, A984, C984, st984⟩ := newPE X0 hx hZ (own_w hw 0 rfl) e0 (g := (mkF m 1 #[vR a0, .unset, .unset, .unset, .unset, .unset] [(.int 5)])) rfl (hb hby d4_1) rfl (by decide) (cap := 5) (by decide) (by decide) (by decide) (by decide) (ad := "[B") rfl
 obtain ⟨b984, g984⟩ : ∃ z, z = h0.size := ⟨_, rfl⟩
 rw [← g984] at A984 C984 st984
 have ne_a0_b984 : a0 ≠ b984 := Nat.ne_of_lt (Nat.lt_of_lt_of_le (F_collection_a0).lt (Nat.le_of_eq g984.symm))
 have ne_r1_b984 : r1 ≠ b984 := Nat.ne_of_lt (Nat.lt_of_lt_of_le (V_r1).lt (Nat.le_of_eq g984.symm))
 have g_b984 : n0 ≤ b984 := Nat.le_trans Z0 (Nat.le_of_eq g984.symm)
 have sz_b984 : h0.size ≤ b984 := Nat.le_trans (Keep.refl h0 []).1 (Nat.le_of_eq g984.symm)
 have Z984 : n0 ≤ h984.size := Nat.le_trans Z0 E984.1
 have K984 : Keep h0 h984 [] := (Keep.refl h0 []).ext E984
 have Ff985 : Fld Z h984 a0 own_CK "collection" "I" (.int cc) := (F_collection_a0).ext E984
 have Ff986 : Fld Z h984 a0 own_CK "documentKey" "[B" (.ref r1) := (F_documentKey_a0).ext E984
 have Vf987 : Arv Z h984 r1 k_r1 .byte (2 : Int32) [(.int y0), (.int y1)] (.int 0) := (V_r1).ext E984
 have V_b984 : Arv Z h984 b984 k984 .byte (5 : Int32) [(.int 0), (.int 0), (.int 0), (.int 0), (.int 0)] (.int 0) := (Arv.new A984 (by decide)).pad (pad_rep [] (.int 0) 5)
 have pre988 : own_P p e below T984 (mkF m 3 #[vR a0, .unset, .unset, .unset, .unset, .unset] [(.ref b984)]) s₁ (entryFrame m #[(.ref a0)] 6) := fun t k => pre983 t (st984 t k)
 have pre989 : own_P p e below T984 (mkF m 7 #[vR a0, vR b984, vI 0, .unset, .unset, .unset] [(.ref a0)]) s₁ (entryFrame m #[(.ref a0)] 6) := by
  intro t k
  refine pre988 t ?_
  refine XS.astoreN X984.here hx rfl (hb hby d4_3) rfl rfl (l' := #[vR a0, vR b984, .unset, .unset, .unset, .unset]) rfl ?_
  refine XS.iconst X984.here hx rfl (hb hby d4_4) ?_
  refine XS.istoreN X984.here hx rfl (hb hby d4_5) rfl (l' := #[vR a0, vR b984, vI 0, .unset, .unset, .unset]) rfl ?_
  refine XS.aloadN X984.here hx rfl (hb hby d4_6) rfl rfl ?_
  exact k
 obtain ⟨T990, X990, e990, st990⟩ := getF X984 hx hZ hown (host := "") (Or.inl (own_w hw 15 rfl)) Via.refl e984 Ff985 (g := (mkF m 7 #[vR a0, vR b984, vI 0, .unset, .unset, .unset] [(.ref a0)])) rfl rfl (hb hby d4_7)
 have pre991 : own_P p e below T990 (mkF m 10 #[vR a0, vR b984, vI 0, .unset, .unset, .unset] [(.int cc)]) s₁ (entryFrame m #[(.ref a0)] 6) := fun t k => pre989 t (st990 t k)
 obtain ⟨_, _, ⟨T992, L992, k992, n992⟩, -, X992, ⟨Lc992, hQ992, l992, y992, z992⟩, st992⟩ := Jvm.LawKit.callS X990 hx (y := (⟨"java/lang/Integer", "toUnsignedLong", "(I)J"⟩ : MethodName)) hown (mvT hZ (own_w hw 24 rfl)) (mvT hZ (own_w hw 25 rfl)) (mvT hZ (own_w hw 26 rfl)) (mvT hZ (own_w hw 27 rfl)) (by decide) (backOf (W := 0) (rm5 l Z ar0 hw [] cc h984 n0 Z984) hZ (own_w hw 27 rfl) (own_w hw 26 rfl) (by decide) (by decide)) (g := (mkF m 10 #[vR a0, vR b984, vI 0, .unset, .unset, .unset] [(.int cc)])) rfl (by rw [hml]; rfl) (argsL := [(.int cc)]) (rest := []) (lenOf pd_2 rfl) rfl (by show 2 * 0 + _ ≤ _; exact Nat.le_of_eq rfl) (hb hby d4_10) (fun _ _ => ⟨rfl, e990, (by decide : 1 + 0 ≤ _), (by decide : 5 + 0 ≤ _)⟩)
 dsimp only [Pt.U, Pt.locs, Pt.cells, Pt.slots] at X992 l992 y992 z992 st992 hQ992
 subst l992 y992 z992
 obtain ⟨rfl, N992q, e992⟩ := hQ992
 have N992 := Fr.app N0 N992q
 have pre993 : own_P p e below T992 (mkF m 13 #[vR a0, vR b984, vI 0, .unset, .unset, .unset] [(.long (own_u0 cc))]) s₁ (entryFrame m #[(.ref a0)] 6) := fun t k => pre991 t (st992 t k)
 have pre994 : own_P p e below T992 (mkF m 32 #[vR a0, vR b984, vI 0, vJ (own_u1 cc), .second, vI (own_g0 cc)] [(.int (lcmpW (own_u1 cc) (0 : Int64))), (.int 0), (.ref b984)]) s₁ (entryFrame m #[(.ref a0)] 6) := by
  intro t k
  refine pre993 t ?_
  refine XS.lstoreN X992.here hx rfl (hb hby d4_13) rfl (l' := #[vR a0, vR b984, vI 0, vJ (own_u0 cc), .second, .unset]) rfl ?_
  refine XS.lloadN X992.here hx rfl (hb hby d4_14) rfl ?_
  refine X992.ldc2Long hx hown (mvT hZ (own_w hw 29 rfl)) (g := (mkF m 15 #[vR a0, vR b984, vI 0, vJ (own_u0 cc), .second, .unset] [(.long (own_u0 cc))])) rfl (hb hby d4_15) _ ?_
  refine XS.land X992.here hx rfl (hb hby d4_18) rfl ?_
  refine XS.l2i X992.here hx rfl (hb hby d4_19) rfl ?_
  refine XS.istore X992.here hx rfl (hb hby d4_20) rfl (l' := #[vR a0, vR b984, vI 0, vJ (own_u0 cc), .second, vI (own_g0 cc)]) rfl ?_
  refine XS.lloadN X992.here hx rfl (hb hby d4_22) rfl ?_
  refine XS.bipush X992.here hx rfl (hb hby d4_23) ?_
  refine XS.lushr X992.here hx rfl (hb hby d4_25) rfl ?_
  refine XS.lstoreN X992.here hx rfl (hb hby d4_26) rfl (l' := #[vR a0, vR b984, vI 0, vJ (own_u1 cc), .second, vI (own_g0 cc)]) rfl ?_
  refine XS.aloadN X992.here hx rfl (hb hby d4_27) rfl rfl ?_
  refine XS.iloadN X992.here hx rfl (hb hby d4_28) rfl ?_
  refine XS.lloadN X992.here hx rfl (hb hby d4_29) rfl ?_
  refine XS.lconst X992.here hx rfl (hb hby d4_30) ?_
  refine XS.lcmp X992.here hx rfl (hb hby d4_31) rfl ?_
  exact k
 have hk995 : ¬ ((own_u1 cc) = (0 : Int64)) := hz1
 have pre996 : own_P p e below T992 (mkF m 47 #[vR a0, vR b984, vI 0, vJ (own_u1 cc), .second, vI (own_g0 cc)] [(.int (((own_g0 cc) ||| (128 : Int32)).toInt8.toInt32)), (.int 0), (.ref b984)]) s₁ (entryFrame m #[(.ref a0)] 6) := by
  intro t k
  refine pre994 t ?_
  refine XS.ifYes X992.here hx rfl (pc0 := 32) (pc' := 40) rfl (hb hby d4_32) rfl ((if0 _ _).trans (feq (own_neL hk995)).2) (by decide) (by decide) ?_
  refine XS.iload X992.here hx rfl (hb hby d4_40) rfl ?_
  refine XS.sipush X992.here hx rfl (hb hby d4_42) ?_
  refine XS.ior X992.here hx rfl (hb hby d4_45) rfl ?_
  refine XS.i2b X992.here hx rfl (hb hby d4_46) rfl ?_
  exact k
 obtain ⟨cl997, Ar997, q997, S997, M997, H997, G997⟩ := id V_b984
 have hin997 : ¬ ((0 : Int32) < 0 ∨ cl997.slots.size ≤ ((0 : Int32)).toNatClampNeg) := inb_of S997 ⟨by decide, by decide⟩
 obtain ⟨T997, h997, X997, e997, W997, st997⟩ := stB X992 hx hZ e992 Ar997 (j := (0 : Int32)) hin997 (g := (mkF m 47 #[vR a0, vR b984, vI 0, vJ (own_u1 cc), .second, vI (own_g0 cc)] [(.int (((own_g0 cc) ||| (128 : Int32)).toInt8.toInt32)), (.int 0), (.ref b984)])) rfl rfl (hb hby d4_47)
 have Z997 : n0 ≤ h997.size := Nat.le_trans Z984 (Keep.of_wr W997).1
 have K997 : Keep h0 h997 [] := K984.wr W997 (Or.inr sz_b984)
 have N997 := Fr.snoc X997 N992 g_b984
 have Ff998 : Fld Z h997 a0 own_CK "collection" "I" (.int cc) := (Ff985).other W997 (Or.inl ne_a0_b984)
 have Ff999 : Fld Z h997 a0 own_CK "documentKey" "[B" (.ref r1) := (Ff986).other W997 (Or.inl ne_a0_b984)
 have Vf1000 : Arv Z h997 r1 k_r1 .byte (2 : Int32) [(.int y0), (.int y1)] (.int 0) := (Vf987).other W997 ne_r1_b984
 have Ef1001 : Exa Z h997 b984 "[B" := (C984).wr W997
 have V997 : Arv Z h997 b984 k984 .byte (5 : Int32) [(.int (own_m0 cc)), (.int 0), (.int 0), (.int 0), (.int 0)] (.int 0) := Arv.set Ar997 q997 S997 M997 H997 G997 (fits_nar_byte _) W997 0 rfl (Nat.le_of_ble_eq_true rfl)
 have pre1002 : own_P p e below T997 (mkF m 48 #[vR a0, vR b984, vI 0, vJ (own_u1 cc), .second, vI (own_g0 cc)] []) s₁ (entryFrame m #[(.ref a0)] 6) := fun t k => pre996 t (st997 t k)
 have pre1003 : own_P p e below T997 (mkF m 32 #[vR a0, vR b984, vI 1, vJ (own_u2 cc), .second, vI (own_g1 cc)] [(.int (lcmpW (own_u2 cc) (0 : Int64))), (.int 1), (.ref b984)]) s₁ (entryFrame m #[(.ref a0)] 6) := by
  intro t k
  refine pre1002 t ?_
  refine XS.iinc X997.here hx rfl (hb hby d4_48) rfl (l' := #[vR a0, vR b984, vI 1, vJ (own_u1 cc), .second, vI (own_g0 cc)]) rfl ?_
  refine XS.lloadN X997.here hx rfl (hb hby d4_51) rfl ?_
  refine XS.lconst X997.here hx rfl (hb hby d4_52) ?_
  refine XS.lcmp X997.here hx rfl (hb hby d4_53) rfl ?_
  refine XS.ifYes X997.here hx rfl (pc0 := 54) (pc' := 14) rfl (hb hby d4_54) rfl ((if0 _ _).trans (feq (own_neL hk995)).2) (by decide) (by decide) ?_
  refine XS.lloadN X997.here hx rfl (hb hby d4_14) rfl ?_
  refine X997.ldc2Long hx hown (mvT hZ (own_w hw 29 rfl)) (g := (mkF m 15 #[vR a0, vR b984, vI 1, vJ (own_u1 cc), .second, vI (own_g0 cc)] [(.long (own_u1 cc))])) rfl (hb hby d4_15) _ ?_
  refine XS.land X997.here hx rfl (hb hby d4_18) rfl ?_
  refine XS.l2i X997.here hx rfl (hb hby d4_19) rfl ?_
  refine XS.istore X997.here hx rfl (hb hby d4_20) rfl (l' := #[vR a0, vR b984, vI 1, vJ (own_u1 cc), .second, vI (own_g1 cc)]) rfl ?_
  refine XS.lloadN X997.here hx rfl (hb hby d4_22) rfl ?_
  refine XS.bipush X997.here hx rfl (hb hby d4_23) ?_
  refine XS.lushr X997.here hx rfl (hb hby d4_25) rfl ?_
  refine XS.lstoreN X997.here hx rfl (hb hby d4_26) rfl (l' := #[vR a0, vR b984, vI 1, vJ (own_u2 cc), .second, vI (own_g1 cc)]) rfl ?_
  refine XS.aloadN X997.here hx rfl (hb hby d4_27) rfl rfl ?_
  refine XS.iloadN X997.here hx rfl (hb hby d4_28) rfl ?_
  refine XS.lloadN X997.here hx rfl (hb hby d4_29) rfl ?_
  refine XS.lconst X997.here hx rfl (hb hby d4_30) ?_
  refine XS.lcmp X997.here hx rfl (hb hby d4_31) rfl ?_
  exact k
 have hk1004 : ¬ ((own_u2 cc) = (0 : Int64)) := hz2
 have pre1005 : own_P p e below T997 (mkF m 47 #[vR a0, vR b984, vI 1, vJ (own_u2 cc), .second, vI (own_g1 cc)] [(.int (((own_g1 cc) ||| (128 : Int32)).toInt8.toInt32)), (.int 1), (.ref b984)]) s₁ (entryFrame m #[(.ref a0)] 6) := by
  intro t k
  refine pre1003 t ?_
  refine XS.ifYes X997.here hx rfl (pc0 := 32) (pc' := 40) rfl (hb hby d4_32) rfl ((if0 _ _).trans (feq (own_neL hk1004)).2) (by decide) (by decide) ?_
  refine XS.iload X997.here hx rfl (hb hby d4_40) rfl ?_
  refine XS.sipush X997.here hx rfl (hb hby d4_42) ?_
  refine XS.ior X997.here hx rfl (hb hby d4_45) rfl ?_
  refine XS.i2b X997.here hx rfl (hb hby d4_46) rfl ?_
  exact k
 obtain ⟨cl1006, Ar1006, q1006, S1006, M1006, H1006, G1006⟩ := id V997
 have hin1006 : ¬ ((1 : Int32) < 0 ∨ cl1006.slots.size ≤ ((1 : Int32)).toNatClampNeg) := inb_of S1006 ⟨by decide, by decide⟩
 obtain ⟨T1006, h1006, X1006, e1006, W1006, st1006⟩ := stB X997 hx hZ e997 Ar1006 (j := (1 : Int32)) hin1006 (g := (mkF m 47 #[vR a0, vR b984, vI 1, vJ (own_u2 cc), .second, vI (own_g1 cc)] [(.int (((own_g1 cc) ||| (128 : Int32)).toInt8.toInt32)), (.int 1), (.ref b984)])) rfl rfl (hb hby d4_47)
 have Z1006 : n0 ≤ h1006.size := Nat.le_trans Z997 (Keep.of_wr W1006).1
 have K1006 : Keep h0 h1006 [] := K997.wr W1006 (Or.inr sz_b984)
 have N1006 := Fr.snoc X1006 N997 g_b984
 have Ff1007 : Fld Z h1006 a0 own_CK "collection" "I" (.int cc) := (Ff998).other W1006 (Or.inl ne_a0_b984)
 have Ff1008 : Fld Z h1006 a0 own_CK "documentKey" "[B" (.ref r1) := (Ff999).other W1006 (Or.inl ne_a0_b984)
 have Vf1009 : Arv Z h1006 r1 k_r1 .byte (2 : Int32) [(.int y0), (.int y1)] (.int 0) := (Vf1000).other W1006 ne_r1_b984
 have Ef1010 : Exa Z h1006 b984 "[B" := (Ef1001).wr W1006
 have V1006 : Arv Z h1006 b984 k984 .byte (5 : Int32) [(.int (own_m0 cc)), (.int (own_m1 cc)), (.int 0), (.int 0), (.int 0)] (.int 0) := Arv.set Ar1006 q1006 S1006 M1006 H1006 G1006 (fits_nar_byte _) W1006 1 rfl (Nat.le_of_ble_eq_true rfl)
 have pre1011 : own_P p e below T1006 (mkF m 48 #[vR a0, vR b984, vI 1, vJ (own_u2 cc), .second, vI (own_g1 cc)] []) s₁ (entryFrame m #[(.ref a0)] 6) := fun t k => pre1005 t (st1006 t k)
 have pre1012 : own_P p e below T1006 (mkF m 32 #[vR a0, vR b984, vI 2, vJ (own_u3 cc), .second, vI (own_g2 cc)] [(.int (lcmpW (own_u3 cc) (0 : Int64))), (.int 2), (.ref b984)]) s₁ (entryFrame m #[(.ref a0)] 6) := by
  intro t k
  refine pre1011 t ?_
  refine XS.iinc X1006.here hx rfl (hb hby d4_48) rfl (l' := #[vR a0, vR b984, vI 2, vJ (own_u2 cc), .second, vI (own_g1 cc)]) rfl ?_
  refine XS.lloadN X1006.here hx rfl (hb hby d4_51) rfl ?_
  refine XS.lconst X1006.here hx rfl (hb hby d4_52) ?_
  refine XS.lcmp X1006.here hx rfl (hb hby d4_53) rfl ?_
  refine XS.ifYes X1006.here hx rfl (pc0 := 54) (pc' := 14) rfl (hb hby d4_54) rfl ((if0 _ _).trans (feq (own_neL hk1004)).2) (by decide) (by decide) ?_
  refine XS.lloadN X1006.here hx rfl (hb hby d4_14) rfl ?_
  refine X1006.ldc2Long hx hown (mvT hZ (own_w hw 29 rfl)) (g := (mkF m 15 #[vR a0, vR b984, vI 2, vJ (own_u2 cc), .second, vI (own_g1 cc)] [(.long (own_u2 cc))])) rfl (hb hby d4_15) _ ?_
  refine XS.land X1006.here hx rfl (hb hby d4_18) rfl ?_
  refine XS.l2i X1006.here hx rfl (hb hby d4_19) rfl ?_
  refine XS.istore X1006.here hx rfl (hb hby d4_20) rfl (l' := #[vR a0, vR b984, vI 2, vJ (own_u2 cc), .second, vI (own_g2 cc)]) rfl ?_
  refine XS.lloadN X1006.here hx rfl (hb hby d4_22) rfl ?_
  refine XS.bipush X1006.here hx rfl (hb hby d4_23) ?_
  refine XS.lushr X1006.here hx rfl (hb hby d4_25) rfl ?_
  refine XS.lstoreN X1006.here hx rfl (hb hby d4_26) rfl (l' := #[vR a0, vR b984, vI 2, vJ (own_u3 cc), .second, vI (own_g2 cc)]) rfl ?_
  refine XS.aloadN X1006.here hx rfl (hb hby d4_27) rfl rfl ?_
  refine XS.iloadN X1006.here hx rfl (hb hby d4_28) rfl ?_
  refine XS.lloadN X1006.here hx rfl (hb hby d4_29) rfl ?_
  refine XS.lconst X1006.here hx rfl (hb hby d4_30) ?_
  refine XS.lcmp X1006.here hx rfl (hb hby d4_31) rfl ?_
  exact k
 have hk1013 : ¬ ((own_u3 cc) = (0 : Int64)) := hz3
 have pre1014 : own_P p e below T1006 (mkF m 47 #[vR a0, vR b984, vI 2, vJ (own_u3 cc), .second, vI (own_g2 cc)] [(.int (((own_g2 cc) ||| (128 : Int32)).toInt8.toInt32)), (.int 2), (.ref b984)]) s₁ (entryFrame m #[(.ref a0)] 6) := by
  intro t k
  refine pre1012 t ?_
  refine XS.ifYes X1006.here hx rfl (pc0 := 32) (pc' := 40) rfl (hb hby d4_32) rfl ((if0 _ _).trans (feq (own_neL hk1013)).2) (by decide) (by decide) ?_
  refine XS.iload X1006.here hx rfl (hb hby d4_40) rfl ?_
  refine XS.sipush X1006.here hx rfl (hb hby d4_42) ?_
  refine XS.ior X1006.here hx rfl (hb hby d4_45) rfl ?_
  refine XS.i2b X1006.here hx rfl (hb hby d4_46) rfl ?_
  exact k
 obtain ⟨cl1015, Ar1015, q1015, S1015, M1015, H1015, G1015⟩ := id V1006
 have hin1015 : ¬ ((2 : Int32) < 0 ∨ cl1015.slots.size ≤ ((2 : Int32)).toNatClampNeg) := inb_of S1015 ⟨by decide, by decide⟩
 obtain ⟨T1015, h1015, X1015, e1015, W1015, st1015⟩ := stB X1006 hx hZ e1006 Ar1015 (j := (2 : Int32)) hin1015 (g := (mkF m 47 #[vR a0, vR b984, vI 2, vJ (own_u3 cc), .second, vI (own_g2 cc)] [(.int (((own_g2 cc) ||| (128 : Int32)).toInt8.toInt32)), (.int 2), (.ref b984)])) rfl rfl (hb hby d4_47)
 have Z1015 : n0 ≤ h1015.size := Nat.le_trans Z1006 (Keep.of_wr W1015).1
 have K1015 : Keep h0 h1015 [] := K1006.wr W1015 (Or.inr sz_b984)
 have N1015 := Fr.snoc X1015 N1006 g_b984
 have Ff1016 : Fld Z h1015 a0 own_CK "collection" "I" (.int cc) := (Ff1007).other W1015 (Or.inl ne_a0_b984)
 have Ff1017 : Fld Z h1015 a0 own_CK "documentKey" "[B" (.ref r1) := (Ff1008).other W1015 (Or.inl ne_a0_b984)
 have Vf1018 : Arv Z h1015 r1 k_r1 .byte (2 : Int32) [(.int y0), (.int y1)] (.int 0) := (Vf1009).other W1015 ne_r1_b984
 have Ef1019 : Exa Z h1015 b984 "[B" := (Ef1010).wr W1015
 have V1015 : Arv Z h1015 b984 k984 .byte (5 : Int32) [(.int (own_m0 cc)), (.int (own_m1 cc)), (.int (own_m2 cc)), (.int 0), (.int 0)] (.int 0) := Arv.set Ar1015 q1015 S1015 M1015 H1015 G1015 (fits_nar_byte _) W1015 2 rfl (Nat.le_of_ble_eq_true rfl)
 have pre1020 : own_P p e below T1015 (mkF m 48 #[vR a0, vR b984, vI 2, vJ (own_u3 cc), .second, vI (own_g2 cc)] []) s₁ (entryFrame m #[(.ref a0)] 6) := fun t k => pre1014 t (st1015 t k)
 have pre1021 : own_P p e below T1015 (mkF m 32 #[vR a0, vR b984, vI 3, vJ (own_u4 cc), .second, vI (own_g3 cc)] [(.int (lcmpW (own_u4 cc) (0 : Int64))), (.int 3), (.ref b984)]) s₁ (entryFrame m #[(.ref a0)] 6) := by
  intro t k
  refine pre1020 t ?_
  refine XS.iinc X1015.here hx rfl (hb hby d4_48) rfl (l' := #[vR a0, vR b984, vI 3, vJ (own_u3 cc), .second, vI (own_g2 cc)]) rfl ?_
  refine XS.lloadN X1015.here hx rfl (hb hby d4_51) rfl ?_
  refine XS.lconst X1015.here hx rfl (hb hby d4_52) ?_
  refine XS.lcmp X1015.here hx rfl (hb hby d4_53) rfl ?_
  refine XS.ifYes X1015.here hx rfl (pc0 := 54) (pc' := 14) rfl (hb hby d4_54) rfl ((if0 _ _).trans (feq (own_neL hk1013)).2) (by decide) (by decide) ?_
  refine XS.lloadN X1015.here hx rfl (hb hby d4_14) rfl ?_
  refine X1015.ldc2Long hx hown (mvT hZ (own_w hw 29 rfl)) (g := (mkF m 15 #[vR a0, vR b984, vI 3, vJ (own_u3 cc), .second, vI (own_g2 cc)] [(.long (own_u3 cc))])) rfl (hb hby d4_15) _ ?_
  refine XS.land X1015.here hx rfl (hb hby d4_18) rfl ?_
  refine XS.l2i X1015.here hx rfl (hb hby d4_19) rfl ?_
  refine XS.istore X1015.here hx rfl (hb hby d4_20) rfl (l' := #[vR a0, vR b984, vI 3, vJ (own_u3 cc), .second, vI (own_g3 cc)]) rfl ?_
  refine XS.lloadN X1015.here hx rfl (hb hby d4_22) rfl ?_
  refine XS.bipush X1015.here hx rfl (hb hby d4_23) ?_
  refine XS.lushr X1015.here hx rfl (hb hby d4_25) rfl ?_
  refine XS.lstoreN X1015.here hx rfl (hb hby d4_26) rfl (l' := #[vR a0, vR b984, vI 3, vJ (own_u4 cc), .second, vI (own_g3 cc)]) rfl ?_
  refine XS.aloadN X1015.here hx rfl (hb hby d4_27) rfl rfl ?_
  refine XS.iloadN X1015.here hx rfl (hb hby d4_28) rfl ?_
  refine XS.lloadN X1015.here hx rfl (hb hby d4_29) rfl ?_
  refine XS.lconst X1015.here hx rfl (hb hby d4_30) ?_
  refine XS.lcmp X1015.here hx rfl (hb hby d4_31) rfl ?_
  exact k
 have hk1022 : (own_u4 cc) = (0 : Int64) := hz4
 have pre1023 : own_P p e below T1015 (mkF m 47 #[vR a0, vR b984, vI 3, vJ (own_u4 cc), .second, vI (own_g3 cc)] [(.int ((own_g3 cc).toInt8.toInt32)), (.int 3), (.ref b984)]) s₁ (entryFrame m #[(.ref a0)] 6) := by
  intro t k
  refine pre1021 t ?_
  refine XS.ifNo X1015.here hx rfl (hb hby d4_32) rfl ((if0 _ _).trans (teq (own_eqL hk1022)).2) ?_
  refine XS.iload X1015.here hx rfl (hb hby d4_35) rfl ?_
  refine XS.goto X1015.here hx rfl (pc0 := 37) (pc' := 46) rfl (hb hby d4_37) (by decide) (by decide) ?_
  refine XS.i2b X1015.here hx rfl (hb hby d4_46) rfl ?_
  exact k
 obtain ⟨cl1024, Ar1024, q1024, S1024, M1024, H1024, G1024⟩ := id V1015
 have hin1024 : ¬ ((3 : Int32) < 0 ∨ cl1024.slots.size ≤ ((3 : Int32)).toNatClampNeg) := inb_of S1024 ⟨by decide, by decide⟩
 obtain ⟨T1024, h1024, X1024, e1024, W1024, st1024⟩ := stB X1015 hx hZ e1015 Ar1024 (j := (3 : Int32)) hin1024 (g := (mkF m 47 #[vR a0, vR b984, vI 3, vJ (own_u4 cc), .second, vI (own_g3 cc)] [(.int ((own_g3 cc).toInt8.toInt32)), (.int 3), (.ref b984)])) rfl rfl (hb hby d4_47)
 have Z1024 : n0 ≤ h1024.size := Nat.le_trans Z1015 (Keep.of_wr W1024).1
 have K1024 : Keep h0 h1024 [] := K1015.wr W1024 (Or.inr sz_b984)
 have N1024 := Fr.snoc X1024 N1015 g_b984
 have Ff1025 : Fld Z h1024 a0 own_CK "collection" "I" (.int cc) := (Ff1016).other W1024 (Or.inl ne_a0_b984)
 have Ff1026 : Fld Z h1024 a0 own_CK "documentKey" "[B" (.ref r1) := (Ff1017).other W1024 (Or.inl ne_a0_b984)
 have Vf1027 : Arv Z h1024 r1 k_r1 .byte (2 : Int32) [(.int y0), (.int y1)] (.int 0) := (Vf1018).other W1024 ne_r1_b984
 have Ef1028 : Exa Z h1024 b984 "[B" := (Ef1019).wr W1024
 have V1024 : Arv Z h1024 b984 k984 .byte (5 : Int32) [(.int (own_m0 cc)), (.int (own_m1 cc)), (.int (own_m2 cc)), (.int (own_l3 cc)), (.int 0)] (.int 0) := Arv.set Ar1024 q1024 S1024 M1024 H1024 G1024 (fits_nar_byte _) W1024 3 rfl (Nat.le_of_ble_eq_true rfl)
 have pre1029 : own_P p e below T1024 (mkF m 48 #[vR a0, vR b984, vI 3, vJ (own_u4 cc), .second, vI (own_g3 cc)] []) s₁ (entryFrame m #[(.ref a0)] 6) := fun t k => pre1023 t (st1024 t k)
 have pre1030 : own_P p e below T1024 (mkF m 60 #[vR a0, vR b984, vI 4, vJ (own_u4 cc), .second, vI (own_g3 cc)] [(.ref a0), (.int 4), (.ref b984)]) s₁ (entryFrame m #[(.ref a0)] 6) := by
  intro t k
  refine pre1029 t ?_
  refine XS.iinc X1024.here hx rfl (hb hby d4_48) rfl (l' := #[vR a0, vR b984, vI 4, vJ (own_u4 cc), .second, vI (own_g3 cc)]) rfl ?_
  refine XS.lloadN X1024.here hx rfl (hb hby d4_51) rfl ?_
  refine XS.lconst X1024.here hx rfl (hb hby d4_52) ?_
  refine XS.lcmp X1024.here hx rfl (hb hby d4_53) rfl ?_
  refine XS.ifNo X1024.here hx rfl (hb hby d4_54) rfl ((if0 _ _).trans (teq (own_eqL hk1022)).2) ?_
  refine XS.aloadN X1024.here hx rfl (hb hby d4_57) rfl rfl ?_
  refine XS.iloadN X1024.here hx rfl (hb hby d4_58) rfl ?_
  refine XS.aloadN X1024.here hx rfl (hb hby d4_59) rfl rfl ?_
  exact k
 obtain ⟨T1031, X1031, e1031, st1031⟩ := getF X1024 hx hZ hown (host := "") (Or.inl (own_w hw 17 rfl)) Via.refl e1024 Ff1026 (g := (mkF m 60 #[vR a0, vR b984, vI 4, vJ (own_u4 cc), .second, vI (own_g3 cc)] [(.ref a0), (.int 4), (.ref b984)])) rfl rfl (hb hby d4_60)
 have pre1032 : own_P p e below T1031 (mkF m 63 #[vR a0, vR b984, vI 4, vJ (own_u4 cc), .second, vI (own_g3 cc)] [(.ref r1), (.int 4), (.ref b984)]) s₁ (entryFrame m #[(.ref a0)] 6) := fun t k => pre1030 t (st1031 t k)
 obtain ⟨cl1033, Ar1033, q1033, S1033, M1033, H1033, G1033⟩ := id Vf1027
 have pre1034 : own_P p e below T1031 (mkF m 65 #[vR a0, vR b984, vI 4, vJ (own_u4 cc), .second, vI (own_g3 cc)] [(.int 6), (.ref b984)]) s₁ (entryFrame m #[(.ref a0)] 6) := by
  intro t k
  refine pre1032 t ?_
  refine X1031.arraylength hx (by rw [e1031]; exact Ar1033.1) (State.isArrayOf_alike hZ.alike Ar1033.2.1) (g := (mkF m 63 #[vR a0, vR b984, vI 4, vJ (own_u4 cc), .second, vI (own_g3 cc)] [(.ref r1), (.int 4), (.ref b984)])) rfl rfl (hb hby d4_63) _ ?_
  rw [len_of S1033 M1033]
  refine XS.iadd X1031.here hx rfl (hb hby d4_64) rfl ?_
  exact k
 obtain ⟨_, _, ⟨T1035, L1035, k1035, n1035⟩, -, X1035, ⟨Lc1035, hQ1035, l1035, y1035, z1035⟩, st1035⟩ := Jvm.LawKit.callS X1031 hx (y := (⟨"java/util/Arrays", "copyOf", "([BI)[B"⟩ : MethodName)) hown (mvT hZ (own_w hw 30 rfl)) (mvT hZ (own_w hw 31 rfl)) (mvT hZ (own_w hw 32 rfl)) (mvT hZ (own_w hw 33 rfl)) (by decide) (backOf (W := 0) (rm6_6 l Z ar0 hw [] b984 k984 (own_m0 cc) (own_m1 cc) (own_m2 cc) (own_l3 cc) (0 : Int32) h1024 n0 Z1024 V1024 Ef1028) hZ (own_w hw 33 rfl) (own_w hw 32 rfl) (by decide) (by decide)) (g := (mkF m 65 #[vR a0, vR b984, vI 4, vJ (own_u4 cc), .second, vI (own_g3 cc)] [(.int 6), (.ref b984)])) rfl (by rw [hml]; rfl) (argsL := [(.ref b984), (.int 6)]) (rest := []) (lenOf pd_3 rfl) rfl (by show 2 * 0 + _ ≤ _; exact Nat.le_of_eq rfl) (hb hby d4_65) (fun _ _ => ⟨rfl, e1031, (by decide : 1 + 1 ≤ _), (by decide : 5 + 6 ≤ _)⟩)
 dsimp only [Pt.U, Pt.locs, Pt.cells, Pt.slots] at X1035 l1035 y1035 z1035 st1035 hQ1035
 subst l1035 y1035 z1035
 obtain ⟨h1035, e1035⟩ : ∃ h, T1035.heap = h := ⟨_, rfl⟩
 rw [e1035] at hQ1035
 obtain ⟨b1035, kb1035, rfl, N1035q, K1035q, y_b1035, Ob1035_0, Ob1035_1⟩ := hQ1035
 have N1035 := Fr.app N1024 N1035q
 have ne_a0_b1035 : a0 ≠ b1035 := Nat.ne_of_lt (Nat.lt_of_lt_of_le (Ff1025).lt y_b1035)
 have ne_r1_b1035 : r1 ≠ b1035 := Nat.ne_of_lt (Nat.lt_of_lt_of_le (Vf1027).lt y_b1035)
 have ne_b984_b1035 : b984 ≠ b1035 := Nat.ne_of_lt (Nat.lt_of_lt_of_le (Ef1028).lt y_b1035)
 have g_b1035 : n0 ≤ b1035 := Nat.le_trans Z1024 y_b1035
 have sz_b1035 : h0.size ≤ b1035 := Nat.le_trans K1024.1 y_b1035
 have Z1035 : n0 ≤ h1035.size := Nat.le_trans Z1024 K1035q.1
 have K1035 : Keep h0 h1035 [] := K1024.trans K1035q (fun x hx => absurd hx List.not_mem_nil)
 have Ff1036 : Fld Z h1035 a0 own_CK "collection" "I" (.int cc) := (Ff1025).keep K1035q List.not_mem_nil
 have Ff1037 : Fld Z h1035 a0 own_CK "documentKey" "[B" (.ref r1) := (Ff1026).keep K1035q List.not_mem_nil
 have Vf1038 : Arv Z h1035 r1 k_r1 .byte (2 : Int32) [(.int y0), (.int y1)] (.int 0) := (Vf1027).keep K1035q List.not_mem_nil
 have Ef1039 : Exa Z h1035 b984 "[B" := (Ef1028).keep K1035q
 have Vf1040 : Arv Z h1035 b984 k984 .byte (5 : Int32) [(.int (own_m0 cc)), (.int (own_m1 cc)), (.int (own_m2 cc)), (.int (own_l3 cc)), (.int 0)] (.int 0) := (V1024).keep K1035q List.not_mem_nil
 have pre1041 : own_P p e below T1035 (mkF m 68 #[vR a0, vR b984, vI 4, vJ (own_u4 cc), .second, vI (own_g3 cc)] [(.ref b1035)]) s₁ (entryFrame m #[(.ref a0)] 6) := fun t k => pre1034 t (st1035 t k)
 have pre1042 : own_P p e below T1035 (mkF m 71 #[vR a0, vR b984, vI 4, vJ (own_u4 cc), .second, vR b1035] [(.ref a0)]) s₁ (entryFrame m #[(.ref a0)] 6) := by
  intro t k
  refine pre1041 t ?_
  refine XS.astore X1035.here hx rfl (hb hby d4_68) rfl rfl (l' := #[vR a0, vR b984, vI 4, vJ (own_u4 cc), .second, vR b1035]) rfl ?_
  refine XS.aloadN X1035.here hx rfl (hb hby d4_70) rfl rfl ?_
  exact k
 obtain ⟨T1043, X1043, e1043, st1043⟩ := getF X1035 hx hZ hown (host := "") (Or.inl (own_w hw 17 rfl)) Via.refl e1035 Ff1037 (g := (mkF m 71 #[vR a0, vR b984, vI 4, vJ (own_u4 cc), .second, vR b1035] [(.ref a0)])) rfl rfl (hb hby d4_71)
 have pre1044 : own_P p e below T1043 (mkF m 74 #[vR a0, vR b984, vI 4, vJ (own_u4 cc), .second, vR b1035] [(.ref r1)]) s₁ (entryFrame m #[(.ref a0)] 6) := fun t k => pre1042 t (st1043 t k)
 have pre1045 : own_P p e below T1043 (mkF m 79 #[vR a0, vR b984, vI 4, vJ (own_u4 cc), .second, vR b1035] [(.ref a0), (.int 4), (.ref b1035), (.int 0), (.ref r1)]) s₁ (entryFrame m #[(.ref a0)] 6) := by
  intro t k
  refine pre1044 t ?_
  refine XS.iconst X1043.here hx rfl (hb hby d4_74) ?_
  refine XS.aload X1043.here hx rfl (hb hby d4_75) rfl rfl ?_
  refine XS.iloadN X1043.here hx rfl (hb hby d4_77) rfl ?_
  refine XS.aloadN X1043.here hx rfl (hb hby d4_78) rfl rfl ?_
  exact k
 obtain ⟨T1046, X1046, e1046, st1046⟩ := getF X1043 hx hZ hown (host := "") (Or.inl (own_w hw 17 rfl)) Via.refl e1043 Ff1037 (g := (mkF m 79 #[vR a0, vR b984, vI 4, vJ (own_u4 cc), .second, vR b1035] [(.ref a0), (.int 4), (.ref b1035), (.int 0), (.ref r1)])) rfl rfl (hb hby d4_79)
 have pre1047 : own_P p e below T1046 (mkF m 82 #[vR a0, vR b984, vI 4, vJ (own_u4 cc), .second, vR b1035] [(.ref r1), (.int 4), (.ref b1035), (.int 0), (.ref r1)]) s₁ (entryFrame m #[(.ref a0)] 6) := fun t k => pre1045 t (st1046 t k)
 obtain ⟨cl1048, Ar1048, q1048, S1048, M1048, H1048, G1048⟩ := id Vf1038
 have pre1049 : own_P p e below T1046 (mkF m 83 #[vR a0, vR b984, vI 4, vJ (own_u4 cc), .second, vR b1035] [(.int 2), (.int 4), (.ref b1035), (.int 0), (.ref r1)]) s₁ (entryFrame m #[(.ref a0)] 6) := by
  intro t k
  refine pre1047 t ?_
  refine X1046.arraylength hx (by rw [e1046]; exact Ar1048.1) (State.isArrayOf_alike hZ.alike Ar1048.2.1) (g := (mkF m 82 #[vR a0, vR b984, vI 4, vJ (own_u4 cc), .second, vR b1035] [(.ref r1), (.int 4), (.ref b1035), (.int 0), (.ref r1)])) rfl rfl (hb hby d4_82) _ ?_
  rw [len_of S1048 M1048]
  exact k
 obtain ⟨T1050, h1050, L1050, X1050, e1050, N1050, K1050q, V1050q, st1050⟩ := cpA X1046 hx hZ hown (own_w hw 42 rfl) (own_w hw 41 rfl) (own_w hw 39 rfl) (own_w hw 40 rfl) e1046 Vf1038 Ob1035_1 (Or.inl ⟨rfl, rfl⟩) (by decide) (by decide) (by decide) (by decide) (by decide) (us := [(.int y0), (.int y1)]) rfl (Nat.le_of_ble_eq_true rfl) N1035 g_b1035 (g := (mkF m 83 #[vR a0, vR b984, vI 4, vJ (own_u4 cc), .second, vR b1035] [(.int 2), (.int 4), (.ref b1035), (.int 0), (.ref r1)])) rfl (by rw [hml]; rfl) rfl (hb hby d4_83) (by decide) (W := 0) (by show 2 * 0 + _ ≤ _; exact Nat.le_of_eq rfl) (by decide)
 have Z1050 : n0 ≤ h1050.size := Nat.le_trans Z1035 K1050q.1
 have K1050 : Keep h0 h1050 [] := K1035.trans K1050q (fun x hx => by cases List.mem_singleton.mp hx; exact Or.inr sz_b1035)
 have Ff1051 : Fld Z h1050 a0 own_CK "collection" "I" (.int cc) := (Ff1036).keep K1050q (fun q => absurd (List.mem_singleton.mp q) ne_a0_b1035)
 have Ff1052 : Fld Z h1050 a0 own_CK "documentKey" "[B" (.ref r1) := (Ff1037).keep K1050q (fun q => absurd (List.mem_singleton.mp q) ne_a0_b1035)
 have Vf1053 : Arv Z h1050 r1 k_r1 .byte (2 : Int32) [(.int y0), (.int y1)] (.int 0) := (Vf1038).keep K1050q (fun q => absurd (List.mem_singleton.mp q) ne_r1_b1035)
 have Ef1054 : Exa Z h1050 b984 "[B" := (Ef1039).keep K1050q
 have Vf1055 : Arv Z h1050 b984 k984 .byte (5 : Int32) [(.int (own_m0 cc)), (.int (own_m1 cc)), (.int (own_m2 cc)), (.int (own_l3 cc)), (.int 0)] (.int 0) := (Vf1040).keep K1050q (fun q => absurd (List.mem_singleton.mp q) ne_b984_b1035)
 have Ef1056 : Exa Z h1050 b1035 "[B" := (Ob1035_0).keep K1050q
 have V1050 : Arv Z h1050 b1035 kb1035 .byte (6 : Int32) [(.int (own_m0 cc)), (.int (own_m1 cc)), (.int (own_m2 cc)), (.int (own_l3 cc)), (.int y0), (.int y1)] (.int 0) := V1050q
 have pre1057 : own_P p e below T1050 (mkF m 86 #[vR a0, vR b984, vI 4, vJ (own_u4 cc), .second, vR b1035] []) s₁ (entryFrame m #[(.ref a0)] 6) := fun t k => pre1049 t (st1050 t k)
 obtain ⟨fs, hr, hrun, hended, hW, hsame⟩ := X1050.leave (v := some (.ref b1035)) (fun h => by rw [Bd.returns] at h; cases h)
 refine ⟨_, _, pre1057 _ ?_, hrun, hended, _, _, rfl, ?_, ⟨_, rfl⟩, hW, hsame.mono (by decide) (by decide)⟩
 ·
  refine XS.aload X1050.here hx rfl (hb hby d4_86) rfl rfl ?_
  exact retOut X1050 hx Bd.returns rfl (Or.inr (Or.inr (Or.inr (Or.inr ⟨rfl, rfl, rfl⟩)))) (hb hby d4_88) hr
 ·
  show Q4_4_2 Z a0 cc r1 k_r1 y0 y1 h0 n0 _ T1050.heap _
  rw [e1050]
  exact ⟨b1035, kb1035, rfl, N1050, K1050, sz_b1035, Ef1056, V1050⟩
def Q4_4_3 (Z : State) (a0 : Addr) (cc : Int32) (r1 : Addr) (k_r1 : ClassId) (y0 : Int32) (y1 : Int32) (y2 : Int32) (h0 : Heap) (n0 : Nat) (v : Option Value) (h : Heap) (L : List Loc) : Prop := ∃ (b : Addr) (k_b : ClassId), v = some (.ref b) ∧ Fr n0 L ∧ Keep h0 h [] ∧ h0.size ≤ b ∧ Exa Z h b "[B" ∧ Arv Z h b k_b .byte (7 : Int32) [(.int (own_m0 cc)), (.int (own_m1 cc)), (.int (own_m2 cc)), (.int (own_l3 cc)), (.int y0), (.int y1), (.int y2)] (.int 0)
set_option maxRecDepth 65536 in
set_option maxHeartbeats 40000000 in
theorem rm4_4_3 (l : Launch) (Z : State) (ar0 : Array Value) (hw : ∀ d ∈ tables_1, d.before ar0 Z = true) (ws : List Jvm.Cond) (a0 : Addr) (cc : Int32) (r1 : Addr) (k_r1 : ClassId) (y0 : Int32) (y1 : Int32) (y2 : Int32) (h0 : Heap) (n0 : Nat) (Z0 : n0 ≤ h0.size) (F_collection_a0 : Fld Z h0 a0 own_CK "collection" "I" (.int cc)) (F_documentKey_a0 : Fld Z h0 a0 own_CK "documentKey" "[B" (.ref r1)) (V_r1 : Arv Z h0 r1 k_r1 .byte (3 : Int32) [(.int y0), (.int y1), (.int y2)] (.int 0)) (hz1 : ¬ ((own_u1 cc) = (0 : Int64))) (hz2 : ¬ ((own_u2 cc) = (0 : Int64))) (hz3 : ¬ ((own_u3 cc) = (0 : Int64))) (hz4 : (own_u4 cc) = (0 : Int64)) :
  MetFree l (⟨own_CK, "write", "()[B"⟩ : MethodName) (head1 (Jvm.Cond.code (⟨own_CK, "write", "()[B"⟩ : MethodName) prog_8_method_3_code 6 (some (.array .byte)) :: ws) ({ frames := 2, cells := 2, slots := 12, locals := 32 } : Room)) (fun a U => a = #[(.ref a0)] ∧ Z.Warmed39 U.vm ∧ U.heap = h0) (fun _ _ _ _ _ => True) (fun _ U o U' => ∃ v L, o = .returned v ∧ Q4_4_3 Z a0 cc r1 k_r1 y0 y1 y2 h0 n0 v U'.heap L ∧ FrameEnd U o U' L ({ frames := 2, cells := 2, slots := 12, locals := 32 } : Room).cells ({ frames := 2, cells := 2, slots := 12, locals := 32 } : Room).slots) := by
 refine MetFree.of_bodySF (plainFor_of_name pn_1) hisR ?_
 intro p e s m args below meth c s₁ Bd hml0 hP hK
 obtain ⟨rfl, hZ, hh⟩ := hP
 have hx := Bd.exec
 have hby := Bd.bytes
 have hml : c.maxLocals = 6 := hml0
 have hown : s.vm.findClass own_CK = some m.cls := by have q := findClass_of_methodNamed Bd.named; exact q
 have hnm := (name_of_methodNamed Bd.named Bd.method).1
 have X0 : Stand p l e ({ frames := 2, cells := 2, slots := 12, locals := 32 } : Room) s m #[(.ref a0)] below meth c s₁ [] 0 0 := Stand.of_body Bd
 have e0 : s₁.heap = h0 := by rw [← hh, Bd.state]; rfl
 have N0 := Fr.nil n0
 have pre0 : own_P p e below s₁ (mkF m 0 #[vR a0, .unset, .unset, .unset, .unset, .unset] []) s₁ (entryFrame m #[(.ref a0)] 6) := fun t k => castTop (ef_4 m a0) k
 have pre1058 : own_P p e below s₁ (mkF m 1 #[vR a0, .unset, .unset, .unset, .unset, .unset] [(.int 5)]) s₁ (entryFrame m #[(.ref a0)] 6) := by
  intro t k
  refine pre0 t ?_
  refine XS.iconst X0.here hx rfl (hb hby d4_0) ?_
  exact k
 obtain ⟨T1059, h1059, k1059, X1059, e1059, E1059, A1059, C1059, st1059⟩ := newPE X0 hx hZ (own_w hw 0 rfl) e0 (g := (mkF m 1 #[vR a0, .unset, .unset, .unset, .unset, .unset] [(.int 5)])) rfl (hb hby d4_1) rfl (by decide) (cap := 5) (by decide) (by decide) (by decide) (by decide) (ad := "[B") rfl
 obtain ⟨b1059, g1059⟩ : ∃ z, z = h0.size := ⟨_, rfl⟩
 rw [← g1059] at A1059 C1059 st1059
 have ne_a0_b1059 : a0 ≠ b1059 := Nat.ne_of_lt (Nat.lt_of_lt_of_le (F_collection_a0).lt (Nat.le_of_eq g1059.symm))
 have ne_r1_b1059 : r1 ≠ b1059 := Nat.ne_of_lt (Nat.lt_of_lt_of_le (V_r1).lt (Nat.le_of_eq g1059.symm))
 have g_b1059 : n0 ≤ b1059 := Nat.le_trans Z0 (Nat.le_of_eq g1059.symm)
 have sz_b1059 : h0.size ≤ b1059 := Nat.le_trans (Keep.refl h0 []).1 (Nat.le_of_eq g1059.symm)
 have Z1059 : n0 ≤ h1059.size := Nat.le_trans Z0 E1059.1
 have K1059 : Keep h0 h1059 [] := (Keep.refl h0 []).ext E1059
 have Ff1060 : Fld Z h1059 a0 own_CK "collection" "I" (.int cc) := (F_collection_a0).ext E1059
 have Ff1061 : Fld Z h1059 a0 own_CK "documentKey" "[B" (.ref r1) := (F_documentKey_a0).ext E1059
 have Vf1062 : Arv Z h1059 r1 k_r1 .byte (3 : Int32) [(.int y0), (.int y1), (.int y2)] (.int 0) := (V_r1).ext E1059
 have V_b1059 : Arv Z h1059 b1059 k1059 .byte (5 : Int32) [(.int 0), (.int 0), (.int 0), (.int 0), (.int 0)] (.int 0) := (Arv.new A1059 (by decide)).pad (pad_rep [] (.int 0) 5)
 have pre1063 : own_P p e below T1059 (mkF m 3 #[vR a0, .unset, .unset, .unset, .unset, .unset] [(.ref b1059)]) s₁ (entryFrame m #[(.ref a0)] 6) := fun t k => pre1058 t (st1059 t k)
 have pre1064 : own_P p e below T1059 (mkF m 7 #[vR a0, vR b1059, vI 0, .unset, .unset, .unset] [(.ref a0)]) s₁ (entryFrame m #[(.ref a0)] 6) := by
  intro t k
  refine pre1063 t ?_
  refine XS.astoreN X1059.here hx rfl (hb hby d4_3) rfl rfl (l' := #[vR a0, vR b1059, .unset, .unset, .unset, .unset]) rfl ?_
  refine XS.iconst X1059.here hx rfl (hb hby d4_4) ?_
  refine XS.istoreN X1059.here hx rfl (hb hby d4_5) rfl (l' := #[vR a0, vR b1059, vI 0, .unset, .unset, .unset]) rfl ?_
  refine XS.aloadN X1059.here hx rfl (hb hby d4_6) rfl rfl ?_
  exact k
 obtain ⟨T1065, X1065, e1065, st1065⟩ := getF X1059 hx hZ hown (host := "") (Or.inl (own_w hw 15 rfl)) Via.refl e1059 Ff1060 (g := (mkF m 7 #[vR a0, vR b1059, vI 0, .unset, .unset, .unset] [(.ref a0)])) rfl rfl (hb hby d4_7)
 have pre1066 : own_P p e below T1065 (mkF m 10 #[vR a0, vR b1059, vI 0, .unset, .unset, .unset] [(.int cc)]) s₁ (entryFrame m #[(.ref a0)] 6) := fun t k => pre1064 t (st1065 t k)
 obtain ⟨_, _, ⟨T1067, L1067, k1067, n1067⟩, -, X1067, ⟨Lc1067, hQ1067, l1067, y1067, z1067⟩, st1067⟩ := Jvm.LawKit.callS X1065 hx (y := (⟨"java/lang/Integer", "toUnsignedLong", "(I)J"⟩ : MethodName)) hown (mvT hZ (own_w hw 24 rfl)) (mvT hZ (own_w hw 25 rfl)) (mvT hZ (own_w hw 26 rfl)) (mvT hZ (own_w hw 27 rfl)) (by decide) (backOf (W := 0) (rm5 l Z ar0 hw [] cc h1059 n0 Z1059) hZ (own_w hw 27 rfl) (own_w hw 26 rfl) (by decide) (by decide)) (g := (mkF m 10 #[vR a0, vR b1059, vI 0, .unset, .unset, .unset] [(.int cc)])) rfl (by rw [hml]; rfl) (argsL := [(.int cc)]) (rest := []) (lenOf pd_2 rfl) rfl (by show 2 * 0 + _ ≤ _; exact Nat.le_of_eq rfl) (hb hby d4_10) (fun _ _ => ⟨rfl, e1065, (by decide : 1 + 0 ≤ _), (by decide : 5 + 0 ≤ _)⟩)
 dsimp only [Pt.U, Pt.locs, Pt.cells, Pt.slots] at X1067 l1067 y1067 z1067 st1067 hQ1067
 subst l1067 y1067 z1067
 obtain ⟨rfl, N1067q, e1067⟩ := hQ1067
 have N1067 := Fr.app N0 N1067q
 have pre1068 : own_P p e below T1067 (mkF m 13 #[vR a0, vR b1059, vI 0, .unset, .unset, .unset] [(.long (own_u0 cc))]) s₁ (entryFrame m #[(.ref a0)] 6) := fun t k => pre1066 t (st1067 t k)
 have pre1069 : own_P p e below T1067 (mkF m 32 #[vR a0, vR b1059, vI 0, vJ (own_u1 cc), .second, vI (own_g0 cc)] [(.int (lcmpW (own_u1 cc) (0 : Int64))), (.int 0), (.ref b1059)]) s₁ (entryFrame m #[(.ref a0)] 6) := by
  intro t k
  refine pre1068 t ?_
  refine XS.lstoreN X1067.here hx rfl (hb hby d4_13) rfl (l' := #[vR a0, vR b1059, vI 0, vJ (own_u0 cc), .second, .unset]) rfl ?_
  refine XS.lloadN X1067.here hx rfl (hb hby d4_14) rfl ?_
  refine X1067.ldc2Long hx hown (mvT hZ (own_w hw 29 rfl)) (g := (mkF m 15 #[vR a0, vR b1059, vI 0, vJ (own_u0 cc), .second, .unset] [(.long (own_u0 cc))])) rfl (hb hby d4_15) _ ?_
  refine XS.land X1067.here hx rfl (hb hby d4_18) rfl ?_
  refine XS.l2i X1067.here hx rfl (hb hby d4_19) rfl ?_
  refine XS.istore X1067.here hx rfl (hb hby d4_20) rfl (l' := #[vR a0, vR b1059, vI 0, vJ (own_u0 cc), .second, vI (own_g0 cc)]) rfl ?_
  refine XS.lloadN X1067.here hx rfl (hb hby d4_22) rfl ?_
  refine XS.bipush X1067.here hx rfl (hb hby d4_23) ?_
  refine XS.lushr X1067.here hx rfl (hb hby d4_25) rfl ?_
  refine XS.lstoreN X1067.here hx rfl (hb hby d4_26) rfl (l' := #[vR a0, vR b1059, vI 0, vJ (own_u1 cc), .second, vI (own_g0 cc)]) rfl ?_
  refine XS.aloadN X1067.here hx rfl (hb hby d4_27) rfl rfl ?_
  refine XS.iloadN X1067.here hx rfl (hb hby d4_28) rfl ?_
  refine XS.lloadN X1067.here hx rfl (hb hby d4_29) rfl ?_
  refine XS.lconst X1067.here hx rfl (hb hby d4_30) ?_
  refine XS.lcmp X1067.here hx rfl (hb hby d4_31) rfl ?_
  exact k
 have hk1070 : ¬ ((own_u1 cc) = (0 : Int64)) := hz1
 have pre1071 : own_P p e below T1067 (mkF m 47 #[vR a0, vR b1059, vI 0, vJ (own_u1 cc), .second, vI (own_g0 cc)] [(.int (((own_g0 cc) ||| (128 : Int32)).toInt8.toInt32)), (.int 0), (.ref b1059)]) s₁ (entryFrame m #[(.ref a0)] 6) := by
  intro t k
  refine pre1069 t ?_
  refine XS.ifYes X1067.here hx rfl (pc0 := 32) (pc' := 40) rfl (hb hby d4_32) rfl ((if0 _ _).trans (feq (own_neL hk1070)).2) (by decide) (by decide) ?_
  refine XS.iload X1067.here hx rfl (hb hby d4_40) rfl ?_
  refine XS.sipush X1067.here hx rfl (hb hby d4_42) ?_
  refine XS.ior X1067.here hx rfl (hb hby d4_45) rfl ?_
  refine XS.i2b X1067.here hx rfl (hb hby d4_46) rfl ?_
  exact k
 obtain ⟨cl1072, Ar1072, q1072, S1072, M1072, H1072, G1072⟩ := id V_b1059
 have hin1072 : ¬ ((0 : Int32) < 0 ∨ cl1072.slots.size ≤ ((0 : Int32)).toNatClampNeg) := inb_of S1072 ⟨by decide, by decide⟩
 obtain ⟨T1072, h1072, X1072, e1072, W1072, st1072⟩ := stB X1067 hx hZ e1067 Ar1072 (j := (0 : Int32)) hin1072 (g := (mkF m 47 #[vR a0, vR b1059, vI 0, vJ (own_u1 cc), .second, vI (own_g0 cc)] [(.int (((own_g0 cc) ||| (128 : Int32)).toInt8.toInt32)), (.int 0), (.ref b1059)])) rfl rfl (hb hby d4_47)
 have Z1072 : n0 ≤ h1072.size := Nat.le_trans Z1059 (Keep.of_wr W1072).1
 have K1072 : Keep h0 h1072 [] := K1059.wr W1072 (Or.inr sz_b1059)
 have N1072 := Fr.snoc X1072 N1067 g_b1059
 have Ff1073 : Fld Z h1072 a0 own_CK "collection" "I" (.int cc) := (Ff1060).other W1072 (Or.inl ne_a0_b1059)
 have Ff1074 : Fld Z h1072 a0 own_CK "documentKey" "[B" (.ref r1) := (Ff1061).other W1072 (Or.inl ne_a0_b1059)
 have Vf1075 : Arv Z h1072 r1 k_r1 .byte (3 : Int32) [(.int y0), (.int y1), (.int y2)] (.int 0) := (Vf1062).other W1072 ne_r1_b1059
 have Ef1076 : Exa Z h1072 b1059 "[B" := (C1059).wr W1072
 have V1072 : Arv Z h1072 b1059 k1059 .byte (5 : Int32) [(.int (own_m0 cc)), (.int 0), (.int 0), (.int 0), (.int 0)] (.int 0) := Arv.set Ar1072 q1072 S1072 M1072 H1072 G1072 (fits_nar_byte _) W1072 0 rfl (Nat.le_of_ble_eq_true rfl)
 have pre1077 : own_P p e below T1072 (mkF m 48 #[vR a0, vR b1059, vI 0, vJ (own_u1 cc), .second, vI (own_g0 cc)] []) s₁ (entryFrame m #[(.ref a0)] 6) := fun t k => pre1071 t (st1072 t k)
 have pre1078 : own_P p e below T1072 (mkF m 32 #[vR a0, vR b1059, vI 1, vJ (own_u2 cc), .second, vI (own_g1 cc)] [(.int (lcmpW (own_u2 cc) (0 : Int64))), (.int 1), (.ref b1059)]) s₁ (entryFrame m #[(.ref a0)] 6) := by
  intro t k
  refine pre1077 t ?_
  refine XS.iinc X1072.here hx rfl (hb hby d4_48) rfl (l' := #[vR a0, vR b1059, vI 1, vJ (own_u1 cc), .second, vI (own_g0 cc)]) rfl ?_
  refine XS.lloadN X1072.here hx rfl (hb hby d4_51) rfl ?_
  refine XS.lconst X1072.here hx rfl (hb hby d4_52) ?_
  refine XS.lcmp X1072.here hx rfl (hb hby d4_53) rfl ?_
  refine XS.ifYes X1072.here hx rfl (pc0 := 54) (pc' := 14) rfl (hb hby d4_54) rfl ((if0 _ _).trans (feq (own_neL hk1070)).2) (by decide) (by decide) ?_
  refine XS.lloadN X1072.here hx rfl (hb hby d4_14) rfl ?_
  refine X1072.ldc2Long hx hown (mvT hZ (own_w hw 29 rfl)) (g := (mkF m 15 #[vR a0, vR b1059, vI 1, vJ (own_u1 cc), .second, vI (own_g0 cc)] [(.long (own_u1 cc))])) rfl (hb hby d4_15) _ ?_
  refine XS.land X1072.here hx rfl (hb hby d4_18) rfl ?_
  refine XS.l2i X1072.here hx rfl (hb hby d4_19) rfl ?_
  refine XS.istore X1072.here hx rfl (hb hby d4_20) rfl (l' := #[vR a0, vR b1059, vI 1, vJ (own_u1 cc), .second, vI (own_g1 cc)]) rfl ?_
  refine XS.lloadN X1072.here hx rfl (hb hby d4_22) rfl ?_
  refine XS.bipush X1072.here hx rfl (hb hby d4_23) ?_
  refine XS.lushr X1072.here hx rfl (hb hby d4_25) rfl ?_
  refine XS.lstoreN X1072.here hx rfl (hb hby d4_26) rfl (l' := #[vR a0, vR b1059, vI 1, vJ (own_u2 cc), .second, vI (own_g1 cc)]) rfl ?_
  refine XS.aloadN X1072.here hx rfl (hb hby d4_27) rfl rfl ?_
  refine XS.iloadN X1072.here hx rfl (hb hby d4_28) rfl ?_
  refine XS.lloadN X1072.here hx rfl (hb hby d4_29) rfl ?_
  refine XS.lconst X1072.here hx rfl (hb hby d4_30) ?_
  refine XS.lcmp X1072.here hx rfl (hb hby d4_31) rfl ?_
  exact k
 have hk1079 : ¬ ((own_u2 cc) = (0 : Int64)) := hz2
 have pre1080 : own_P p e below T1072 (mkF m 47 #[vR a0, vR b1059, vI 1, vJ (own_u2 cc), .second, vI (own_g1 cc)] [(.int (((own_g1 cc) ||| (128 : Int32)).toInt8.toInt32)), (.int 1), (.ref b1059)]) s₁ (entryFrame m #[(.ref a0)] 6) := by
  intro t k
  refine pre1078 t ?_
  refine XS.ifYes X1072.here hx rfl (pc0 := 32) (pc' := 40) rfl (hb hby d4_32) rfl ((if0 _ _).trans (feq (own_neL hk1079)).2) (by decide) (by decide) ?_
  refine XS.iload X1072.here hx rfl (hb hby d4_40) rfl ?_
  refine XS.sipush X1072.here hx rfl (hb hby d4_42) ?_
  refine XS.ior X1072.here hx rfl (hb hby d4_45) rfl ?_
  refine XS.i2b X1072.here hx rfl (hb hby d4_46) rfl ?_
  exact k
 obtain ⟨cl1081, Ar1081, q1081, S1081, M1081, H1081, G1081⟩ := id V1072
 have hin1081 : ¬ ((1 : Int32) < 0 ∨ cl1081.slots.size ≤ ((1 : Int32)).toNatClampNeg) := inb_of S1081 ⟨by decide, by decide⟩
 obtain ⟨T1081, h1081, X1081, e1081, W1081, st1081⟩ := stB X1072 hx hZ e1072 Ar1081 (j := (1 : Int32)) hin1081 (g := (mkF m 47 #[vR a0, vR b1059, vI 1, vJ (own_u2 cc), .second, vI (own_g1 cc)] [(.int (((own_g1 cc) ||| (128 : Int32)).toInt8.toInt32)), (.int 1), (.ref b1059)])) rfl rfl (hb hby d4_47)
 have Z1081 : n0 ≤ h1081.size := Nat.le_trans Z1072 (Keep.of_wr W1081).1
 have K1081 : Keep h0 h1081 [] := K1072.wr W1081 (Or.inr sz_b1059)
 have N1081 := Fr.snoc X1081 N1072 g_b1059
 have Ff1082 : Fld Z h1081 a0 own_CK "collection" "I" (.int cc) := (Ff1073).other W1081 (Or.inl ne_a0_b1059)
 have Ff1083 : Fld Z h1081 a0 own_CK "documentKey" "[B" (.ref r1) := (Ff1074).other W1081 (Or.inl ne_a0_b1059)
 have Vf1084 : Arv Z h1081 r1 k_r1 .byte (3 : Int32) [(.int y0), (.int y1), (.int y2)] (.int 0) := (Vf1075).other W1081 ne_r1_b1059
 have Ef1085 : Exa Z h1081 b1059 "[B" := (Ef1076).wr W1081
 have V1081 : Arv Z h1081 b1059 k1059 .byte (5 : Int32) [(.int (own_m0 cc)), (.int (own_m1 cc)), (.int 0), (.int 0), (.int 0)] (.int 0) := Arv.set Ar1081 q1081 S1081 M1081 H1081 G1081 (fits_nar_byte _) W1081 1 rfl (Nat.le_of_ble_eq_true rfl)
 have pre1086 : own_P p e below T1081 (mkF m 48 #[vR a0, vR b1059, vI 1, vJ (own_u2 cc), .second, vI (own_g1 cc)] []) s₁ (entryFrame m #[(.ref a0)] 6) := fun t k => pre1080 t (st1081 t k)
 have pre1087 : own_P p e below T1081 (mkF m 32 #[vR a0, vR b1059, vI 2, vJ (own_u3 cc), .second, vI (own_g2 cc)] [(.int (lcmpW (own_u3 cc) (0 : Int64))), (.int 2), (.ref b1059)]) s₁ (entryFrame m #[(.ref a0)] 6) := by
  intro t k
  refine pre1086 t ?_
  refine XS.iinc X1081.here hx rfl (hb hby d4_48) rfl (l' := #[vR a0, vR b1059, vI 2, vJ (own_u2 cc), .second, vI (own_g1 cc)]) rfl ?_
  refine XS.lloadN X1081.here hx rfl (hb hby d4_51) rfl ?_
  refine XS.lconst X1081.here hx rfl (hb hby d4_52) ?_
  refine XS.lcmp X1081.here hx rfl (hb hby d4_53) rfl ?_
  refine XS.ifYes X1081.here hx rfl (pc0 := 54) (pc' := 14) rfl (hb hby d4_54) rfl ((if0 _ _).trans (feq (own_neL hk1079)).2) (by decide) (by decide) ?_
  refine XS.lloadN X1081.here hx rfl (hb hby d4_14) rfl ?_
  refine X1081.ldc2Long hx hown (mvT hZ (own_w hw 29 rfl)) (g := (mkF m 15 #[vR a0, vR b1059, vI 2, vJ (own_u2 cc), .second, vI (own_g1 cc)] [(.long (own_u2 cc))])) rfl (hb hby d4_15) _ ?_
  refine XS.land X1081.here hx rfl (hb hby d4_18) rfl ?_
  refine XS.l2i X1081.here hx rfl (hb hby d4_19) rfl ?_
  refine XS.istore X1081.here hx rfl (hb hby d4_20) rfl (l' := #[vR a0, vR b1059, vI 2, vJ (own_u2 cc), .second, vI (own_g2 cc)]) rfl ?_
  refine XS.lloadN X1081.here hx rfl (hb hby d4_22) rfl ?_
  refine XS.bipush X1081.here hx rfl (hb hby d4_23) ?_
  refine XS.lushr X1081.here hx rfl (hb hby d4_25) rfl ?_
  refine XS.lstoreN X1081.here hx rfl (hb hby d4_26) rfl (l' := #[vR a0, vR b1059, vI 2, vJ (own_u3 cc), .second, vI (own_g2 cc)]) rfl ?_
  refine XS.aloadN X1081.here hx rfl (hb hby d4_27) rfl rfl ?_
  refine XS.iloadN X1081.here hx rfl (hb hby d4_28) rfl ?_
  refine XS.lloadN X1081.here hx rfl (hb hby d4_29) rfl ?_
  refine XS.lconst X1081.here hx rfl (hb hby d4_30) ?_
  refine XS.lcmp X1081.here hx rfl (hb hby d4_31) rfl ?_
  exact k
 have hk1088 : ¬ ((own_u3 cc) = (0 : Int64)) := hz3
 have pre1089 : own_P p e below T1081 (mkF m 47 #[vR a0, vR b1059, vI 2, vJ (own_u3 cc), .second, vI (own_g2 cc)] [(.int (((own_g2 cc) ||| (128 : Int32)).toInt8.toInt32)), (.int 2), (.ref b1059)]) s₁ (entryFrame m #[(.ref a0)] 6) := by
  intro t k
  refine pre1087 t ?_
  refine XS.ifYes X1081.here hx rfl (pc0 := 32) (pc' := 40) rfl (hb hby d4_32) rfl ((if0 _ _).trans (feq (own_neL hk1088)).2) (by decide) (by decide) ?_
  refine XS.iload X1081.here hx rfl (hb hby d4_40) rfl ?_
  refine XS.sipush X1081.here hx rfl (hb hby d4_42) ?_
  refine XS.ior X1081.here hx rfl (hb hby d4_45) rfl ?_
  refine XS.i2b X1081.here hx rfl (hb hby d4_46) rfl ?_
  exact k
 obtain ⟨cl1090, Ar1090, q1090, S1090, M1090, H1090, G1090⟩ := id V1081
 have hin1090 : ¬ ((2 : Int32) < 0 ∨ cl1090.slots.size ≤ ((2 : Int32)).toNatClampNeg) := inb_of S1090 ⟨by decide, by decide⟩
 obtain ⟨T1090, h1090, X1090, e1090, W1090, st1090⟩ := stB X1081 hx hZ e1081 Ar1090 (j := (2 : Int32)) hin1090 (g := (mkF m 47 #[vR a0, vR b1059, vI 2, vJ (own_u3 cc), .second, vI (own_g2 cc)] [(.int (((own_g2 cc) ||| (128 : Int32)).toInt8.toInt32)), (.int 2), (.ref b1059)])) rfl rfl (hb hby d4_47)
 have Z1090 : n0 ≤ h1090.size := Nat.le_trans Z1081 (Keep.of_wr W1090).1
 have K1090 : Keep h0 h1090 [] := K1081.wr W1090 (Or.inr sz_b1059)
 have N1090 := Fr.snoc X1090 N1081 g_b1059
 have Ff1091 : Fld Z h1090 a0 own_CK "collection" "I" (.int cc) := (Ff1082).other W1090 (Or.inl ne_a0_b1059)
 have Ff1092 : Fld Z h1090 a0 own_CK "documentKey" "[B" (.ref r1) := (Ff1083).other W1090 (Or.inl ne_a0_b1059)
 have Vf1093 : Arv Z h1090 r1 k_r1 .byte (3 : Int32) [(.int y0), (.int y1), (.int y2)] (.int 0) := (Vf1084).other W1090 ne_r1_b1059
 have Ef1094 : Exa Z h1090 b1059 "[B" := (Ef1085).wr W1090
 have V1090 : Arv Z h1090 b1059 k1059 .byte (5 : Int32) [(.int (own_m0 cc)), (.int (own_m1 cc)), (.int (own_m2 cc)), (.int 0), (.int 0)] (.int 0) := Arv.set Ar1090 q1090 S1090 M1090 H1090 G1090 (fits_nar_byte _) W1090 2 rfl (Nat.le_of_ble_eq_true rfl)
 have pre1095 : own_P p e below T1090 (mkF m 48 #[vR a0, vR b1059, vI 2, vJ (own_u3 cc), .second, vI (own_g2 cc)] []) s₁ (entryFrame m #[(.ref a0)] 6) := fun t k => pre1089 t (st1090 t k)
 have pre1096 : own_P p e below T1090 (mkF m 32 #[vR a0, vR b1059, vI 3, vJ (own_u4 cc), .second, vI (own_g3 cc)] [(.int (lcmpW (own_u4 cc) (0 : Int64))), (.int 3), (.ref b1059)]) s₁ (entryFrame m #[(.ref a0)] 6) := by
  intro t k
  refine pre1095 t ?_
  refine XS.iinc X1090.here hx rfl (hb hby d4_48) rfl (l' := #[vR a0, vR b1059, vI 3, vJ (own_u3 cc), .second, vI (own_g2 cc)]) rfl ?_
  refine XS.lloadN X1090.here hx rfl (hb hby d4_51) rfl ?_
  refine XS.lconst X1090.here hx rfl (hb hby d4_52) ?_
  refine XS.lcmp X1090.here hx rfl (hb hby d4_53) rfl ?_
  refine XS.ifYes X1090.here hx rfl (pc0 := 54) (pc' := 14) rfl (hb hby d4_54) rfl ((if0 _ _).trans (feq (own_neL hk1088)).2) (by decide) (by decide) ?_
  refine XS.lloadN X1090.here hx rfl (hb hby d4_14) rfl ?_
  refine X1090.ldc2Long hx hown (mvT hZ (own_w hw 29 rfl)) (g := (mkF m 15 #[vR a0, vR b1059, vI 3, vJ (own_u3 cc), .second, vI (own_g2 cc)] [(.long (own_u3 cc))])) rfl (hb hby d4_15) _ ?_
  refine XS.land X1090.here hx rfl (hb hby d4_18) rfl ?_
  refine XS.l2i X1090.here hx rfl (hb hby d4_19) rfl ?_
  refine XS.istore X1090.here hx rfl (hb hby d4_20) rfl (l' := #[vR a0, vR b1059, vI 3, vJ (own_u3 cc), .second, vI (own_g3 cc)]) rfl ?_
  refine XS.lloadN X1090.here hx rfl (hb hby d4_22) rfl ?_
  refine XS.bipush X1090.here hx rfl (hb hby d4_23) ?_
  refine XS.lushr X1090.here hx rfl (hb hby d4_25) rfl ?_
  refine XS.lstoreN X1090.here hx rfl (hb hby d4_26) rfl (l' := #[vR a0, vR b1059, vI 3, vJ (own_u4 cc), .second, vI (own_g3 cc)]) rfl ?_
  refine XS.aloadN X1090.here hx rfl (hb hby d4_27) rfl rfl ?_
  refine XS.iloadN X1090.here hx rfl (hb hby d4_28) rfl ?_
  refine XS.lloadN X1090.here hx rfl (hb hby d4_29) rfl ?_
  refine XS.lconst X1090.here hx rfl (hb hby d4_30) ?_
  refine XS.lcmp X1090.here hx rfl (hb hby d4_31) rfl ?_
  exact k
 have hk1097 : (own_u4 cc) = (0 : Int64) := hz4
 have pre1098 : own_P p e below T1090 (mkF m 47 #[vR a0, vR b1059, vI 3, vJ (own_u4 cc), .second, vI (own_g3 cc)] [(.int ((own_g3 cc).toInt8.toInt32)), (.int 3), (.ref b1059)]) s₁ (entryFrame m #[(.ref a0)] 6) := by
  intro t k
  refine pre1096 t ?_
  refine XS.ifNo X1090.here hx rfl (hb hby d4_32) rfl ((if0 _ _).trans (teq (own_eqL hk1097)).2) ?_
  refine XS.iload X1090.here hx rfl (hb hby d4_35) rfl ?_
  refine XS.goto X1090.here hx rfl (pc0 := 37) (pc' := 46) rfl (hb hby d4_37) (by decide) (by decide) ?_
  refine XS.i2b X1090.here hx rfl (hb hby d4_46) rfl ?_
  exact k
 obtain ⟨cl1099, Ar1099, q1099, S1099, M1099, H1099, G1099⟩ := id V1090
 have hin1099 : ¬ ((3 : Int32) < 0 ∨ cl1099.slots.size ≤ ((3 : Int32)).toNatClampNeg) := inb_of S1099 ⟨by decide, by decide⟩
 obtain ⟨T1099, h1099, X1099, e1099, W1099, st1099⟩ := stB X1090 hx hZ e1090 Ar1099 (j := (3 : Int32)) hin1099 (g := (mkF m 47 #[vR a0, vR b1059, vI 3, vJ (own_u4 cc), .second, vI (own_g3 cc)] [(.int ((own_g3 cc).toInt8.toInt32)), (.int 3), (.ref b1059)])) rfl rfl (hb hby d4_47)
 have Z1099 : n0 ≤ h1099.size := Nat.le_trans Z1090 (Keep.of_wr W1099).1
 have K1099 : Keep h0 h1099 [] := K1090.wr W1099 (Or.inr sz_b1059)
 have N1099 := Fr.snoc X1099 N1090 g_b1059
 have Ff1100 : Fld Z h1099 a0 own_CK "collection" "I" (.int cc) := (Ff1091).other W1099 (Or.inl ne_a0_b1059)
 have Ff1101 : Fld Z h1099 a0 own_CK "documentKey" "[B" (.ref r1) := (Ff1092).other W1099 (Or.inl ne_a0_b1059)
 have Vf1102 : Arv Z h1099 r1 k_r1 .byte (3 : Int32) [(.int y0), (.int y1), (.int y2)] (.int 0) := (Vf1093).other W1099 ne_r1_b1059
 have Ef1103 : Exa Z h1099 b1059 "[B" := (Ef1094).wr W1099
 have V1099 : Arv Z h1099 b1059 k1059 .byte (5 : Int32) [(.int (own_m0 cc)), (.int (own_m1 cc)), (.int (own_m2 cc)), (.int (own_l3 cc)), (.int 0)] (.int 0) := Arv.set Ar1099 q1099 S1099 M1099 H1099 G1099 (fits_nar_byte _) W1099 3 rfl (Nat.le_of_ble_eq_true rfl)
 have pre1104 : own_P p e below T1099 (mkF m 48 #[vR a0, vR b1059, vI 3, vJ (own_u4 cc), .second, vI (own_g3 cc)] []) s₁ (entryFrame m #[(.ref a0)] 6) := fun t k => pre1098 t (st1099 t k)
 have pre1105 : own_P p e below T1099 (mkF m 60 #[vR a0, vR b1059, vI 4, vJ (own_u4 cc), .second, vI (own_g3 cc)] [(.ref a0), (.int 4), (.ref b1059)]) s₁ (entryFrame m #[(.ref a0)] 6) := by
  intro t k
  refine pre1104 t ?_
  refine XS.iinc X1099.here hx rfl (hb hby d4_48) rfl (l' := #[vR a0, vR b1059, vI 4, vJ (own_u4 cc), .second, vI (own_g3 cc)]) rfl ?_
  refine XS.lloadN X1099.here hx rfl (hb hby d4_51) rfl ?_
  refine XS.lconst X1099.here hx rfl (hb hby d4_52) ?_
  refine XS.lcmp X1099.here hx rfl (hb hby d4_53) rfl ?_
  refine XS.ifNo X1099.here hx rfl (hb hby d4_54) rfl ((if0 _ _).trans (teq (own_eqL hk1097)).2) ?_
  refine XS.aloadN X1099.here hx rfl (hb hby d4_57) rfl rfl ?_
  refine XS.iloadN X1099.here hx rfl (hb hby d4_58) rfl ?_
  refine XS.aloadN X1099.here hx rfl (hb hby d4_59) rfl rfl ?_
  exact k
 obtain ⟨T1106, X1106, e1106, st1106⟩ := getF X1099 hx hZ hown (host := "") (Or.inl (own_w hw 17 rfl)) Via.refl e1099 Ff1101 (g := (mkF m 60 #[vR a0, vR b1059, vI 4, vJ (own_u4 cc), .second, vI (own_g3 cc)] [(.ref a0), (.int 4), (.ref b1059)])) rfl rfl (hb hby d4_60)
 have pre1107 : own_P p e below T1106 (mkF m 63 #[vR a0, vR b1059, vI 4, vJ (own_u4 cc), .second, vI (own_g3 cc)] [(.ref r1), (.int 4), (.ref b1059)]) s₁ (entryFrame m #[(.ref a0)] 6) := fun t k => pre1105 t (st1106 t k)
 obtain ⟨cl1108, Ar1108, q1108, S1108, M1108, H1108, G1108⟩ := id Vf1102
 have pre1109 : own_P p e below T1106 (mkF m 65 #[vR a0, vR b1059, vI 4, vJ (own_u4 cc), .second, vI (own_g3 cc)] [(.int 7), (.ref b1059)]) s₁ (entryFrame m #[(.ref a0)] 6) := by
  intro t k
  refine pre1107 t ?_
  refine X1106.arraylength hx (by rw [e1106]; exact Ar1108.1) (State.isArrayOf_alike hZ.alike Ar1108.2.1) (g := (mkF m 63 #[vR a0, vR b1059, vI 4, vJ (own_u4 cc), .second, vI (own_g3 cc)] [(.ref r1), (.int 4), (.ref b1059)])) rfl rfl (hb hby d4_63) _ ?_
  rw [len_of S1108 M1108]
  refine XS.iadd X1106.here hx rfl (hb hby d4_64) rfl ?_
  exact k
 obtain ⟨_, _, ⟨T1110, L1110, k1110, n1110⟩, -, X1110, ⟨Lc1110, hQ1110, l1110, y1110, z1110⟩, st1110⟩ := Jvm.LawKit.callS X1106 hx (y := (⟨"java/util/Arrays", "copyOf", "([BI)[B"⟩ : MethodName)) hown (mvT hZ (own_w hw 30 rfl)) (mvT hZ (own_w hw 31 rfl)) (mvT hZ (own_w hw 32 rfl)) (mvT hZ (own_w hw 33 rfl)) (by decide) (backOf (W := 0) (rm6_7 l Z ar0 hw [] b1059 k1059 (own_m0 cc) (own_m1 cc) (own_m2 cc) (own_l3 cc) (0 : Int32) h1099 n0 Z1099 V1099 Ef1103) hZ (own_w hw 33 rfl) (own_w hw 32 rfl) (by decide) (by decide)) (g := (mkF m 65 #[vR a0, vR b1059, vI 4, vJ (own_u4 cc), .second, vI (own_g3 cc)] [(.int 7), (.ref b1059)])) rfl (by rw [hml]; rfl) (argsL := [(.ref b1059), (.int 7)]) (rest := []) (lenOf pd_3 rfl) rfl (by show 2 * 0 + _ ≤ _; exact Nat.le_of_eq rfl) (hb hby d4_65) (fun _ _ => ⟨rfl, e1106, (by decide : 1 + 1 ≤ _), (by decide : 5 + 7 ≤ _)⟩)
 dsimp only [Pt.U, Pt.locs, Pt.cells, Pt.slots] at X1110 l1110 y1110 z1110 st1110 hQ1110
 subst l1110 y1110 z1110
 obtain ⟨h1110, e1110⟩ : ∃ h, T1110.heap = h := ⟨_, rfl⟩
 rw [e1110] at hQ1110
 obtain ⟨b1110, kb1110, rfl, N1110q, K1110q, y_b1110, Ob1110_0, Ob1110_1⟩ := hQ1110
 have N1110 := Fr.app N1099 N1110q
 have ne_a0_b1110 : a0 ≠ b1110 := Nat.ne_of_lt (Nat.lt_of_lt_of_le (Ff1100).lt y_b1110)
 have ne_r1_b1110 : r1 ≠ b1110 := Nat.ne_of_lt (Nat.lt_of_lt_of_le (Vf1102).lt y_b1110)
 have ne_b1059_b1110 : b1059 ≠ b1110 := Nat.ne_of_lt (Nat.lt_of_lt_of_le (Ef1103).lt y_b1110)
 have g_b1110 : n0 ≤ b1110 := Nat.le_trans Z1099 y_b1110
 have sz_b1110 : h0.size ≤ b1110 := Nat.le_trans K1099.1 y_b1110
 have Z1110 : n0 ≤ h1110.size := Nat.le_trans Z1099 K1110q.1
 have K1110 : Keep h0 h1110 [] := K1099.trans K1110q (fun x hx => absurd hx List.not_mem_nil)
 have Ff1111 : Fld Z h1110 a0 own_CK "collection" "I" (.int cc) := (Ff1100).keep K1110q List.not_mem_nil
 have Ff1112 : Fld Z h1110 a0 own_CK "documentKey" "[B" (.ref r1) := (Ff1101).keep K1110q List.not_mem_nil
 have Vf1113 : Arv Z h1110 r1 k_r1 .byte (3 : Int32) [(.int y0), (.int y1), (.int y2)] (.int 0) := (Vf1102).keep K1110q List.not_mem_nil
 have Ef1114 : Exa Z h1110 b1059 "[B" := (Ef1103).keep K1110q
 have Vf1115 : Arv Z h1110 b1059 k1059 .byte (5 : Int32) [(.int (own_m0 cc)), (.int (own_m1 cc)), (.int (own_m2 cc)), (.int (own_l3 cc)), (.int 0)] (.int 0) := (V1099).keep K1110q List.not_mem_nil
 have pre1116 : own_P p e below T1110 (mkF m 68 #[vR a0, vR b1059, vI 4, vJ (own_u4 cc), .second, vI (own_g3 cc)] [(.ref b1110)]) s₁ (entryFrame m #[(.ref a0)] 6) := fun t k => pre1109 t (st1110 t k)
 have pre1117 : own_P p e below T1110 (mkF m 71 #[vR a0, vR b1059, vI 4, vJ (own_u4 cc), .second, vR b1110] [(.ref a0)]) s₁ (entryFrame m #[(.ref a0)] 6) := by
  intro t k
  refine pre1116 t ?_
  refine XS.astore X1110.here hx rfl (hb hby d4_68) rfl rfl (l' := #[vR a0, vR b1059, vI 4, vJ (own_u4 cc), .second, vR b1110]) rfl ?_
  refine XS.aloadN X1110.here hx rfl (hb hby d4_70) rfl rfl ?_
  exact k
 obtain ⟨T1118, X1118, e1118, st1118⟩ := getF X1110 hx hZ hown (host := "") (Or.inl (own_w hw 17 rfl)) Via.refl e1110 Ff1112 (g := (mkF m 71 #[vR a0, vR b1059, vI 4, vJ (own_u4 cc), .second, vR b1110] [(.ref a0)])) rfl rfl (hb hby d4_71)
 have pre1119 : own_P p e below T1118 (mkF m 74 #[vR a0, vR b1059, vI 4, vJ (own_u4 cc), .second, vR b1110] [(.ref r1)]) s₁ (entryFrame m #[(.ref a0)] 6) := fun t k => pre1117 t (st1118 t k)
 have pre1120 : own_P p e below T1118 (mkF m 79 #[vR a0, vR b1059, vI 4, vJ (own_u4 cc), .second, vR b1110] [(.ref a0), (.int 4), (.ref b1110), (.int 0), (.ref r1)]) s₁ (entryFrame m #[(.ref a0)] 6) := by
  intro t k
  refine pre1119 t ?_
  refine XS.iconst X1118.here hx rfl (hb hby d4_74) ?_
  refine XS.aload X1118.here hx rfl (hb hby d4_75) rfl rfl ?_
  refine XS.iloadN X1118.here hx rfl (hb hby d4_77) rfl ?_
  refine XS.aloadN X1118.here hx rfl (hb hby d4_78) rfl rfl ?_
  exact k
 obtain ⟨T1121, X1121, e1121, st1121⟩ := getF X1118 hx hZ hown (host := "") (Or.inl (own_w hw 17 rfl)) Via.refl e1118 Ff1112 (g := (mkF m 79 #[vR a0, vR b1059, vI 4, vJ (own_u4 cc), .second, vR b1110] [(.ref a0), (.int 4), (.ref b1110), (.int 0), (.ref r1)])) rfl rfl (hb hby d4_79)
 have pre1122 : own_P p e below T1121 (mkF m 82 #[vR a0, vR b1059, vI 4, vJ (own_u4 cc), .second, vR b1110] [(.ref r1), (.int 4), (.ref b1110), (.int 0), (.ref r1)]) s₁ (entryFrame m #[(.ref a0)] 6) := fun t k => pre1120 t (st1121 t k)
 obtain ⟨cl1123, Ar1123, q1123, S1123, M1123, H1123, G1123⟩ := id Vf1113
 have pre1124 : own_P p e below T1121 (mkF m 83 #[vR a0, vR b1059, vI 4, vJ (own_u4 cc), .second, vR b1110] [(.int 3), (.int 4), (.ref b1110), (.int 0), (.ref r1)]) s₁ (entryFrame m #[(.ref a0)] 6) := by
  intro t k
  refine pre1122 t ?_
  refine X1121.arraylength hx (by rw [e1121]; exact Ar1123.1) (State.isArrayOf_alike hZ.alike Ar1123.2.1) (g := (mkF m 82 #[vR a0, vR b1059, vI 4, vJ (own_u4 cc), .second, vR b1110] [(.ref r1), (.int 4), (.ref b1110), (.int 0), (.ref r1)])) rfl rfl (hb hby d4_82) _ ?_
  rw [len_of S1123 M1123]
  exact k
 obtain ⟨T1125, h1125, L1125, X1125, e1125, N1125, K1125q, V1125q, st1125⟩ := cpA X1121 hx hZ hown (own_w hw 42 rfl) (own_w hw 41 rfl) (own_w hw 39 rfl) (own_w hw 40 rfl) e1121 Vf1113 Ob1110_1 (Or.inl ⟨rfl, rfl⟩) (by decide) (by decide) (by decide) (by decide) (by decide) (us := [(.int y0), (.int y1), (.int y2)]) rfl (Nat.le_of_ble_eq_true rfl) N1110 g_b1110 (g := (mkF m 83 #[vR a0, vR b1059, vI 4, vJ (own_u4 cc), .second, vR b1110] [(.int 3), (.int 4), (.ref b1110), (.int 0), (.ref r1)])) rfl (by rw [hml]; rfl) rfl (hb hby d4_83) (by decide) (W := 0) (by show 2 * 0 + _ ≤ _; exact Nat.le_of_eq rfl) (by decide)
 have Z1125 : n0 ≤ h1125.size := Nat.le_trans Z1110 K1125q.1
 have K1125 : Keep h0 h1125 [] := K1110.trans K1125q (fun x hx => by cases List.mem_singleton.mp hx; exact Or.inr sz_b1110)
 have Ff1126 : Fld Z h1125 a0 own_CK "collection" "I" (.int cc) := (Ff1111).keep K1125q (fun q => absurd (List.mem_singleton.mp q) ne_a0_b1110)
 have Ff1127 : Fld Z h1125 a0 own_CK "documentKey" "[B" (.ref r1) := (Ff1112).keep K1125q (fun q => absurd (List.mem_singleton.mp q) ne_a0_b1110)
 have Vf1128 : Arv Z h1125 r1 k_r1 .byte (3 : Int32) [(.int y0), (.int y1), (.int y2)] (.int 0) := (Vf1113).keep K1125q (fun q => absurd (List.mem_singleton.mp q) ne_r1_b1110)
 have Ef1129 : Exa Z h1125 b1059 "[B" := (Ef1114).keep K1125q
 have Vf1130 : Arv Z h1125 b1059 k1059 .byte (5 : Int32) [(.int (own_m0 cc)), (.int (own_m1 cc)), (.int (own_m2 cc)), (.int (own_l3 cc)), (.int 0)] (.int 0) := (Vf1115).keep K1125q (fun q => absurd (List.mem_singleton.mp q) ne_b1059_b1110)
 have Ef1131 : Exa Z h1125 b1110 "[B" := (Ob1110_0).keep K1125q
 have V1125 : Arv Z h1125 b1110 kb1110 .byte (7 : Int32) [(.int (own_m0 cc)), (.int (own_m1 cc)), (.int (own_m2 cc)), (.int (own_l3 cc)), (.int y0), (.int y1), (.int y2)] (.int 0) := V1125q
 have pre1132 : own_P p e below T1125 (mkF m 86 #[vR a0, vR b1059, vI 4, vJ (own_u4 cc), .second, vR b1110] []) s₁ (entryFrame m #[(.ref a0)] 6) := fun t k => pre1124 t (st1125 t k)
 obtain ⟨fs, hr, hrun, hended, hW, hsame⟩ := X1125.leave (v := some (.ref b1110)) (fun h => by rw [Bd.returns] at h; cases h)
 refine ⟨_, _, pre1132 _ ?_, hrun, hended, _, _, rfl, ?_, ⟨_, rfl⟩, hW, hsame.mono (by decide) (by decide)⟩
 ·
  refine XS.aload X1125.here hx rfl (hb hby d4_86) rfl rfl ?_
  exact retOut X1125 hx Bd.returns rfl (Or.inr (Or.inr (Or.inr (Or.inr ⟨rfl, rfl, rfl⟩)))) (hb hby d4_88) hr
 ·
  show Q4_4_3 Z a0 cc r1 k_r1 y0 y1 y2 h0 n0 _ T1125.heap _
  rw [e1125]
  exact ⟨b1110, kb1110, rfl, N1125, K1125, sz_b1110, Ef1131, V1125⟩
def Q4_5_0 (Z : State) (a0 : Addr) (cc : Int32) (r1 : Addr) (k_r1 : ClassId) (h0 : Heap) (n0 : Nat) (v : Option Value) (h : Heap) (L : List Loc) : Prop := ∃ (b : Addr) (k_b : ClassId), v = some (.ref b) ∧ Fr n0 L ∧ Keep h0 h [] ∧ h0.size ≤ b ∧ Exa Z h b "[B" ∧ Arv Z h b k_b .byte (5 : Int32) [(.int (own_m0 cc)), (.int (own_m1 cc)), (.int (own_m2 cc)), (.int (own_m3 cc)), (.int (own_l4 cc))] (.int 0)
set_option maxRecDepth 65536 in
set_option maxHeartbeats 40000000 in
theorem rm4_5_0 (l : Launch) (Z : State) (ar0 : Array Value) (hw : ∀ d ∈ tables_1, d.before ar0 Z = true) (ws : List Jvm.Cond) (a0 : Addr) (cc : Int32) (r1 : Addr) (k_r1 : ClassId) (h0 : Heap) (n0 : Nat) (Z0 : n0 ≤ h0.size) (F_collection_a0 : Fld Z h0 a0 own_CK "collection" "I" (.int cc)) (F_documentKey_a0 : Fld Z h0 a0 own_CK "documentKey" "[B" (.ref r1)) (V_r1 : Arv Z h0 r1 k_r1 .byte (0 : Int32) [] (.int 0)) (hz1 : ¬ ((own_u1 cc) = (0 : Int64))) (hz2 : ¬ ((own_u2 cc) = (0 : Int64))) (hz3 : ¬ ((own_u3 cc) = (0 : Int64))) (hz4 : ¬ ((own_u4 cc) = (0 : Int64))) (hz5 : (own_u5 cc) = (0 : Int64)) :
  MetFree l (⟨own_CK, "write", "()[B"⟩ : MethodName) (head1 (Jvm.Cond.code (⟨own_CK, "write", "()[B"⟩ : MethodName) prog_8_method_3_code 6 (some (.array .byte)) :: ws) ({ frames := 2, cells := 2, slots := 10, locals := 28 } : Room)) (fun a U => a = #[(.ref a0)] ∧ Z.Warmed39 U.vm ∧ U.heap = h0) (fun _ _ _ _ _ => True) (fun _ U o U' => ∃ v L, o = .returned v ∧ Q4_5_0 Z a0 cc r1 k_r1 h0 n0 v U'.heap L ∧ FrameEnd U o U' L ({ frames := 2, cells := 2, slots := 10, locals := 28 } : Room).cells ({ frames := 2, cells := 2, slots := 10, locals := 28 } : Room).slots) := by
 refine MetFree.of_bodySF (plainFor_of_name pn_1) hisR ?_
 intro p e s m args below meth c s₁ Bd hml0 hP hK
 obtain ⟨rfl, hZ, hh⟩ := hP
 have hx := Bd.exec
 have hby := Bd.bytes
 have hml : c.maxLocals = 6 := hml0
 have hown : s.vm.findClass own_CK = some m.cls := by have q := findClass_of_methodNamed Bd.named; exact q
 have hnm := (name_of_methodNamed Bd.named Bd.method).1
 have X0 : Stand p l e ({ frames := 2, cells := 2, slots := 10, locals := 28 } : Room) s m #[(.ref a0)] below meth c s₁ [] 0 0 := Stand.of_body Bd
 have e0 : s₁.heap = h0 := by rw [← hh, Bd.state]; rfl
 have N0 := Fr.nil n0
 have pre0 : own_P p e below s₁ (mkF m 0 #[vR a0, .unset, .unset, .unset, .unset, .unset] []) s₁ (entryFrame m #[(.ref a0)] 6) := fun t k => castTop (ef_4 m a0) k
 have pre1133 : own_P p e below s₁ (mkF m 1 #[vR a0, .unset, .unset, .unset, .unset, .unset] [(.int 5)]) s₁ (entryFrame m #[(.ref a0)] 6) := by
  intro t k
  refine pre0 t ?_
  refine XS.iconst X0.here hx rfl (hb hby d4_0) ?_
  exact k
 obtain ⟨T1134, h1134, k1134, X1134, e1134, E1134, A1134, C1134, st1134⟩ := newPE X0 hx hZ (own_w hw 0 rfl) e0 (g := (mkF m 1 #[vR a0, .unset, .unset, .unset, .unset, .unset] [(.int 5)])) rfl (hb hby d4_1) rfl (by decide) (cap := 5) (by decide) (by decide) (by decide) (by decide) (ad := "[B") rfl
 obtain ⟨b1134, g1134⟩ : ∃ z, z = h0.size := ⟨_, rfl⟩
 rw [← g1134] at A1134 C1134 st1134
 have ne_a0_b1134 : a0 ≠ b1134 := Nat.ne_of_lt (Nat.lt_of_lt_of_le (F_collection_a0).lt (Nat.le_of_eq g1134.symm))
 have ne_r1_b1134 : r1 ≠ b1134 := Nat.ne_of_lt (Nat.lt_of_lt_of_le (V_r1).lt (Nat.le_of_eq g1134.symm))
 have g_b1134 : n0 ≤ b1134 := Nat.le_trans Z0 (Nat.le_of_eq g1134.symm)
 have sz_b1134 : h0.size ≤ b1134 := Nat.le_trans (Keep.refl h0 []).1 (Nat.le_of_eq g1134.symm)
 have Z1134 : n0 ≤ h1134.size := Nat.le_trans Z0 E1134.1
 have K1134 : Keep h0 h1134 [] := (Keep.refl h0 []).ext E1134
 have Ff1135 : Fld Z h1134 a0 own_CK "collection" "I" (.int cc) := (F_collection_a0).ext E1134
 have Ff1136 : Fld Z h1134 a0 own_CK "documentKey" "[B" (.ref r1) := (F_documentKey_a0).ext E1134
 have Vf1137 : Arv Z h1134 r1 k_r1 .byte (0 : Int32) [] (.int 0) := (V_r1).ext E1134
 have V_b1134 : Arv Z h1134 b1134 k1134 .byte (5 : Int32) [(.int 0), (.int 0), (.int 0), (.int 0), (.int 0)] (.int 0) := (Arv.new A1134 (by decide)).pad (pad_rep [] (.int 0) 5)
 have pre1138 : own_P p e below T1134 (mkF m 3 #[vR a0, .unset, .unset, .unset, .unset, .unset] [(.ref b1134)]) s₁ (entryFrame m #[(.ref a0)] 6) := fun t k => pre1133 t (st1134 t k)
 have pre1139 : own_P p e below T1134 (mkF m 7 #[vR a0, vR b1134, vI 0, .unset, .unset, .unset] [(.ref a0)]) s₁ (entryFrame m #[(.ref a0)] 6) := by
  intro t k
  refine pre1138 t ?_
  refine XS.astoreN X1134.here hx rfl (hb hby d4_3) rfl rfl (l' := #[vR a0, vR b1134, .unset, .unset, .unset, .unset]) rfl ?_
  refine XS.iconst X1134.here hx rfl (hb hby d4_4) ?_
  refine XS.istoreN X1134.here hx rfl (hb hby d4_5) rfl (l' := #[vR a0, vR b1134, vI 0, .unset, .unset, .unset]) rfl ?_
  refine XS.aloadN X1134.here hx rfl (hb hby d4_6) rfl rfl ?_
  exact k
 obtain ⟨T1140, X1140, e1140, st1140⟩ := getF X1134 hx hZ hown (host := "") (Or.inl (own_w hw 15 rfl)) Via.refl e1134 Ff1135 (g := (mkF m 7 #[vR a0, vR b1134, vI 0, .unset, .unset, .unset] [(.ref a0)])) rfl rfl (hb hby d4_7)
 have pre1141 : own_P p e below T1140 (mkF m 10 #[vR a0, vR b1134, vI 0, .unset, .unset, .unset] [(.int cc)]) s₁ (entryFrame m #[(.ref a0)] 6) := fun t k => pre1139 t (st1140 t k)
 obtain ⟨_, _, ⟨T1142, L1142, k1142, n1142⟩, -, X1142, ⟨Lc1142, hQ1142, l1142, y1142, z1142⟩, st1142⟩ := Jvm.LawKit.callS X1140 hx (y := (⟨"java/lang/Integer", "toUnsignedLong", "(I)J"⟩ : MethodName)) hown (mvT hZ (own_w hw 24 rfl)) (mvT hZ (own_w hw 25 rfl)) (mvT hZ (own_w hw 26 rfl)) (mvT hZ (own_w hw 27 rfl)) (by decide) (backOf (W := 0) (rm5 l Z ar0 hw [] cc h1134 n0 Z1134) hZ (own_w hw 27 rfl) (own_w hw 26 rfl) (by decide) (by decide)) (g := (mkF m 10 #[vR a0, vR b1134, vI 0, .unset, .unset, .unset] [(.int cc)])) rfl (by rw [hml]; rfl) (argsL := [(.int cc)]) (rest := []) (lenOf pd_2 rfl) rfl (by show 2 * 0 + _ ≤ _; exact Nat.le_of_eq rfl) (hb hby d4_10) (fun _ _ => ⟨rfl, e1140, (by decide : 1 + 0 ≤ _), (by decide : 5 + 0 ≤ _)⟩)
 dsimp only [Pt.U, Pt.locs, Pt.cells, Pt.slots] at X1142 l1142 y1142 z1142 st1142 hQ1142
 subst l1142 y1142 z1142
 obtain ⟨rfl, N1142q, e1142⟩ := hQ1142
 have N1142 := Fr.app N0 N1142q
 have pre1143 : own_P p e below T1142 (mkF m 13 #[vR a0, vR b1134, vI 0, .unset, .unset, .unset] [(.long (own_u0 cc))]) s₁ (entryFrame m #[(.ref a0)] 6) := fun t k => pre1141 t (st1142 t k)
 have pre1144 : own_P p e below T1142 (mkF m 32 #[vR a0, vR b1134, vI 0, vJ (own_u1 cc), .second, vI (own_g0 cc)] [(.int (lcmpW (own_u1 cc) (0 : Int64))), (.int 0), (.ref b1134)]) s₁ (entryFrame m #[(.ref a0)] 6) := by
  intro t k
  refine pre1143 t ?_
  refine XS.lstoreN X1142.here hx rfl (hb hby d4_13) rfl (l' := #[vR a0, vR b1134, vI 0, vJ (own_u0 cc), .second, .unset]) rfl ?_
  refine XS.lloadN X1142.here hx rfl (hb hby d4_14) rfl ?_
  refine X1142.ldc2Long hx hown (mvT hZ (own_w hw 29 rfl)) (g := (mkF m 15 #[vR a0, vR b1134, vI 0, vJ (own_u0 cc), .second, .unset] [(.long (own_u0 cc))])) rfl (hb hby d4_15) _ ?_
  refine XS.land X1142.here hx rfl (hb hby d4_18) rfl ?_
  refine XS.l2i X1142.here hx rfl (hb hby d4_19) rfl ?_
  refine XS.istore X1142.here hx rfl (hb hby d4_20) rfl (l' := #[vR a0, vR b1134, vI 0, vJ (own_u0 cc), .second, vI (own_g0 cc)]) rfl ?_
  refine XS.lloadN X1142.here hx rfl (hb hby d4_22) rfl ?_
  refine XS.bipush X1142.here hx rfl (hb hby d4_23) ?_
  refine XS.lushr X1142.here hx rfl (hb hby d4_25) rfl ?_
  refine XS.lstoreN X1142.here hx rfl (hb hby d4_26) rfl (l' := #[vR a0, vR b1134, vI 0, vJ (own_u1 cc), .second, vI (own_g0 cc)]) rfl ?_
  refine XS.aloadN X1142.here hx rfl (hb hby d4_27) rfl rfl ?_
  refine XS.iloadN X1142.here hx rfl (hb hby d4_28) rfl ?_
  refine XS.lloadN X1142.here hx rfl (hb hby d4_29) rfl ?_
  refine XS.lconst X1142.here hx rfl (hb hby d4_30) ?_
  refine XS.lcmp X1142.here hx rfl (hb hby d4_31) rfl ?_
  exact k
 have hk1145 : ¬ ((own_u1 cc) = (0 : Int64)) := hz1
 have pre1146 : own_P p e below T1142 (mkF m 47 #[vR a0, vR b1134, vI 0, vJ (own_u1 cc), .second, vI (own_g0 cc)] [(.int (((own_g0 cc) ||| (128 : Int32)).toInt8.toInt32)), (.int 0), (.ref b1134)]) s₁ (entryFrame m #[(.ref a0)] 6) := by
  intro t k
  refine pre1144 t ?_
  refine XS.ifYes X1142.here hx rfl (pc0 := 32) (pc' := 40) rfl (hb hby d4_32) rfl ((if0 _ _).trans (feq (own_neL hk1145)).2) (by decide) (by decide) ?_
  refine XS.iload X1142.here hx rfl (hb hby d4_40) rfl ?_
  refine XS.sipush X1142.here hx rfl (hb hby d4_42) ?_
  refine XS.ior X1142.here hx rfl (hb hby d4_45) rfl ?_
  refine XS.i2b X1142.here hx rfl (hb hby d4_46) rfl ?_
  exact k
 obtain ⟨cl1147, Ar1147, q1147, S1147, M1147, H1147, G1147⟩ := id V_b1134
 have hin1147 : ¬ ((0 : Int32) < 0 ∨ cl1147.slots.size ≤ ((0 : Int32)).toNatClampNeg) := inb_of S1147 ⟨by decide, by decide⟩
 obtain ⟨T1147, h1147, X1147, e1147, W1147, st1147⟩ := stB X1142 hx hZ e1142 Ar1147 (j := (0 : Int32)) hin1147 (g := (mkF m 47 #[vR a0, vR b1134, vI 0, vJ (own_u1 cc), .second, vI (own_g0 cc)] [(.int (((own_g0 cc) ||| (128 : Int32)).toInt8.toInt32)), (.int 0), (.ref b1134)])) rfl rfl (hb hby d4_47)
 have Z1147 : n0 ≤ h1147.size := Nat.le_trans Z1134 (Keep.of_wr W1147).1
 have K1147 : Keep h0 h1147 [] := K1134.wr W1147 (Or.inr sz_b1134)
 have N1147 := Fr.snoc X1147 N1142 g_b1134
 have Ff1148 : Fld Z h1147 a0 own_CK "collection" "I" (.int cc) := (Ff1135).other W1147 (Or.inl ne_a0_b1134)
 have Ff1149 : Fld Z h1147 a0 own_CK "documentKey" "[B" (.ref r1) := (Ff1136).other W1147 (Or.inl ne_a0_b1134)
 have Vf1150 : Arv Z h1147 r1 k_r1 .byte (0 : Int32) [] (.int 0) := (Vf1137).other W1147 ne_r1_b1134
 have Ef1151 : Exa Z h1147 b1134 "[B" := (C1134).wr W1147
 have V1147 : Arv Z h1147 b1134 k1134 .byte (5 : Int32) [(.int (own_m0 cc)), (.int 0), (.int 0), (.int 0), (.int 0)] (.int 0) := Arv.set Ar1147 q1147 S1147 M1147 H1147 G1147 (fits_nar_byte _) W1147 0 rfl (Nat.le_of_ble_eq_true rfl)
 have pre1152 : own_P p e below T1147 (mkF m 48 #[vR a0, vR b1134, vI 0, vJ (own_u1 cc), .second, vI (own_g0 cc)] []) s₁ (entryFrame m #[(.ref a0)] 6) := fun t k => pre1146 t (st1147 t k)
 have pre1153 : own_P p e below T1147 (mkF m 32 #[vR a0, vR b1134, vI 1, vJ (own_u2 cc), .second, vI (own_g1 cc)] [(.int (lcmpW (own_u2 cc) (0 : Int64))), (.int 1), (.ref b1134)]) s₁ (entryFrame m #[(.ref a0)] 6) := by
  intro t k
  refine pre1152 t ?_
  refine XS.iinc X1147.here hx rfl (hb hby d4_48) rfl (l' := #[vR a0, vR b1134, vI 1, vJ (own_u1 cc), .second, vI (own_g0 cc)]) rfl ?_
  refine XS.lloadN X1147.here hx rfl (hb hby d4_51) rfl ?_
  refine XS.lconst X1147.here hx rfl (hb hby d4_52) ?_
  refine XS.lcmp X1147.here hx rfl (hb hby d4_53) rfl ?_
  refine XS.ifYes X1147.here hx rfl (pc0 := 54) (pc' := 14) rfl (hb hby d4_54) rfl ((if0 _ _).trans (feq (own_neL hk1145)).2) (by decide) (by decide) ?_
  refine XS.lloadN X1147.here hx rfl (hb hby d4_14) rfl ?_
  refine X1147.ldc2Long hx hown (mvT hZ (own_w hw 29 rfl)) (g := (mkF m 15 #[vR a0, vR b1134, vI 1, vJ (own_u1 cc), .second, vI (own_g0 cc)] [(.long (own_u1 cc))])) rfl (hb hby d4_15) _ ?_
  refine XS.land X1147.here hx rfl (hb hby d4_18) rfl ?_
  refine XS.l2i X1147.here hx rfl (hb hby d4_19) rfl ?_
  refine XS.istore X1147.here hx rfl (hb hby d4_20) rfl (l' := #[vR a0, vR b1134, vI 1, vJ (own_u1 cc), .second, vI (own_g1 cc)]) rfl ?_
  refine XS.lloadN X1147.here hx rfl (hb hby d4_22) rfl ?_
  refine XS.bipush X1147.here hx rfl (hb hby d4_23) ?_
  refine XS.lushr X1147.here hx rfl (hb hby d4_25) rfl ?_
  refine XS.lstoreN X1147.here hx rfl (hb hby d4_26) rfl (l' := #[vR a0, vR b1134, vI 1, vJ (own_u2 cc), .second, vI (own_g1 cc)]) rfl ?_
  refine XS.aloadN X1147.here hx rfl (hb hby d4_27) rfl rfl ?_
  refine XS.iloadN X1147.here hx rfl (hb hby d4_28) rfl ?_
  refine XS.lloadN X1147.here hx rfl (hb hby d4_29) rfl ?_
  refine XS.lconst X1147.here hx rfl (hb hby d4_30) ?_
  refine XS.lcmp X1147.here hx rfl (hb hby d4_31) rfl ?_
  exact k
 have hk1154 : ¬ ((own_u2 cc) = (0 : Int64)) := hz2
 have pre1155 : own_P p e below T1147 (mkF m 47 #[vR a0, vR b1134, vI 1, vJ (own_u2 cc), .second, vI (own_g1 cc)] [(.int (((own_g1 cc) ||| (128 : Int32)).toInt8.toInt32)), (.int 1), (.ref b1134)]) s₁ (entryFrame m #[(.ref a0)] 6) := by
  intro t k
  refine pre1153 t ?_
  refine XS.ifYes X1147.here hx rfl (pc0 := 32) (pc' := 40) rfl (hb hby d4_32) rfl ((if0 _ _).trans (feq (own_neL hk1154)).2) (by decide) (by decide) ?_
  refine XS.iload X1147.here hx rfl (hb hby d4_40) rfl ?_
  refine XS.sipush X1147.here hx rfl (hb hby d4_42) ?_
  refine XS.ior X1147.here hx rfl (hb hby d4_45) rfl ?_
  refine XS.i2b X1147.here hx rfl (hb hby d4_46) rfl ?_
  exact k
 obtain ⟨cl1156, Ar1156, q1156, S1156, M1156, H1156, G1156⟩ := id V1147
 have hin1156 : ¬ ((1 : Int32) < 0 ∨ cl1156.slots.size ≤ ((1 : Int32)).toNatClampNeg) := inb_of S1156 ⟨by decide, by decide⟩
 obtain ⟨T1156, h1156, X1156, e1156, W1156, st1156⟩ := stB X1147 hx hZ e1147 Ar1156 (j := (1 : Int32)) hin1156 (g := (mkF m 47 #[vR a0, vR b1134, vI 1, vJ (own_u2 cc), .second, vI (own_g1 cc)] [(.int (((own_g1 cc) ||| (128 : Int32)).toInt8.toInt32)), (.int 1), (.ref b1134)])) rfl rfl (hb hby d4_47)
 have Z1156 : n0 ≤ h1156.size := Nat.le_trans Z1147 (Keep.of_wr W1156).1
 have K1156 : Keep h0 h1156 [] := K1147.wr W1156 (Or.inr sz_b1134)
 have N1156 := Fr.snoc X1156 N1147 g_b1134
 have Ff1157 : Fld Z h1156 a0 own_CK "collection" "I" (.int cc) := (Ff1148).other W1156 (Or.inl ne_a0_b1134)
 have Ff1158 : Fld Z h1156 a0 own_CK "documentKey" "[B" (.ref r1) := (Ff1149).other W1156 (Or.inl ne_a0_b1134)
 have Vf1159 : Arv Z h1156 r1 k_r1 .byte (0 : Int32) [] (.int 0) := (Vf1150).other W1156 ne_r1_b1134
 have Ef1160 : Exa Z h1156 b1134 "[B" := (Ef1151).wr W1156
 have V1156 : Arv Z h1156 b1134 k1134 .byte (5 : Int32) [(.int (own_m0 cc)), (.int (own_m1 cc)), (.int 0), (.int 0), (.int 0)] (.int 0) := Arv.set Ar1156 q1156 S1156 M1156 H1156 G1156 (fits_nar_byte _) W1156 1 rfl (Nat.le_of_ble_eq_true rfl)
 have pre1161 : own_P p e below T1156 (mkF m 48 #[vR a0, vR b1134, vI 1, vJ (own_u2 cc), .second, vI (own_g1 cc)] []) s₁ (entryFrame m #[(.ref a0)] 6) := fun t k => pre1155 t (st1156 t k)
 have pre1162 : own_P p e below T1156 (mkF m 32 #[vR a0, vR b1134, vI 2, vJ (own_u3 cc), .second, vI (own_g2 cc)] [(.int (lcmpW (own_u3 cc) (0 : Int64))), (.int 2), (.ref b1134)]) s₁ (entryFrame m #[(.ref a0)] 6) := by
  intro t k
  refine pre1161 t ?_
  refine XS.iinc X1156.here hx rfl (hb hby d4_48) rfl (l' := #[vR a0, vR b1134, vI 2, vJ (own_u2 cc), .second, vI (own_g1 cc)]) rfl ?_
  refine XS.lloadN X1156.here hx rfl (hb hby d4_51) rfl ?_
  refine XS.lconst X1156.here hx rfl (hb hby d4_52) ?_
  refine XS.lcmp X1156.here hx rfl (hb hby d4_53) rfl ?_
  refine XS.ifYes X1156.here hx rfl (pc0 := 54) (pc' := 14) rfl (hb hby d4_54) rfl ((if0 _ _).trans (feq (own_neL hk1154)).2) (by decide) (by decide) ?_
  refine XS.lloadN X1156.here hx rfl (hb hby d4_14) rfl ?_
  refine X1156.ldc2Long hx hown (mvT hZ (own_w hw 29 rfl)) (g := (mkF m 15 #[vR a0, vR b1134, vI 2, vJ (own_u2 cc), .second, vI (own_g1 cc)] [(.long (own_u2 cc))])) rfl (hb hby d4_15) _ ?_
  refine XS.land X1156.here hx rfl (hb hby d4_18) rfl ?_
  refine XS.l2i X1156.here hx rfl (hb hby d4_19) rfl ?_
  refine XS.istore X1156.here hx rfl (hb hby d4_20) rfl (l' := #[vR a0, vR b1134, vI 2, vJ (own_u2 cc), .second, vI (own_g2 cc)]) rfl ?_
  refine XS.lloadN X1156.here hx rfl (hb hby d4_22) rfl ?_
  refine XS.bipush X1156.here hx rfl (hb hby d4_23) ?_
  refine XS.lushr X1156.here hx rfl (hb hby d4_25) rfl ?_
  refine XS.lstoreN X1156.here hx rfl (hb hby d4_26) rfl (l' := #[vR a0, vR b1134, vI 2, vJ (own_u3 cc), .second, vI (own_g2 cc)]) rfl ?_
  refine XS.aloadN X1156.here hx rfl (hb hby d4_27) rfl rfl ?_
  refine XS.iloadN X1156.here hx rfl (hb hby d4_28) rfl ?_
  refine XS.lloadN X1156.here hx rfl (hb hby d4_29) rfl ?_
  refine XS.lconst X1156.here hx rfl (hb hby d4_30) ?_
  refine XS.lcmp X1156.here hx rfl (hb hby d4_31) rfl ?_
  exact k
 have hk1163 : ¬ ((own_u3 cc) = (0 : Int64)) := hz3
 have pre1164 : own_P p e below T1156 (mkF m 47 #[vR a0, vR b1134, vI 2, vJ (own_u3 cc), .second, vI (own_g2 cc)] [(.int (((own_g2 cc) ||| (128 : Int32)).toInt8.toInt32)), (.int 2), (.ref b1134)]) s₁ (entryFrame m #[(.ref a0)] 6) := by
  intro t k
  refine pre1162 t ?_
  refine XS.ifYes X1156.here hx rfl (pc0 := 32) (pc' := 40) rfl (hb hby d4_32) rfl ((if0 _ _).trans (feq (own_neL hk1163)).2) (by decide) (by decide) ?_
  refine XS.iload X1156.here hx rfl (hb hby d4_40) rfl ?_
  refine XS.sipush X1156.here hx rfl (hb hby d4_42) ?_
  refine XS.ior X1156.here hx rfl (hb hby d4_45) rfl ?_
  refine XS.i2b X1156.here hx rfl (hb hby d4_46) rfl ?_
  exact k
 obtain ⟨cl1165, Ar1165, q1165, S1165, M1165, H1165, G1165⟩ := id V1156
 have hin1165 : ¬ ((2 : Int32) < 0 ∨ cl1165.slots.size ≤ ((2 : Int32)).toNatClampNeg) := inb_of S1165 ⟨by decide, by decide⟩
 obtain ⟨T1165, h1165, X1165, e1165, W1165, st1165⟩ := stB X1156 hx hZ e1156 Ar1165 (j := (2 : Int32)) hin1165 (g := (mkF m 47 #[vR a0, vR b1134, vI 2, vJ (own_u3 cc), .second, vI (own_g2 cc)] [(.int (((own_g2 cc) ||| (128 : Int32)).toInt8.toInt32)), (.int 2), (.ref b1134)])) rfl rfl (hb hby d4_47)
 have Z1165 : n0 ≤ h1165.size := Nat.le_trans Z1156 (Keep.of_wr W1165).1
 have K1165 : Keep h0 h1165 [] := K1156.wr W1165 (Or.inr sz_b1134)
 have N1165 := Fr.snoc X1165 N1156 g_b1134
 have Ff1166 : Fld Z h1165 a0 own_CK "collection" "I" (.int cc) := (Ff1157).other W1165 (Or.inl ne_a0_b1134)
 have Ff1167 : Fld Z h1165 a0 own_CK "documentKey" "[B" (.ref r1) := (Ff1158).other W1165 (Or.inl ne_a0_b1134)
 have Vf1168 : Arv Z h1165 r1 k_r1 .byte (0 : Int32) [] (.int 0) := (Vf1159).other W1165 ne_r1_b1134
 have Ef1169 : Exa Z h1165 b1134 "[B" := (Ef1160).wr W1165
 have V1165 : Arv Z h1165 b1134 k1134 .byte (5 : Int32) [(.int (own_m0 cc)), (.int (own_m1 cc)), (.int (own_m2 cc)), (.int 0), (.int 0)] (.int 0) := Arv.set Ar1165 q1165 S1165 M1165 H1165 G1165 (fits_nar_byte _) W1165 2 rfl (Nat.le_of_ble_eq_true rfl)
 have pre1170 : own_P p e below T1165 (mkF m 48 #[vR a0, vR b1134, vI 2, vJ (own_u3 cc), .second, vI (own_g2 cc)] []) s₁ (entryFrame m #[(.ref a0)] 6) := fun t k => pre1164 t (st1165 t k)
 have pre1171 : own_P p e below T1165 (mkF m 32 #[vR a0, vR b1134, vI 3, vJ (own_u4 cc), .second, vI (own_g3 cc)] [(.int (lcmpW (own_u4 cc) (0 : Int64))), (.int 3), (.ref b1134)]) s₁ (entryFrame m #[(.ref a0)] 6) := by
  intro t k
  refine pre1170 t ?_
  refine XS.iinc X1165.here hx rfl (hb hby d4_48) rfl (l' := #[vR a0, vR b1134, vI 3, vJ (own_u3 cc), .second, vI (own_g2 cc)]) rfl ?_
  refine XS.lloadN X1165.here hx rfl (hb hby d4_51) rfl ?_
  refine XS.lconst X1165.here hx rfl (hb hby d4_52) ?_
  refine XS.lcmp X1165.here hx rfl (hb hby d4_53) rfl ?_
  refine XS.ifYes X1165.here hx rfl (pc0 := 54) (pc' := 14) rfl (hb hby d4_54) rfl ((if0 _ _).trans (feq (own_neL hk1163)).2) (by decide) (by decide) ?_
  refine XS.lloadN X1165.here hx rfl (hb hby d4_14) rfl ?_
  refine X1165.ldc2Long hx hown (mvT hZ (own_w hw 29 rfl)) (g := (mkF m 15 #[vR a0, vR b1134, vI 3, vJ (own_u3 cc), .second, vI (own_g2 cc)] [(.long (own_u3 cc))])) rfl (hb hby d4_15) _ ?_
  refine XS.land X1165.here hx rfl (hb hby d4_18) rfl ?_
  refine XS.l2i X1165.here hx rfl (hb hby d4_19) rfl ?_
  refine XS.istore X1165.here hx rfl (hb hby d4_20) rfl (l' := #[vR a0, vR b1134, vI 3, vJ (own_u3 cc), .second, vI (own_g3 cc)]) rfl ?_
  refine XS.lloadN X1165.here hx rfl (hb hby d4_22) rfl ?_
  refine XS.bipush X1165.here hx rfl (hb hby d4_23) ?_
  refine XS.lushr X1165.here hx rfl (hb hby d4_25) rfl ?_
  refine XS.lstoreN X1165.here hx rfl (hb hby d4_26) rfl (l' := #[vR a0, vR b1134, vI 3, vJ (own_u4 cc), .second, vI (own_g3 cc)]) rfl ?_
  refine XS.aloadN X1165.here hx rfl (hb hby d4_27) rfl rfl ?_
  refine XS.iloadN X1165.here hx rfl (hb hby d4_28) rfl ?_
  refine XS.lloadN X1165.here hx rfl (hb hby d4_29) rfl ?_
  refine XS.lconst X1165.here hx rfl (hb hby d4_30) ?_
  refine XS.lcmp X1165.here hx rfl (hb hby d4_31) rfl ?_
  exact k
 have hk1172 : ¬ ((own_u4 cc) = (0 : Int64)) := hz4
 have pre1173 : own_P p e below T1165 (mkF m 47 #[vR a0, vR b1134, vI 3, vJ (own_u4 cc), .second, vI (own_g3 cc)] [(.int (((own_g3 cc) ||| (128 : Int32)).toInt8.toInt32)), (.int 3), (.ref b1134)]) s₁ (entryFrame m #[(.ref a0)] 6) := by
  intro t k
  refine pre1171 t ?_
  refine XS.ifYes X1165.here hx rfl (pc0 := 32) (pc' := 40) rfl (hb hby d4_32) rfl ((if0 _ _).trans (feq (own_neL hk1172)).2) (by decide) (by decide) ?_
  refine XS.iload X1165.here hx rfl (hb hby d4_40) rfl ?_
  refine XS.sipush X1165.here hx rfl (hb hby d4_42) ?_
  refine XS.ior X1165.here hx rfl (hb hby d4_45) rfl ?_
  refine XS.i2b X1165.here hx rfl (hb hby d4_46) rfl ?_
  exact k
 obtain ⟨cl1174, Ar1174, q1174, S1174, M1174, H1174, G1174⟩ := id V1165
 have hin1174 : ¬ ((3 : Int32) < 0 ∨ cl1174.slots.size ≤ ((3 : Int32)).toNatClampNeg) := inb_of S1174 ⟨by decide, by decide⟩
 obtain ⟨T1174, h1174, X1174, e1174, W1174, st1174⟩ := stB X1165 hx hZ e1165 Ar1174 (j := (3 : Int32)) hin1174 (g := (mkF m 47 #[vR a0, vR b1134, vI 3, vJ (own_u4 cc), .second, vI (own_g3 cc)] [(.int (((own_g3 cc) ||| (128 : Int32)).toInt8.toInt32)), (.int 3), (.ref b1134)])) rfl rfl (hb hby d4_47)
 have Z1174 : n0 ≤ h1174.size := Nat.le_trans Z1165 (Keep.of_wr W1174).1
 have K1174 : Keep h0 h1174 [] := K1165.wr W1174 (Or.inr sz_b1134)
 have N1174 := Fr.snoc X1174 N1165 g_b1134
 have Ff1175 : Fld Z h1174 a0 own_CK "collection" "I" (.int cc) := (Ff1166).other W1174 (Or.inl ne_a0_b1134)
 have Ff1176 : Fld Z h1174 a0 own_CK "documentKey" "[B" (.ref r1) := (Ff1167).other W1174 (Or.inl ne_a0_b1134)
 have Vf1177 : Arv Z h1174 r1 k_r1 .byte (0 : Int32) [] (.int 0) := (Vf1168).other W1174 ne_r1_b1134
 have Ef1178 : Exa Z h1174 b1134 "[B" := (Ef1169).wr W1174
 have V1174 : Arv Z h1174 b1134 k1134 .byte (5 : Int32) [(.int (own_m0 cc)), (.int (own_m1 cc)), (.int (own_m2 cc)), (.int (own_m3 cc)), (.int 0)] (.int 0) := Arv.set Ar1174 q1174 S1174 M1174 H1174 G1174 (fits_nar_byte _) W1174 3 rfl (Nat.le_of_ble_eq_true rfl)
 have pre1179 : own_P p e below T1174 (mkF m 48 #[vR a0, vR b1134, vI 3, vJ (own_u4 cc), .second, vI (own_g3 cc)] []) s₁ (entryFrame m #[(.ref a0)] 6) := fun t k => pre1173 t (st1174 t k)
 have pre1180 : own_P p e below T1174 (mkF m 32 #[vR a0, vR b1134, vI 4, vJ (own_u5 cc), .second, vI (own_g4 cc)] [(.int (lcmpW (own_u5 cc) (0 : Int64))), (.int 4), (.ref b1134)]) s₁ (entryFrame m #[(.ref a0)] 6) := by
  intro t k
  refine pre1179 t ?_
  refine XS.iinc X1174.here hx rfl (hb hby d4_48) rfl (l' := #[vR a0, vR b1134, vI 4, vJ (own_u4 cc), .second, vI (own_g3 cc)]) rfl ?_
  refine XS.lloadN X1174.here hx rfl (hb hby d4_51) rfl ?_
  refine XS.lconst X1174.here hx rfl (hb hby d4_52) ?_
  refine XS.lcmp X1174.here hx rfl (hb hby d4_53) rfl ?_
  refine XS.ifYes X1174.here hx rfl (pc0 := 54) (pc' := 14) rfl (hb hby d4_54) rfl ((if0 _ _).trans (feq (own_neL hk1172)).2) (by decide) (by decide) ?_
  refine XS.lloadN X1174.here hx rfl (hb hby d4_14) rfl ?_
  refine X1174.ldc2Long hx hown (mvT hZ (own_w hw 29 rfl)) (g := (mkF m 15 #[vR a0, vR b1134, vI 4, vJ (own_u4 cc), .second, vI (own_g3 cc)] [(.long (own_u4 cc))])) rfl (hb hby d4_15) _ ?_
  refine XS.land X1174.here hx rfl (hb hby d4_18) rfl ?_
  refine XS.l2i X1174.here hx rfl (hb hby d4_19) rfl ?_
  refine XS.istore X1174.here hx rfl (hb hby d4_20) rfl (l' := #[vR a0, vR b1134, vI 4, vJ (own_u4 cc), .second, vI (own_g4 cc)]) rfl ?_
  refine XS.lloadN X1174.here hx rfl (hb hby d4_22) rfl ?_
  refine XS.bipush X1174.here hx rfl (hb hby d4_23) ?_
  refine XS.lushr X1174.here hx rfl (hb hby d4_25) rfl ?_
  refine XS.lstoreN X1174.here hx rfl (hb hby d4_26) rfl (l' := #[vR a0, vR b1134, vI 4, vJ (own_u5 cc), .second, vI (own_g4 cc)]) rfl ?_
  refine XS.aloadN X1174.here hx rfl (hb hby d4_27) rfl rfl ?_
  refine XS.iloadN X1174.here hx rfl (hb hby d4_28) rfl ?_
  refine XS.lloadN X1174.here hx rfl (hb hby d4_29) rfl ?_
  refine XS.lconst X1174.here hx rfl (hb hby d4_30) ?_
  refine XS.lcmp X1174.here hx rfl (hb hby d4_31) rfl ?_
  exact k
 have hk1181 : (own_u5 cc) = (0 : Int64) := hz5
 have pre1182 : own_P p e below T1174 (mkF m 47 #[vR a0, vR b1134, vI 4, vJ (own_u5 cc), .second, vI (own_g4 cc)] [(.int ((own_g4 cc).toInt8.toInt32)), (.int 4), (.ref b1134)]) s₁ (entryFrame m #[(.ref a0)] 6) := by
  intro t k
  refine pre1180 t ?_
  refine XS.ifNo X1174.here hx rfl (hb hby d4_32) rfl ((if0 _ _).trans (teq (own_eqL hk1181)).2) ?_
  refine XS.iload X1174.here hx rfl (hb hby d4_35) rfl ?_
  refine XS.goto X1174.here hx rfl (pc0 := 37) (pc' := 46) rfl (hb hby d4_37) (by decide) (by decide) ?_
  refine XS.i2b X1174.here hx rfl (hb hby d4_46) rfl ?_
  exact k
 obtain ⟨cl1183, Ar1183, q1183, S1183, M1183, H1183, G1183⟩ := id V1174
 have hin1183 : ¬ ((4 : Int32) < 0 ∨ cl1183.slots.size ≤ ((4 : Int32)).toNatClampNeg) := inb_of S1183 ⟨by decide, by decide⟩
 obtain ⟨T1183, h1183, X1183, e1183, W1183, st1183⟩ := stB X1174 hx hZ e1174 Ar1183 (j := (4 : Int32)) hin1183 (g := (mkF m 47 #[vR a0, vR b1134, vI 4, vJ (own_u5 cc), .second, vI (own_g4 cc)] [(.int ((own_g4 cc).toInt8.toInt32)), (.int 4), (.ref b1134)])) rfl rfl (hb hby d4_47)
 have Z1183 : n0 ≤ h1183.size := Nat.le_trans Z1174 (Keep.of_wr W1183).1
 have K1183 : Keep h0 h1183 [] := K1174.wr W1183 (Or.inr sz_b1134)
 have N1183 := Fr.snoc X1183 N1174 g_b1134
 have Ff1184 : Fld Z h1183 a0 own_CK "collection" "I" (.int cc) := (Ff1175).other W1183 (Or.inl ne_a0_b1134)
 have Ff1185 : Fld Z h1183 a0 own_CK "documentKey" "[B" (.ref r1) := (Ff1176).other W1183 (Or.inl ne_a0_b1134)
 have Vf1186 : Arv Z h1183 r1 k_r1 .byte (0 : Int32) [] (.int 0) := (Vf1177).other W1183 ne_r1_b1134
 have Ef1187 : Exa Z h1183 b1134 "[B" := (Ef1178).wr W1183
 have V1183 : Arv Z h1183 b1134 k1134 .byte (5 : Int32) [(.int (own_m0 cc)), (.int (own_m1 cc)), (.int (own_m2 cc)), (.int (own_m3 cc)), (.int (own_l4 cc))] (.int 0) := Arv.set Ar1183 q1183 S1183 M1183 H1183 G1183 (fits_nar_byte _) W1183 4 rfl (Nat.le_of_ble_eq_true rfl)
 have pre1188 : own_P p e below T1183 (mkF m 48 #[vR a0, vR b1134, vI 4, vJ (own_u5 cc), .second, vI (own_g4 cc)] []) s₁ (entryFrame m #[(.ref a0)] 6) := fun t k => pre1182 t (st1183 t k)
 have pre1189 : own_P p e below T1183 (mkF m 60 #[vR a0, vR b1134, vI 5, vJ (own_u5 cc), .second, vI (own_g4 cc)] [(.ref a0), (.int 5), (.ref b1134)]) s₁ (entryFrame m #[(.ref a0)] 6) := by
  intro t k
  refine pre1188 t ?_
  refine XS.iinc X1183.here hx rfl (hb hby d4_48) rfl (l' := #[vR a0, vR b1134, vI 5, vJ (own_u5 cc), .second, vI (own_g4 cc)]) rfl ?_
  refine XS.lloadN X1183.here hx rfl (hb hby d4_51) rfl ?_
  refine XS.lconst X1183.here hx rfl (hb hby d4_52) ?_
  refine XS.lcmp X1183.here hx rfl (hb hby d4_53) rfl ?_
  refine XS.ifNo X1183.here hx rfl (hb hby d4_54) rfl ((if0 _ _).trans (teq (own_eqL hk1181)).2) ?_
  refine XS.aloadN X1183.here hx rfl (hb hby d4_57) rfl rfl ?_
  refine XS.iloadN X1183.here hx rfl (hb hby d4_58) rfl ?_
  refine XS.aloadN X1183.here hx rfl (hb hby d4_59) rfl rfl ?_
  exact k
 obtain ⟨T1190, X1190, e1190, st1190⟩ := getF X1183 hx hZ hown (host := "") (Or.inl (own_w hw 17 rfl)) Via.refl e1183 Ff1185 (g := (mkF m 60 #[vR a0, vR b1134, vI 5, vJ (own_u5 cc), .second, vI (own_g4 cc)] [(.ref a0), (.int 5), (.ref b1134)])) rfl rfl (hb hby d4_60)
 have pre1191 : own_P p e below T1190 (mkF m 63 #[vR a0, vR b1134, vI 5, vJ (own_u5 cc), .second, vI (own_g4 cc)] [(.ref r1), (.int 5), (.ref b1134)]) s₁ (entryFrame m #[(.ref a0)] 6) := fun t k => pre1189 t (st1190 t k)
 obtain ⟨cl1192, Ar1192, q1192, S1192, M1192, H1192, G1192⟩ := id Vf1186
 have pre1193 : own_P p e below T1190 (mkF m 65 #[vR a0, vR b1134, vI 5, vJ (own_u5 cc), .second, vI (own_g4 cc)] [(.int 5), (.ref b1134)]) s₁ (entryFrame m #[(.ref a0)] 6) := by
  intro t k
  refine pre1191 t ?_
  refine X1190.arraylength hx (by rw [e1190]; exact Ar1192.1) (State.isArrayOf_alike hZ.alike Ar1192.2.1) (g := (mkF m 63 #[vR a0, vR b1134, vI 5, vJ (own_u5 cc), .second, vI (own_g4 cc)] [(.ref r1), (.int 5), (.ref b1134)])) rfl rfl (hb hby d4_63) _ ?_
  rw [len_of S1192 M1192]
  refine XS.iadd X1190.here hx rfl (hb hby d4_64) rfl ?_
  exact k
 obtain ⟨_, _, ⟨T1194, L1194, k1194, n1194⟩, -, X1194, ⟨Lc1194, hQ1194, l1194, y1194, z1194⟩, st1194⟩ := Jvm.LawKit.callS X1190 hx (y := (⟨"java/util/Arrays", "copyOf", "([BI)[B"⟩ : MethodName)) hown (mvT hZ (own_w hw 30 rfl)) (mvT hZ (own_w hw 31 rfl)) (mvT hZ (own_w hw 32 rfl)) (mvT hZ (own_w hw 33 rfl)) (by decide) (backOf (W := 0) (rm6_5 l Z ar0 hw [] b1134 k1134 (own_m0 cc) (own_m1 cc) (own_m2 cc) (own_m3 cc) (own_l4 cc) h1183 n0 Z1183 V1183 Ef1187) hZ (own_w hw 33 rfl) (own_w hw 32 rfl) (by decide) (by decide)) (g := (mkF m 65 #[vR a0, vR b1134, vI 5, vJ (own_u5 cc), .second, vI (own_g4 cc)] [(.int 5), (.ref b1134)])) rfl (by rw [hml]; rfl) (argsL := [(.ref b1134), (.int 5)]) (rest := []) (lenOf pd_3 rfl) rfl (by show 2 * 0 + _ ≤ _; exact Nat.le_of_eq rfl) (hb hby d4_65) (fun _ _ => ⟨rfl, e1190, (by decide : 1 + 1 ≤ _), (by decide : 5 + 5 ≤ _)⟩)
 dsimp only [Pt.U, Pt.locs, Pt.cells, Pt.slots] at X1194 l1194 y1194 z1194 st1194 hQ1194
 subst l1194 y1194 z1194
 obtain ⟨h1194, e1194⟩ : ∃ h, T1194.heap = h := ⟨_, rfl⟩
 rw [e1194] at hQ1194
 obtain ⟨b1194, kb1194, rfl, N1194q, K1194q, y_b1194, Ob1194_0, Ob1194_1⟩ := hQ1194
 have N1194 := Fr.app N1183 N1194q
 have ne_a0_b1194 : a0 ≠ b1194 := Nat.ne_of_lt (Nat.lt_of_lt_of_le (Ff1184).lt y_b1194)
 have ne_r1_b1194 : r1 ≠ b1194 := Nat.ne_of_lt (Nat.lt_of_lt_of_le (Vf1186).lt y_b1194)
 have ne_b1134_b1194 : b1134 ≠ b1194 := Nat.ne_of_lt (Nat.lt_of_lt_of_le (Ef1187).lt y_b1194)
 have g_b1194 : n0 ≤ b1194 := Nat.le_trans Z1183 y_b1194
 have sz_b1194 : h0.size ≤ b1194 := Nat.le_trans K1183.1 y_b1194
 have Z1194 : n0 ≤ h1194.size := Nat.le_trans Z1183 K1194q.1
 have K1194 : Keep h0 h1194 [] := K1183.trans K1194q (fun x hx => absurd hx List.not_mem_nil)
 have Ff1195 : Fld Z h1194 a0 own_CK "collection" "I" (.int cc) := (Ff1184).keep K1194q List.not_mem_nil
 have Ff1196 : Fld Z h1194 a0 own_CK "documentKey" "[B" (.ref r1) := (Ff1185).keep K1194q List.not_mem_nil
 have Vf1197 : Arv Z h1194 r1 k_r1 .byte (0 : Int32) [] (.int 0) := (Vf1186).keep K1194q List.not_mem_nil
 have Ef1198 : Exa Z h1194 b1134 "[B" := (Ef1187).keep K1194q
 have Vf1199 : Arv Z h1194 b1134 k1134 .byte (5 : Int32) [(.int (own_m0 cc)), (.int (own_m1 cc)), (.int (own_m2 cc)), (.int (own_m3 cc)), (.int (own_l4 cc))] (.int 0) := (V1183).keep K1194q List.not_mem_nil
 have pre1200 : own_P p e below T1194 (mkF m 68 #[vR a0, vR b1134, vI 5, vJ (own_u5 cc), .second, vI (own_g4 cc)] [(.ref b1194)]) s₁ (entryFrame m #[(.ref a0)] 6) := fun t k => pre1193 t (st1194 t k)
 have pre1201 : own_P p e below T1194 (mkF m 71 #[vR a0, vR b1134, vI 5, vJ (own_u5 cc), .second, vR b1194] [(.ref a0)]) s₁ (entryFrame m #[(.ref a0)] 6) := by
  intro t k
  refine pre1200 t ?_
  refine XS.astore X1194.here hx rfl (hb hby d4_68) rfl rfl (l' := #[vR a0, vR b1134, vI 5, vJ (own_u5 cc), .second, vR b1194]) rfl ?_
  refine XS.aloadN X1194.here hx rfl (hb hby d4_70) rfl rfl ?_
  exact k
 obtain ⟨T1202, X1202, e1202, st1202⟩ := getF X1194 hx hZ hown (host := "") (Or.inl (own_w hw 17 rfl)) Via.refl e1194 Ff1196 (g := (mkF m 71 #[vR a0, vR b1134, vI 5, vJ (own_u5 cc), .second, vR b1194] [(.ref a0)])) rfl rfl (hb hby d4_71)
 have pre1203 : own_P p e below T1202 (mkF m 74 #[vR a0, vR b1134, vI 5, vJ (own_u5 cc), .second, vR b1194] [(.ref r1)]) s₁ (entryFrame m #[(.ref a0)] 6) := fun t k => pre1201 t (st1202 t k)
 have pre1204 : own_P p e below T1202 (mkF m 79 #[vR a0, vR b1134, vI 5, vJ (own_u5 cc), .second, vR b1194] [(.ref a0), (.int 5), (.ref b1194), (.int 0), (.ref r1)]) s₁ (entryFrame m #[(.ref a0)] 6) := by
  intro t k
  refine pre1203 t ?_
  refine XS.iconst X1202.here hx rfl (hb hby d4_74) ?_
  refine XS.aload X1202.here hx rfl (hb hby d4_75) rfl rfl ?_
  refine XS.iloadN X1202.here hx rfl (hb hby d4_77) rfl ?_
  refine XS.aloadN X1202.here hx rfl (hb hby d4_78) rfl rfl ?_
  exact k
 obtain ⟨T1205, X1205, e1205, st1205⟩ := getF X1202 hx hZ hown (host := "") (Or.inl (own_w hw 17 rfl)) Via.refl e1202 Ff1196 (g := (mkF m 79 #[vR a0, vR b1134, vI 5, vJ (own_u5 cc), .second, vR b1194] [(.ref a0), (.int 5), (.ref b1194), (.int 0), (.ref r1)])) rfl rfl (hb hby d4_79)
 have pre1206 : own_P p e below T1205 (mkF m 82 #[vR a0, vR b1134, vI 5, vJ (own_u5 cc), .second, vR b1194] [(.ref r1), (.int 5), (.ref b1194), (.int 0), (.ref r1)]) s₁ (entryFrame m #[(.ref a0)] 6) := fun t k => pre1204 t (st1205 t k)
 obtain ⟨cl1207, Ar1207, q1207, S1207, M1207, H1207, G1207⟩ := id Vf1197
 have pre1208 : own_P p e below T1205 (mkF m 83 #[vR a0, vR b1134, vI 5, vJ (own_u5 cc), .second, vR b1194] [(.int 0), (.int 5), (.ref b1194), (.int 0), (.ref r1)]) s₁ (entryFrame m #[(.ref a0)] 6) := by
  intro t k
  refine pre1206 t ?_
  refine X1205.arraylength hx (by rw [e1205]; exact Ar1207.1) (State.isArrayOf_alike hZ.alike Ar1207.2.1) (g := (mkF m 82 #[vR a0, vR b1134, vI 5, vJ (own_u5 cc), .second, vR b1194] [(.ref r1), (.int 5), (.ref b1194), (.int 0), (.ref r1)])) rfl rfl (hb hby d4_82) _ ?_
  rw [len_of S1207 M1207]
  exact k
 obtain ⟨T1209, h1209, L1209, X1209, e1209, N1209, K1209q, V1209q, st1209⟩ := cpA X1205 hx hZ hown (own_w hw 42 rfl) (own_w hw 41 rfl) (own_w hw 39 rfl) (own_w hw 40 rfl) e1205 Vf1197 Ob1194_0 (Or.inl ⟨rfl, rfl⟩) (by decide) (by decide) (by decide) (by decide) (by decide) (us := []) rfl (Nat.le_of_ble_eq_true rfl) N1194 g_b1194 (g := (mkF m 83 #[vR a0, vR b1134, vI 5, vJ (own_u5 cc), .second, vR b1194] [(.int 0), (.int 5), (.ref b1194), (.int 0), (.ref r1)])) rfl (by rw [hml]; rfl) rfl (hb hby d4_83) (by decide) (W := 0) (by show 2 * 0 + _ ≤ _; exact Nat.le_of_eq rfl) (by decide)
 have Z1209 : n0 ≤ h1209.size := Nat.le_trans Z1194 K1209q.1
 have K1209 : Keep h0 h1209 [] := K1194.trans K1209q (fun x hx => by cases List.mem_singleton.mp hx; exact Or.inr sz_b1194)
 have Ff1210 : Fld Z h1209 a0 own_CK "collection" "I" (.int cc) := (Ff1195).keep K1209q (fun q => absurd (List.mem_singleton.mp q) ne_a0_b1194)
 have Ff1211 : Fld Z h1209 a0 own_CK "documentKey" "[B" (.ref r1) := (Ff1196).keep K1209q (fun q => absurd (List.mem_singleton.mp q) ne_a0_b1194)
 have Vf1212 : Arv Z h1209 r1 k_r1 .byte (0 : Int32) [] (.int 0) := (Vf1197).keep K1209q (fun q => absurd (List.mem_singleton.mp q) ne_r1_b1194)
 have Ef1213 : Exa Z h1209 b1134 "[B" := (Ef1198).keep K1209q
 have Vf1214 : Arv Z h1209 b1134 k1134 .byte (5 : Int32) [(.int (own_m0 cc)), (.int (own_m1 cc)), (.int (own_m2 cc)), (.int (own_m3 cc)), (.int (own_l4 cc))] (.int 0) := (Vf1199).keep K1209q (fun q => absurd (List.mem_singleton.mp q) ne_b1134_b1194)
 have Ef1215 : Exa Z h1209 b1194 "[B" := (Ob1194_1).keep K1209q
 have V1209 : Arv Z h1209 b1194 kb1194 .byte (5 : Int32) [(.int (own_m0 cc)), (.int (own_m1 cc)), (.int (own_m2 cc)), (.int (own_m3 cc)), (.int (own_l4 cc))] (.int 0) := V1209q
 have pre1216 : own_P p e below T1209 (mkF m 86 #[vR a0, vR b1134, vI 5, vJ (own_u5 cc), .second, vR b1194] []) s₁ (entryFrame m #[(.ref a0)] 6) := fun t k => pre1208 t (st1209 t k)
 obtain ⟨fs, hr, hrun, hended, hW, hsame⟩ := X1209.leave (v := some (.ref b1194)) (fun h => by rw [Bd.returns] at h; cases h)
 refine ⟨_, _, pre1216 _ ?_, hrun, hended, _, _, rfl, ?_, ⟨_, rfl⟩, hW, hsame.mono (by decide) (by decide)⟩
 ·
  refine XS.aload X1209.here hx rfl (hb hby d4_86) rfl rfl ?_
  exact retOut X1209 hx Bd.returns rfl (Or.inr (Or.inr (Or.inr (Or.inr ⟨rfl, rfl, rfl⟩)))) (hb hby d4_88) hr
 ·
  show Q4_5_0 Z a0 cc r1 k_r1 h0 n0 _ T1209.heap _
  rw [e1209]
  exact ⟨b1194, kb1194, rfl, N1209, K1209, sz_b1194, Ef1215, V1209⟩
def Q4_5_1 (Z : State) (a0 : Addr) (cc : Int32) (r1 : Addr) (k_r1 : ClassId) (y0 : Int32) (h0 : Heap) (n0 : Nat) (v : Option Value) (h : Heap) (L : List Loc) : Prop := ∃ (b : Addr) (k_b : ClassId), v = some (.ref b) ∧ Fr n0 L ∧ Keep h0 h [] ∧ h0.size ≤ b ∧ Exa Z h b "[B" ∧ Arv Z h b k_b .byte (6 : Int32) [(.int (own_m0 cc)), (.int (own_m1 cc)), (.int (own_m2 cc)), (.int (own_m3 cc)), (.int (own_l4 cc)), (.int y0)] (.int 0)
set_option maxRecDepth 65536 in
set_option maxHeartbeats 40000000 in
theorem rm4_5_1 (l : Launch) (Z : State) (ar0 : Array Value) (hw : ∀ d ∈ tables_1, d.before ar0 Z = true) (ws : List Jvm.Cond) (a0 : Addr) (cc : Int32) (r1 : Addr) (k_r1 : ClassId) (y0 : Int32) (h0 : Heap) (n0 : Nat) (Z0 : n0 ≤ h0.size) (F_collection_a0 : Fld Z h0 a0 own_CK "collection" "I" (.int cc)) (F_documentKey_a0 : Fld Z h0 a0 own_CK "documentKey" "[B" (.ref r1)) (V_r1 : Arv Z h0 r1 k_r1 .byte (1 : Int32) [(.int y0)] (.int 0)) (hz1 : ¬ ((own_u1 cc) = (0 : Int64))) (hz2 : ¬ ((own_u2 cc) = (0 : Int64))) (hz3 : ¬ ((own_u3 cc) = (0 : Int64))) (hz4 : ¬ ((own_u4 cc) = (0 : Int64))) (hz5 : (own_u5 cc) = (0 : Int64)) :
  MetFree l (⟨own_CK, "write", "()[B"⟩ : MethodName) (head1 (Jvm.Cond.code (⟨own_CK, "write", "()[B"⟩ : MethodName) prog_8_method_3_code 6 (some (.array .byte)) :: ws) ({ frames := 2, cells := 2, slots := 11, locals := 32 } : Room)) (fun a U => a = #[(.ref a0)] ∧ Z.Warmed39 U.vm ∧ U.heap = h0) (fun _ _ _ _ _ => True) (fun _ U o U' => ∃ v L, o = .returned v ∧ Q4_5_1 Z a0 cc r1 k_r1 y0 h0 n0 v U'.heap L ∧ FrameEnd U o U' L ({ frames := 2, cells := 2, slots := 11, locals := 32 } : Room).cells ({ frames := 2, cells := 2, slots := 11, locals := 32 } : Room).slots) := by
 refine MetFree.of_bodySF (plainFor_of_name pn_1) hisR ?_
 intro p e s m args below meth c s₁ Bd hml0 hP hK
 obtain ⟨rfl, hZ, hh⟩ := hP
 have hx := Bd.exec
 have hby := Bd.bytes
 have hml : c.maxLocals = 6 := hml0
 have hown : s.vm.findClass own_CK = some m.cls := by have q := findClass_of_methodNamed Bd.named; exact q
 have hnm := (name_of_methodNamed Bd.named Bd.method).1
 have X0 : Stand p l e ({ frames := 2, cells := 2, slots := 11, locals := 32 } : Room) s m #[(.ref a0)] below meth c s₁ [] 0 0 := Stand.of_body Bd
 have e0 : s₁.heap = h0 := by rw [← hh, Bd.state]; rfl
 have N0 := Fr.nil n0
 have pre0 : own_P p e below s₁ (mkF m 0 #[vR a0, .unset, .unset, .unset, .unset, .unset] []) s₁ (entryFrame m #[(.ref a0)] 6) := fun t k => castTop (ef_4 m a0) k
 have pre1217 : own_P p e below s₁ (mkF m 1 #[vR a0, .unset, .unset, .unset, .unset, .unset] [(.int 5)]) s₁ (entryFrame m #[(.ref a0)] 6) := by
  intro t k
  refine pre0 t ?_
  refine XS.iconst X0.here hx rfl (hb hby d4_0) ?_
  exact k
 obtain ⟨T1218, h1218, k1218, X1218, e1218, E1218, A1218, C1218, st1218⟩ := newPE X0 hx hZ (own_w hw 0 rfl) e0 (g := (mkF m 1 #[vR a0, .unset, .unset, .unset, .unset, .unset] [(.int 5)])) rfl (hb hby d4_1) rfl (by decide) (cap := 5) (by decide) (by decide) (by decide) (by decide) (ad := "[B") rfl
 obtain ⟨b1218, g1218⟩ : ∃ z, z = h0.size := ⟨_, rfl⟩
 rw [← g1218] at A1218 C1218 st1218
 have ne_a0_b1218 : a0 ≠ b1218 := Nat.ne_of_lt (Nat.lt_of_lt_of_le (F_collection_a0).lt (Nat.le_of_eq g1218.symm))
 have ne_r1_b1218 : r1 ≠ b1218 := Nat.ne_of_lt (Nat.lt_of_lt_of_le (V_r1).lt (Nat.le_of_eq g1218.symm))
 have g_b1218 : n0 ≤ b1218 := Nat.le_trans Z0 (Nat.le_of_eq g1218.symm)
 have sz_b1218 : h0.size ≤ b1218 := Nat.le_trans (Keep.refl h0 []).1 (Nat.le_of_eq g1218.symm)
 have Z1218 : n0 ≤ h1218.size := Nat.le_trans Z0 E1218.1
 have K1218 : Keep h0 h1218 [] := (Keep.refl h0 []).ext E1218
 have Ff1219 : Fld Z h1218 a0 own_CK "collection" "I" (.int cc) := (F_collection_a0).ext E1218
 have Ff1220 : Fld Z h1218 a0 own_CK "documentKey" "[B" (.ref r1) := (F_documentKey_a0).ext E1218
 have Vf1221 : Arv Z h1218 r1 k_r1 .byte (1 : Int32) [(.int y0)] (.int 0) := (V_r1).ext E1218
 have V_b1218 : Arv Z h1218 b1218 k1218 .byte (5 : Int32) [(.int 0), (.int 0), (.int 0), (.int 0), (.int 0)] (.int 0) := (Arv.new A1218 (by decide)).pad (pad_rep [] (.int 0) 5)
 have pre1222 : own_P p e below T1218 (mkF m 3 #[vR a0, .unset, .unset, .unset, .unset, .unset] [(.ref b1218)]) s₁ (entryFrame m #[(.ref a0)] 6) := fun t k => pre1217 t (st1218 t k)
 have pre1223 : own_P p e below T1218 (mkF m 7 #[vR a0, vR b1218, vI 0, .unset, .unset, .unset] [(.ref a0)]) s₁ (entryFrame m #[(.ref a0)] 6) := by
  intro t k
  refine pre1222 t ?_
  refine XS.astoreN X1218.here hx rfl (hb hby d4_3) rfl rfl (l' := #[vR a0, vR b1218, .unset, .unset, .unset, .unset]) rfl ?_
  refine XS.iconst X1218.here hx rfl (hb hby d4_4) ?_
  refine XS.istoreN X1218.here hx rfl (hb hby d4_5) rfl (l' := #[vR a0, vR b1218, vI 0, .unset, .unset, .unset]) rfl ?_
  refine XS.aloadN X1218.here hx rfl (hb hby d4_6) rfl rfl ?_
  exact k
 obtain ⟨T1224, X1224, e1224, st1224⟩ := getF X1218 hx hZ hown (host := "") (Or.inl (own_w hw 15 rfl)) Via.refl e1218 Ff1219 (g := (mkF m 7 #[vR a0, vR b1218, vI 0, .unset, .unset, .unset] [(.ref a0)])) rfl rfl (hb hby d4_7)
 have pre1225 : own_P p e below T1224 (mkF m 10 #[vR a0, vR b1218, vI 0, .unset, .unset, .unset] [(.int cc)]) s₁ (entryFrame m #[(.ref a0)] 6) := fun t k => pre1223 t (st1224 t k)
 obtain ⟨_, _, ⟨T1226, L1226, k1226, n1226⟩, -, X1226, ⟨Lc1226, hQ1226, l1226, y1226, z1226⟩, st1226⟩ := Jvm.LawKit.callS X1224 hx (y := (⟨"java/lang/Integer", "toUnsignedLong", "(I)J"⟩ : MethodName)) hown (mvT hZ (own_w hw 24 rfl)) (mvT hZ (own_w hw 25 rfl)) (mvT hZ (own_w hw 26 rfl)) (mvT hZ (own_w hw 27 rfl)) (by decide) (backOf (W := 0) (rm5 l Z ar0 hw [] cc h1218 n0 Z1218) hZ (own_w hw 27 rfl) (own_w hw 26 rfl) (by decide) (by decide)) (g := (mkF m 10 #[vR a0, vR b1218, vI 0, .unset, .unset, .unset] [(.int cc)])) rfl (by rw [hml]; rfl) (argsL := [(.int cc)]) (rest := []) (lenOf pd_2 rfl) rfl (by show 2 * 0 + _ ≤ _; exact Nat.le_of_eq rfl) (hb hby d4_10) (fun _ _ => ⟨rfl, e1224, (by decide : 1 + 0 ≤ _), (by decide : 5 + 0 ≤ _)⟩)
 dsimp only [Pt.U, Pt.locs, Pt.cells, Pt.slots] at X1226 l1226 y1226 z1226 st1226 hQ1226
 subst l1226 y1226 z1226
 obtain ⟨rfl, N1226q, e1226⟩ := hQ1226
 have N1226 := Fr.app N0 N1226q
 have pre1227 : own_P p e below T1226 (mkF m 13 #[vR a0, vR b1218, vI 0, .unset, .unset, .unset] [(.long (own_u0 cc))]) s₁ (entryFrame m #[(.ref a0)] 6) := fun t k => pre1225 t (st1226 t k)
 have pre1228 : own_P p e below T1226 (mkF m 32 #[vR a0, vR b1218, vI 0, vJ (own_u1 cc), .second, vI (own_g0 cc)] [(.int (lcmpW (own_u1 cc) (0 : Int64))), (.int 0), (.ref b1218)]) s₁ (entryFrame m #[(.ref a0)] 6) := by
  intro t k
  refine pre1227 t ?_
  refine XS.lstoreN X1226.here hx rfl (hb hby d4_13) rfl (l' := #[vR a0, vR b1218, vI 0, vJ (own_u0 cc), .second, .unset]) rfl ?_
  refine XS.lloadN X1226.here hx rfl (hb hby d4_14) rfl ?_
  refine X1226.ldc2Long hx hown (mvT hZ (own_w hw 29 rfl)) (g := (mkF m 15 #[vR a0, vR b1218, vI 0, vJ (own_u0 cc), .second, .unset] [(.long (own_u0 cc))])) rfl (hb hby d4_15) _ ?_
  refine XS.land X1226.here hx rfl (hb hby d4_18) rfl ?_
  refine XS.l2i X1226.here hx rfl (hb hby d4_19) rfl ?_
  refine XS.istore X1226.here hx rfl (hb hby d4_20) rfl (l' := #[vR a0, vR b1218, vI 0, vJ (own_u0 cc), .second, vI (own_g0 cc)]) rfl ?_
  refine XS.lloadN X1226.here hx rfl (hb hby d4_22) rfl ?_
  refine XS.bipush X1226.here hx rfl (hb hby d4_23) ?_
  refine XS.lushr X1226.here hx rfl (hb hby d4_25) rfl ?_
  refine XS.lstoreN X1226.here hx rfl (hb hby d4_26) rfl (l' := #[vR a0, vR b1218, vI 0, vJ (own_u1 cc), .second, vI (own_g0 cc)]) rfl ?_
  refine XS.aloadN X1226.here hx rfl (hb hby d4_27) rfl rfl ?_
  refine XS.iloadN X1226.here hx rfl (hb hby d4_28) rfl ?_
  refine XS.lloadN X1226.here hx rfl (hb hby d4_29) rfl ?_
  refine XS.lconst X1226.here hx rfl (hb hby d4_30) ?_
  refine XS.lcmp X1226.here hx rfl (hb hby d4_31) rfl ?_
  exact k
 have hk1229 : ¬ ((own_u1 cc) = (0 : Int64)) := hz1
 have pre1230 : own_P p e below T1226 (mkF m 47 #[vR a0, vR b1218, vI 0, vJ (own_u1 cc), .second, vI (own_g0 cc)] [(.int (((own_g0 cc) ||| (128 : Int32)).toInt8.toInt32)), (.int 0), (.ref b1218)]) s₁ (entryFrame m #[(.ref a0)] 6) := by
  intro t k
  refine pre1228 t ?_
  refine XS.ifYes X1226.here hx rfl (pc0 := 32) (pc' := 40) rfl (hb hby d4_32) rfl ((if0 _ _).trans (feq (own_neL hk1229)).2) (by decide) (by decide) ?_
  refine XS.iload X1226.here hx rfl (hb hby d4_40) rfl ?_
  refine XS.sipush X1226.here hx rfl (hb hby d4_42) ?_
  refine XS.ior X1226.here hx rfl (hb hby d4_45) rfl ?_
  refine XS.i2b X1226.here hx rfl (hb hby d4_46) rfl ?_
  exact k
 obtain ⟨cl1231, Ar1231, q1231, S1231, M1231, H1231, G1231⟩ := id V_b1218
 have hin1231 : ¬ ((0 : Int32) < 0 ∨ cl1231.slots.size ≤ ((0 : Int32)).toNatClampNeg) := inb_of S1231 ⟨by decide, by decide⟩
 obtain ⟨T1231, h1231, X1231, e1231, W1231, st1231⟩ := stB X1226 hx hZ e1226 Ar1231 (j := (0 : Int32)) hin1231 (g := (mkF m 47 #[vR a0, vR b1218, vI 0, vJ (own_u1 cc), .second, vI (own_g0 cc)] [(.int (((own_g0 cc) ||| (128 : Int32)).toInt8.toInt32)), (.int 0), (.ref b1218)])) rfl rfl (hb hby d4_47)
 have Z1231 : n0 ≤ h1231.size := Nat.le_trans Z1218 (Keep.of_wr W1231).1
 have K1231 : Keep h0 h1231 [] := K1218.wr W1231 (Or.inr sz_b1218)
 have N1231 := Fr.snoc X1231 N1226 g_b1218
 have Ff1232 : Fld Z h1231 a0 own_CK "collection" "I" (.int cc) := (Ff1219).other W1231 (Or.inl ne_a0_b1218)
 have Ff1233 : Fld Z h1231 a0 own_CK "documentKey" "[B" (.ref r1) := (Ff1220).other W1231 (Or.inl ne_a0_b1218)
 have Vf1234 : Arv Z h1231 r1 k_r1 .byte (1 : Int32) [(.int y0)] (.int 0) := (Vf1221).other W1231 ne_r1_b1218
 have Ef1235 : Exa Z h1231 b1218 "[B" := (C1218).wr W1231
 have V1231 : Arv Z h1231 b1218 k1218 .byte (5 : Int32) [(.int (own_m0 cc)), (.int 0), (.int 0), (.int 0), (.int 0)] (.int 0) := Arv.set Ar1231 q1231 S1231 M1231 H1231 G1231 (fits_nar_byte _) W1231 0 rfl (Nat.le_of_ble_eq_true rfl)
 have pre1236 : own_P p e below T1231 (mkF m 48 #[vR a0, vR b1218, vI 0, vJ (own_u1 cc), .second, vI (own_g0 cc)] []) s₁ (entryFrame m #[(.ref a0)] 6) := fun t k => pre1230 t (st1231 t k)
 have pre1237 : own_P p e below T1231 (mkF m 32 #[vR a0, vR b1218, vI 1, vJ (own_u2 cc), .second, vI (own_g1 cc)] [(.int (lcmpW (own_u2 cc) (0 : Int64))), (.int 1), (.ref b1218)]) s₁ (entryFrame m #[(.ref a0)] 6) := by
  intro t k
  refine pre1236 t ?_
  refine XS.iinc X1231.here hx rfl (hb hby d4_48) rfl (l' := #[vR a0, vR b1218, vI 1, vJ (own_u1 cc), .second, vI (own_g0 cc)]) rfl ?_
  refine XS.lloadN X1231.here hx rfl (hb hby d4_51) rfl ?_
  refine XS.lconst X1231.here hx rfl (hb hby d4_52) ?_
  refine XS.lcmp X1231.here hx rfl (hb hby d4_53) rfl ?_
  refine XS.ifYes X1231.here hx rfl (pc0 := 54) (pc' := 14) rfl (hb hby d4_54) rfl ((if0 _ _).trans (feq (own_neL hk1229)).2) (by decide) (by decide) ?_
  refine XS.lloadN X1231.here hx rfl (hb hby d4_14) rfl ?_
  refine X1231.ldc2Long hx hown (mvT hZ (own_w hw 29 rfl)) (g := (mkF m 15 #[vR a0, vR b1218, vI 1, vJ (own_u1 cc), .second, vI (own_g0 cc)] [(.long (own_u1 cc))])) rfl (hb hby d4_15) _ ?_
  refine XS.land X1231.here hx rfl (hb hby d4_18) rfl ?_
  refine XS.l2i X1231.here hx rfl (hb hby d4_19) rfl ?_
  refine XS.istore X1231.here hx rfl (hb hby d4_20) rfl (l' := #[vR a0, vR b1218, vI 1, vJ (own_u1 cc), .second, vI (own_g1 cc)]) rfl ?_
  refine XS.lloadN X1231.here hx rfl (hb hby d4_22) rfl ?_
  refine XS.bipush X1231.here hx rfl (hb hby d4_23) ?_
  refine XS.lushr X1231.here hx rfl (hb hby d4_25) rfl ?_
  refine XS.lstoreN X1231.here hx rfl (hb hby d4_26) rfl (l' := #[vR a0, vR b1218, vI 1, vJ (own_u2 cc), .second, vI (own_g1 cc)]) rfl ?_
  refine XS.aloadN X1231.here hx rfl (hb hby d4_27) rfl rfl ?_
  refine XS.iloadN X1231.here hx rfl (hb hby d4_28) rfl ?_
  refine XS.lloadN X1231.here hx rfl (hb hby d4_29) rfl ?_
  refine XS.lconst X1231.here hx rfl (hb hby d4_30) ?_
  refine XS.lcmp X1231.here hx rfl (hb hby d4_31) rfl ?_
  exact k
 have hk1238 : ¬ ((own_u2 cc) = (0 : Int64)) := hz2
 have pre1239 : own_P p e below T1231 (mkF m 47 #[vR a0, vR b1218, vI 1, vJ (own_u2 cc), .second, vI (own_g1 cc)] [(.int (((own_g1 cc) ||| (128 : Int32)).toInt8.toInt32)), (.int 1), (.ref b1218)]) s₁ (entryFrame m #[(.ref a0)] 6) := by
  intro t k
  refine pre1237 t ?_
  refine XS.ifYes X1231.here hx rfl (pc0 := 32) (pc' := 40) rfl (hb hby d4_32) rfl ((if0 _ _).trans (feq (own_neL hk1238)).2) (by decide) (by decide) ?_
  refine XS.iload X1231.here hx rfl (hb hby d4_40) rfl ?_
  refine XS.sipush X1231.here hx rfl (hb hby d4_42) ?_
  refine XS.ior X1231.here hx rfl (hb hby d4_45) rfl ?_
  refine XS.i2b X1231.here hx rfl (hb hby d4_46) rfl ?_
  exact k
 obtain ⟨cl1240, Ar1240, q1240, S1240, M1240, H1240, G1240⟩ := id V1231
 have hin1240 : ¬ ((1 : Int32) < 0 ∨ cl1240.slots.size ≤ ((1 : Int32)).toNatClampNeg) := inb_of S1240 ⟨by decide, by decide⟩
 obtain ⟨T1240, h1240, X1240, e1240, W1240, st1240⟩ := stB X1231 hx hZ e1231 Ar1240 (j := (1 : Int32)) hin1240 (g := (mkF m 47 #[vR a0, vR b1218, vI 1, vJ (own_u2 cc), .second, vI (own_g1 cc)] [(.int (((own_g1 cc) ||| (128 : Int32)).toInt8.toInt32)), (.int 1), (.ref b1218)])) rfl rfl (hb hby d4_47)
 have Z1240 : n0 ≤ h1240.size := Nat.le_trans Z1231 (Keep.of_wr W1240).1
 have K1240 : Keep h0 h1240 [] := K1231.wr W1240 (Or.inr sz_b1218)
 have N1240 := Fr.snoc X1240 N1231 g_b1218
 have Ff1241 : Fld Z h1240 a0 own_CK "collection" "I" (.int cc) := (Ff1232).other W1240 (Or.inl ne_a0_b1218)
 have Ff1242 : Fld Z h1240 a0 own_CK "documentKey" "[B" (.ref r1) := (Ff1233).other W1240 (Or.inl ne_a0_b1218)
 have Vf1243 : Arv Z h1240 r1 k_r1 .byte (1 : Int32) [(.int y0)] (.int 0) := (Vf1234).other W1240 ne_r1_b1218
 have Ef1244 : Exa Z h1240 b1218 "[B" := (Ef1235).wr W1240
 have V1240 : Arv Z h1240 b1218 k1218 .byte (5 : Int32) [(.int (own_m0 cc)), (.int (own_m1 cc)), (.int 0), (.int 0), (.int 0)] (.int 0) := Arv.set Ar1240 q1240 S1240 M1240 H1240 G1240 (fits_nar_byte _) W1240 1 rfl (Nat.le_of_ble_eq_true rfl)
 have pre1245 : own_P p e below T1240 (mkF m 48 #[vR a0, vR b1218, vI 1, vJ (own_u2 cc), .second, vI (own_g1 cc)] []) s₁ (entryFrame m #[(.ref a0)] 6) := fun t k => pre1239 t (st1240 t k)
 have pre1246 : own_P p e below T1240 (mkF m 32 #[vR a0, vR b1218, vI 2, vJ (own_u3 cc), .second, vI (own_g2 cc)] [(.int (lcmpW (own_u3 cc) (0 : Int64))), (.int 2), (.ref b1218)]) s₁ (entryFrame m #[(.ref a0)] 6) := by
  intro t k
  refine pre1245 t ?_
  refine XS.iinc X1240.here hx rfl (hb hby d4_48) rfl (l' := #[vR a0, vR b1218, vI 2, vJ (own_u2 cc), .second, vI (own_g1 cc)]) rfl ?_
  refine XS.lloadN X1240.here hx rfl (hb hby d4_51) rfl ?_
  refine XS.lconst X1240.here hx rfl (hb hby d4_52) ?_
  refine XS.lcmp X1240.here hx rfl (hb hby d4_53) rfl ?_
  refine XS.ifYes X1240.here hx rfl (pc0 := 54) (pc' := 14) rfl (hb hby d4_54) rfl ((if0 _ _).trans (feq (own_neL hk1238)).2) (by decide) (by decide) ?_
  refine XS.lloadN X1240.here hx rfl (hb hby d4_14) rfl ?_
  refine X1240.ldc2Long hx hown (mvT hZ (own_w hw 29 rfl)) (g := (mkF m 15 #[vR a0, vR b1218, vI 2, vJ (own_u2 cc), .second, vI (own_g1 cc)] [(.long (own_u2 cc))])) rfl (hb hby d4_15) _ ?_
  refine XS.land X1240.here hx rfl (hb hby d4_18) rfl ?_
  refine XS.l2i X1240.here hx rfl (hb hby d4_19) rfl ?_
  refine XS.istore X1240.here hx rfl (hb hby d4_20) rfl (l' := #[vR a0, vR b1218, vI 2, vJ (own_u2 cc), .second, vI (own_g2 cc)]) rfl ?_
  refine XS.lloadN X1240.here hx rfl (hb hby d4_22) rfl ?_
  refine XS.bipush X1240.here hx rfl (hb hby d4_23) ?_
  refine XS.lushr X1240.here hx rfl (hb hby d4_25) rfl ?_
  refine XS.lstoreN X1240.here hx rfl (hb hby d4_26) rfl (l' := #[vR a0, vR b1218, vI 2, vJ (own_u3 cc), .second, vI (own_g2 cc)]) rfl ?_
  refine XS.aloadN X1240.here hx rfl (hb hby d4_27) rfl rfl ?_
  refine XS.iloadN X1240.here hx rfl (hb hby d4_28) rfl ?_
  refine XS.lloadN X1240.here hx rfl (hb hby d4_29) rfl ?_
  refine XS.lconst X1240.here hx rfl (hb hby d4_30) ?_
  refine XS.lcmp X1240.here hx rfl (hb hby d4_31) rfl ?_
  exact k
 have hk1247 : ¬ ((own_u3 cc) = (0 : Int64)) := hz3
 have pre1248 : own_P p e below T1240 (mkF m 47 #[vR a0, vR b1218, vI 2, vJ (own_u3 cc), .second, vI (own_g2 cc)] [(.int (((own_g2 cc) ||| (128 : Int32)).toInt8.toInt32)), (.int 2), (.ref b1218)]) s₁ (entryFrame m #[(.ref a0)] 6) := by
  intro t k
  refine pre1246 t ?_
  refine XS.ifYes X1240.here hx rfl (pc0 := 32) (pc' := 40) rfl (hb hby d4_32) rfl ((if0 _ _).trans (feq (own_neL hk1247)).2) (by decide) (by decide) ?_
  refine XS.iload X1240.here hx rfl (hb hby d4_40) rfl ?_
  refine XS.sipush X1240.here hx rfl (hb hby d4_42) ?_
  refine XS.ior X1240.here hx rfl (hb hby d4_45) rfl ?_
  refine XS.i2b X1240.here hx rfl (hb hby d4_46) rfl ?_
  exact k
 obtain ⟨cl1249, Ar1249, q1249, S1249, M1249, H1249, G1249⟩ := id V1240
 have hin1249 : ¬ ((2 : Int32) < 0 ∨ cl1249.slots.size ≤ ((2 : Int32)).toNatClampNeg) := inb_of S1249 ⟨by decide, by decide⟩
 obtain ⟨T1249, h1249, X1249, e1249, W1249, st1249⟩ := stB X1240 hx hZ e1240 Ar1249 (j := (2 : Int32)) hin1249 (g := (mkF m 47 #[vR a0, vR b1218, vI 2, vJ (own_u3 cc), .second, vI (own_g2 cc)] [(.int (((own_g2 cc) ||| (128 : Int32)).toInt8.toInt32)), (.int 2), (.ref b1218)])) rfl rfl (hb hby d4_47)
 have Z1249 : n0 ≤ h1249.size := Nat.le_trans Z1240 (Keep.of_wr W1249).1
 have K1249 : Keep h0 h1249 [] := K1240.wr W1249 (Or.inr sz_b1218)
 have N1249 := Fr.snoc X1249 N1240 g_b1218
 have Ff1250 : Fld Z h1249 a0 own_CK "collection" "I" (.int cc) := (Ff1241).other W1249 (Or.inl ne_a0_b1218)
 have Ff1251 : Fld Z h1249 a0 own_CK "documentKey" "[B" (.ref r1) := (Ff1242).other W1249 (Or.inl ne_a0_b1218)
 have Vf1252 : Arv Z h1249 r1 k_r1 .byte (1 : Int32) [(.int y0)] (.int 0) := (Vf1243).other W1249 ne_r1_b1218
 have Ef1253 : Exa Z h1249 b1218 "[B" := (Ef1244).wr W1249
 have V1249 : Arv Z h1249 b1218 k1218 .byte (5 : Int32) [(.int (own_m0 cc)), (.int (own_m1 cc)), (.int (own_m2 cc)), (.int 0), (.int 0)] (.int 0) := Arv.set Ar1249 q1249 S1249 M1249 H1249 G1249 (fits_nar_byte _) W1249 2 rfl (Nat.le_of_ble_eq_true rfl)
 have pre1254 : own_P p e below T1249 (mkF m 48 #[vR a0, vR b1218, vI 2, vJ (own_u3 cc), .second, vI (own_g2 cc)] []) s₁ (entryFrame m #[(.ref a0)] 6) := fun t k => pre1248 t (st1249 t k)
 have pre1255 : own_P p e below T1249 (mkF m 32 #[vR a0, vR b1218, vI 3, vJ (own_u4 cc), .second, vI (own_g3 cc)] [(.int (lcmpW (own_u4 cc) (0 : Int64))), (.int 3), (.ref b1218)]) s₁ (entryFrame m #[(.ref a0)] 6) := by
  intro t k
  refine pre1254 t ?_
  refine XS.iinc X1249.here hx rfl (hb hby d4_48) rfl (l' := #[vR a0, vR b1218, vI 3, vJ (own_u3 cc), .second, vI (own_g2 cc)]) rfl ?_
  refine XS.lloadN X1249.here hx rfl (hb hby d4_51) rfl ?_
  refine XS.lconst X1249.here hx rfl (hb hby d4_52) ?_
  refine XS.lcmp X1249.here hx rfl (hb hby d4_53) rfl ?_
  refine XS.ifYes X1249.here hx rfl (pc0 := 54) (pc' := 14) rfl (hb hby d4_54) rfl ((if0 _ _).trans (feq (own_neL hk1247)).2) (by decide) (by decide) ?_
  refine XS.lloadN X1249.here hx rfl (hb hby d4_14) rfl ?_
  refine X1249.ldc2Long hx hown (mvT hZ (own_w hw 29 rfl)) (g := (mkF m 15 #[vR a0, vR b1218, vI 3, vJ (own_u3 cc), .second, vI (own_g2 cc)] [(.long (own_u3 cc))])) rfl (hb hby d4_15) _ ?_
  refine XS.land X1249.here hx rfl (hb hby d4_18) rfl ?_
  refine XS.l2i X1249.here hx rfl (hb hby d4_19) rfl ?_
  refine XS.istore X1249.here hx rfl (hb hby d4_20) rfl (l' := #[vR a0, vR b1218, vI 3, vJ (own_u3 cc), .second, vI (own_g3 cc)]) rfl ?_
  refine XS.lloadN X1249.here hx rfl (hb hby d4_22) rfl ?_
  refine XS.bipush X1249.here hx rfl (hb hby d4_23) ?_
  refine XS.lushr X1249.here hx rfl (hb hby d4_25) rfl ?_
  refine XS.lstoreN X1249.here hx rfl (hb hby d4_26) rfl (l' := #[vR a0, vR b1218, vI 3, vJ (own_u4 cc), .second, vI (own_g3 cc)]) rfl ?_
  refine XS.aloadN X1249.here hx rfl (hb hby d4_27) rfl rfl ?_
  refine XS.iloadN X1249.here hx rfl (hb hby d4_28) rfl ?_
  refine XS.lloadN X1249.here hx rfl (hb hby d4_29) rfl ?_
  refine XS.lconst X1249.here hx rfl (hb hby d4_30) ?_
  refine XS.lcmp X1249.here hx rfl (hb hby d4_31) rfl ?_
  exact k
 have hk1256 : ¬ ((own_u4 cc) = (0 : Int64)) := hz4
 have pre1257 : own_P p e below T1249 (mkF m 47 #[vR a0, vR b1218, vI 3, vJ (own_u4 cc), .second, vI (own_g3 cc)] [(.int (((own_g3 cc) ||| (128 : Int32)).toInt8.toInt32)), (.int 3), (.ref b1218)]) s₁ (entryFrame m #[(.ref a0)] 6) := by
  intro t k
  refine pre1255 t ?_
  refine XS.ifYes X1249.here hx rfl (pc0 := 32) (pc' := 40) rfl (hb hby d4_32) rfl ((if0 _ _).trans (feq (own_neL hk1256)).2) (by decide) (by decide) ?_
  refine XS.iload X1249.here hx rfl (hb hby d4_40) rfl ?_
  refine XS.sipush X1249.here hx rfl (hb hby d4_42) ?_
  refine XS.ior X1249.here hx rfl (hb hby d4_45) rfl ?_
  refine XS.i2b X1249.here hx rfl (hb hby d4_46) rfl ?_
  exact k
 obtain ⟨cl1258, Ar1258, q1258, S1258, M1258, H1258, G1258⟩ := id V1249
 have hin1258 : ¬ ((3 : Int32) < 0 ∨ cl1258.slots.size ≤ ((3 : Int32)).toNatClampNeg) := inb_of S1258 ⟨by decide, by decide⟩
 obtain ⟨T1258, h1258, X1258, e1258, W1258, st1258⟩ := stB X1249 hx hZ e1249 Ar1258 (j := (3 : Int32)) hin1258 (g := (mkF m 47 #[vR a0, vR b1218, vI 3, vJ (own_u4 cc), .second, vI (own_g3 cc)] [(.int (((own_g3 cc) ||| (128 : Int32)).toInt8.toInt32)), (.int 3), (.ref b1218)])) rfl rfl (hb hby d4_47)
 have Z1258 : n0 ≤ h1258.size := Nat.le_trans Z1249 (Keep.of_wr W1258).1
 have K1258 : Keep h0 h1258 [] := K1249.wr W1258 (Or.inr sz_b1218)
 have N1258 := Fr.snoc X1258 N1249 g_b1218
 have Ff1259 : Fld Z h1258 a0 own_CK "collection" "I" (.int cc) := (Ff1250).other W1258 (Or.inl ne_a0_b1218)
 have Ff1260 : Fld Z h1258 a0 own_CK "documentKey" "[B" (.ref r1) := (Ff1251).other W1258 (Or.inl ne_a0_b1218)
 have Vf1261 : Arv Z h1258 r1 k_r1 .byte (1 : Int32) [(.int y0)] (.int 0) := (Vf1252).other W1258 ne_r1_b1218
 have Ef1262 : Exa Z h1258 b1218 "[B" := (Ef1253).wr W1258
 have V1258 : Arv Z h1258 b1218 k1218 .byte (5 : Int32) [(.int (own_m0 cc)), (.int (own_m1 cc)), (.int (own_m2 cc)), (.int (own_m3 cc)), (.int 0)] (.int 0) := Arv.set Ar1258 q1258 S1258 M1258 H1258 G1258 (fits_nar_byte _) W1258 3 rfl (Nat.le_of_ble_eq_true rfl)
 have pre1263 : own_P p e below T1258 (mkF m 48 #[vR a0, vR b1218, vI 3, vJ (own_u4 cc), .second, vI (own_g3 cc)] []) s₁ (entryFrame m #[(.ref a0)] 6) := fun t k => pre1257 t (st1258 t k)
 have pre1264 : own_P p e below T1258 (mkF m 32 #[vR a0, vR b1218, vI 4, vJ (own_u5 cc), .second, vI (own_g4 cc)] [(.int (lcmpW (own_u5 cc) (0 : Int64))), (.int 4), (.ref b1218)]) s₁ (entryFrame m #[(.ref a0)] 6) := by
  intro t k
  refine pre1263 t ?_
  refine XS.iinc X1258.here hx rfl (hb hby d4_48) rfl (l' := #[vR a0, vR b1218, vI 4, vJ (own_u4 cc), .second, vI (own_g3 cc)]) rfl ?_
  refine XS.lloadN X1258.here hx rfl (hb hby d4_51) rfl ?_
  refine XS.lconst X1258.here hx rfl (hb hby d4_52) ?_
  refine XS.lcmp X1258.here hx rfl (hb hby d4_53) rfl ?_
  refine XS.ifYes X1258.here hx rfl (pc0 := 54) (pc' := 14) rfl (hb hby d4_54) rfl ((if0 _ _).trans (feq (own_neL hk1256)).2) (by decide) (by decide) ?_
  refine XS.lloadN X1258.here hx rfl (hb hby d4_14) rfl ?_
  refine X1258.ldc2Long hx hown (mvT hZ (own_w hw 29 rfl)) (g := (mkF m 15 #[vR a0, vR b1218, vI 4, vJ (own_u4 cc), .second, vI (own_g3 cc)] [(.long (own_u4 cc))])) rfl (hb hby d4_15) _ ?_
  refine XS.land X1258.here hx rfl (hb hby d4_18) rfl ?_
  refine XS.l2i X1258.here hx rfl (hb hby d4_19) rfl ?_
  refine XS.istore X1258.here hx rfl (hb hby d4_20) rfl (l' := #[vR a0, vR b1218, vI 4, vJ (own_u4 cc), .second, vI (own_g4 cc)]) rfl ?_
  refine XS.lloadN X1258.here hx rfl (hb hby d4_22) rfl ?_
  refine XS.bipush X1258.here hx rfl (hb hby d4_23) ?_
  refine XS.lushr X1258.here hx rfl (hb hby d4_25) rfl ?_
  refine XS.lstoreN X1258.here hx rfl (hb hby d4_26) rfl (l' := #[vR a0, vR b1218, vI 4, vJ (own_u5 cc), .second, vI (own_g4 cc)]) rfl ?_
  refine XS.aloadN X1258.here hx rfl (hb hby d4_27) rfl rfl ?_
  refine XS.iloadN X1258.here hx rfl (hb hby d4_28) rfl ?_
  refine XS.lloadN X1258.here hx rfl (hb hby d4_29) rfl ?_
  refine XS.lconst X1258.here hx rfl (hb hby d4_30) ?_
  refine XS.lcmp X1258.here hx rfl (hb hby d4_31) rfl ?_
  exact k
 have hk1265 : (own_u5 cc) = (0 : Int64) := hz5
 have pre1266 : own_P p e below T1258 (mkF m 47 #[vR a0, vR b1218, vI 4, vJ (own_u5 cc), .second, vI (own_g4 cc)] [(.int ((own_g4 cc).toInt8.toInt32)), (.int 4), (.ref b1218)]) s₁ (entryFrame m #[(.ref a0)] 6) := by
  intro t k
  refine pre1264 t ?_
  refine XS.ifNo X1258.here hx rfl (hb hby d4_32) rfl ((if0 _ _).trans (teq (own_eqL hk1265)).2) ?_
  refine XS.iload X1258.here hx rfl (hb hby d4_35) rfl ?_
  refine XS.goto X1258.here hx rfl (pc0 := 37) (pc' := 46) rfl (hb hby d4_37) (by decide) (by decide) ?_
  refine XS.i2b X1258.here hx rfl (hb hby d4_46) rfl ?_
  exact k
 obtain ⟨cl1267, Ar1267, q1267, S1267, M1267, H1267, G1267⟩ := id V1258
 have hin1267 : ¬ ((4 : Int32) < 0 ∨ cl1267.slots.size ≤ ((4 : Int32)).toNatClampNeg) := inb_of S1267 ⟨by decide, by decide⟩
 obtain ⟨T1267, h1267, X1267, e1267, W1267, st1267⟩ := stB X1258 hx hZ e1258 Ar1267 (j := (4 : Int32)) hin1267 (g := (mkF m 47 #[vR a0, vR b1218, vI 4, vJ (own_u5 cc), .second, vI (own_g4 cc)] [(.int ((own_g4 cc).toInt8.toInt32)), (.int 4), (.ref b1218)])) rfl rfl (hb hby d4_47)
 have Z1267 : n0 ≤ h1267.size := Nat.le_trans Z1258 (Keep.of_wr W1267).1
 have K1267 : Keep h0 h1267 [] := K1258.wr W1267 (Or.inr sz_b1218)
 have N1267 := Fr.snoc X1267 N1258 g_b1218
 have Ff1268 : Fld Z h1267 a0 own_CK "collection" "I" (.int cc) := (Ff1259).other W1267 (Or.inl ne_a0_b1218)
 have Ff1269 : Fld Z h1267 a0 own_CK "documentKey" "[B" (.ref r1) := (Ff1260).other W1267 (Or.inl ne_a0_b1218)
 have Vf1270 : Arv Z h1267 r1 k_r1 .byte (1 : Int32) [(.int y0)] (.int 0) := (Vf1261).other W1267 ne_r1_b1218
 have Ef1271 : Exa Z h1267 b1218 "[B" := (Ef1262).wr W1267
 have V1267 : Arv Z h1267 b1218 k1218 .byte (5 : Int32) [(.int (own_m0 cc)), (.int (own_m1 cc)), (.int (own_m2 cc)), (.int (own_m3 cc)), (.int (own_l4 cc))] (.int 0) := Arv.set Ar1267 q1267 S1267 M1267 H1267 G1267 (fits_nar_byte _) W1267 4 rfl (Nat.le_of_ble_eq_true rfl)
 have pre1272 : own_P p e below T1267 (mkF m 48 #[vR a0, vR b1218, vI 4, vJ (own_u5 cc), .second, vI (own_g4 cc)] []) s₁ (entryFrame m #[(.ref a0)] 6) := fun t k => pre1266 t (st1267 t k)
 have pre1273 : own_P p e below T1267 (mkF m 60 #[vR a0, vR b1218, vI 5, vJ (own_u5 cc), .second, vI (own_g4 cc)] [(.ref a0), (.int 5), (.ref b1218)]) s₁ (entryFrame m #[(.ref a0)] 6) := by
  intro t k
  refine pre1272 t ?_
  refine XS.iinc X1267.here hx rfl (hb hby d4_48) rfl (l' := #[vR a0, vR b1218, vI 5, vJ (own_u5 cc), .second, vI (own_g4 cc)]) rfl ?_
  refine XS.lloadN X1267.here hx rfl (hb hby d4_51) rfl ?_
  refine XS.lconst X1267.here hx rfl (hb hby d4_52) ?_
  refine XS.lcmp X1267.here hx rfl (hb hby d4_53) rfl ?_
  refine XS.ifNo X1267.here hx rfl (hb hby d4_54) rfl ((if0 _ _).trans (teq (own_eqL hk1265)).2) ?_
  refine XS.aloadN X1267.here hx rfl (hb hby d4_57) rfl rfl ?_
  refine XS.iloadN X1267.here hx rfl (hb hby d4_58) rfl ?_
  refine XS.aloadN X1267.here hx rfl (hb hby d4_59) rfl rfl ?_
  exact k
 obtain ⟨T1274, X1274, e1274, st1274⟩ := getF X1267 hx hZ hown (host := "") (Or.inl (own_w hw 17 rfl)) Via.refl e1267 Ff1269 (g := (mkF m 60 #[vR a0, vR b1218, vI 5, vJ (own_u5 cc), .second, vI (own_g4 cc)] [(.ref a0), (.int 5), (.ref b1218)])) rfl rfl (hb hby d4_60)
 have pre1275 : own_P p e below T1274 (mkF m 63 #[vR a0, vR b1218, vI 5, vJ (own_u5 cc), .second, vI (own_g4 cc)] [(.ref r1), (.int 5), (.ref b1218)]) s₁ (entryFrame m #[(.ref a0)] 6) := fun t k => pre1273 t (st1274 t k)
 obtain ⟨cl1276, Ar1276, q1276, S1276, M1276, H1276, G1276⟩ := id Vf1270
 have pre1277 : own_P p e below T1274 (mkF m 65 #[vR a0, vR b1218, vI 5, vJ (own_u5 cc), .second, vI (own_g4 cc)] [(.int 6), (.ref b1218)]) s₁ (entryFrame m #[(.ref a0)] 6) := by
  intro t k
  refine pre1275 t ?_
  refine X1274.arraylength hx (by rw [e1274]; exact Ar1276.1) (State.isArrayOf_alike hZ.alike Ar1276.2.1) (g := (mkF m 63 #[vR a0, vR b1218, vI 5, vJ (own_u5 cc), .second, vI (own_g4 cc)] [(.ref r1), (.int 5), (.ref b1218)])) rfl rfl (hb hby d4_63) _ ?_
  rw [len_of S1276 M1276]
  refine XS.iadd X1274.here hx rfl (hb hby d4_64) rfl ?_
  exact k
 obtain ⟨_, _, ⟨T1278, L1278, k1278, n1278⟩, -, X1278, ⟨Lc1278, hQ1278, l1278, y1278, z1278⟩, st1278⟩ := Jvm.LawKit.callS X1274 hx (y := (⟨"java/util/Arrays", "copyOf", "([BI)[B"⟩ : MethodName)) hown (mvT hZ (own_w hw 30 rfl)) (mvT hZ (own_w hw 31 rfl)) (mvT hZ (own_w hw 32 rfl)) (mvT hZ (own_w hw 33 rfl)) (by decide) (backOf (W := 0) (rm6_6 l Z ar0 hw [] b1218 k1218 (own_m0 cc) (own_m1 cc) (own_m2 cc) (own_m3 cc) (own_l4 cc) h1267 n0 Z1267 V1267 Ef1271) hZ (own_w hw 33 rfl) (own_w hw 32 rfl) (by decide) (by decide)) (g := (mkF m 65 #[vR a0, vR b1218, vI 5, vJ (own_u5 cc), .second, vI (own_g4 cc)] [(.int 6), (.ref b1218)])) rfl (by rw [hml]; rfl) (argsL := [(.ref b1218), (.int 6)]) (rest := []) (lenOf pd_3 rfl) rfl (by show 2 * 0 + _ ≤ _; exact Nat.le_of_eq rfl) (hb hby d4_65) (fun _ _ => ⟨rfl, e1274, (by decide : 1 + 1 ≤ _), (by decide : 5 + 6 ≤ _)⟩)
 dsimp only [Pt.U, Pt.locs, Pt.cells, Pt.slots] at X1278 l1278 y1278 z1278 st1278 hQ1278
 subst l1278 y1278 z1278
 obtain ⟨h1278, e1278⟩ : ∃ h, T1278.heap = h := ⟨_, rfl⟩
 rw [e1278] at hQ1278
 obtain ⟨b1278, kb1278, rfl, N1278q, K1278q, y_b1278, Ob1278_0, Ob1278_1⟩ := hQ1278
 have N1278 := Fr.app N1267 N1278q
 have ne_a0_b1278 : a0 ≠ b1278 := Nat.ne_of_lt (Nat.lt_of_lt_of_le (Ff1268).lt y_b1278)
 have ne_r1_b1278 : r1 ≠ b1278 := Nat.ne_of_lt (Nat.lt_of_lt_of_le (Vf1270).lt y_b1278)
 have ne_b1218_b1278 : b1218 ≠ b1278 := Nat.ne_of_lt (Nat.lt_of_lt_of_le (Ef1271).lt y_b1278)
 have g_b1278 : n0 ≤ b1278 := Nat.le_trans Z1267 y_b1278
 have sz_b1278 : h0.size ≤ b1278 := Nat.le_trans K1267.1 y_b1278
 have Z1278 : n0 ≤ h1278.size := Nat.le_trans Z1267 K1278q.1
 have K1278 : Keep h0 h1278 [] := K1267.trans K1278q (fun x hx => absurd hx List.not_mem_nil)
 have Ff1279 : Fld Z h1278 a0 own_CK "collection" "I" (.int cc) := (Ff1268).keep K1278q List.not_mem_nil
 have Ff1280 : Fld Z h1278 a0 own_CK "documentKey" "[B" (.ref r1) := (Ff1269).keep K1278q List.not_mem_nil
 have Vf1281 : Arv Z h1278 r1 k_r1 .byte (1 : Int32) [(.int y0)] (.int 0) := (Vf1270).keep K1278q List.not_mem_nil
 have Ef1282 : Exa Z h1278 b1218 "[B" := (Ef1271).keep K1278q
 have Vf1283 : Arv Z h1278 b1218 k1218 .byte (5 : Int32) [(.int (own_m0 cc)), (.int (own_m1 cc)), (.int (own_m2 cc)), (.int (own_m3 cc)), (.int (own_l4 cc))] (.int 0) := (V1267).keep K1278q List.not_mem_nil
 have pre1284 : own_P p e below T1278 (mkF m 68 #[vR a0, vR b1218, vI 5, vJ (own_u5 cc), .second, vI (own_g4 cc)] [(.ref b1278)]) s₁ (entryFrame m #[(.ref a0)] 6) := fun t k => pre1277 t (st1278 t k)
 have pre1285 : own_P p e below T1278 (mkF m 71 #[vR a0, vR b1218, vI 5, vJ (own_u5 cc), .second, vR b1278] [(.ref a0)]) s₁ (entryFrame m #[(.ref a0)] 6) := by
  intro t k
  refine pre1284 t ?_
  refine XS.astore X1278.here hx rfl (hb hby d4_68) rfl rfl (l' := #[vR a0, vR b1218, vI 5, vJ (own_u5 cc), .second, vR b1278]) rfl ?_
  refine XS.aloadN X1278.here hx rfl (hb hby d4_70) rfl rfl ?_
  exact k
 obtain ⟨T1286, X1286, e1286, st1286⟩ := getF X1278 hx hZ hown (host := "") (Or.inl (own_w hw 17 rfl)) Via.refl e1278 Ff1280 (g := (mkF m 71 #[vR a0, vR b1218, vI 5, vJ (own_u5 cc), .second, vR b1278] [(.ref a0)])) rfl rfl (hb hby d4_71)
 have pre1287 : own_P p e below T1286 (mkF m 74 #[vR a0, vR b1218, vI 5, vJ (own_u5 cc), .second, vR b1278] [(.ref r1)]) s₁ (entryFrame m #[(.ref a0)] 6) := fun t k => pre1285 t (st1286 t k)
 have pre1288 : own_P p e below T1286 (mkF m 79 #[vR a0, vR b1218, vI 5, vJ (own_u5 cc), .second, vR b1278] [(.ref a0), (.int 5), (.ref b1278), (.int 0), (.ref r1)]) s₁ (entryFrame m #[(.ref a0)] 6) := by
  intro t k
  refine pre1287 t ?_
  refine XS.iconst X1286.here hx rfl (hb hby d4_74) ?_
  refine XS.aload X1286.here hx rfl (hb hby d4_75) rfl rfl ?_
  refine XS.iloadN X1286.here hx rfl (hb hby d4_77) rfl ?_
  refine XS.aloadN X1286.here hx rfl (hb hby d4_78) rfl rfl ?_
  exact k
 obtain ⟨T1289, X1289, e1289, st1289⟩ := getF X1286 hx hZ hown (host := "") (Or.inl (own_w hw 17 rfl)) Via.refl e1286 Ff1280 (g := (mkF m 79 #[vR a0, vR b1218, vI 5, vJ (own_u5 cc), .second, vR b1278] [(.ref a0), (.int 5), (.ref b1278), (.int 0), (.ref r1)])) rfl rfl (hb hby d4_79)
 have pre1290 : own_P p e below T1289 (mkF m 82 #[vR a0, vR b1218, vI 5, vJ (own_u5 cc), .second, vR b1278] [(.ref r1), (.int 5), (.ref b1278), (.int 0), (.ref r1)]) s₁ (entryFrame m #[(.ref a0)] 6) := fun t k => pre1288 t (st1289 t k)
 obtain ⟨cl1291, Ar1291, q1291, S1291, M1291, H1291, G1291⟩ := id Vf1281
 have pre1292 : own_P p e below T1289 (mkF m 83 #[vR a0, vR b1218, vI 5, vJ (own_u5 cc), .second, vR b1278] [(.int 1), (.int 5), (.ref b1278), (.int 0), (.ref r1)]) s₁ (entryFrame m #[(.ref a0)] 6) := by
  intro t k
  refine pre1290 t ?_
  refine X1289.arraylength hx (by rw [e1289]; exact Ar1291.1) (State.isArrayOf_alike hZ.alike Ar1291.2.1) (g := (mkF m 82 #[vR a0, vR b1218, vI 5, vJ (own_u5 cc), .second, vR b1278] [(.ref r1), (.int 5), (.ref b1278), (.int 0), (.ref r1)])) rfl rfl (hb hby d4_82) _ ?_
  rw [len_of S1291 M1291]
  exact k
 obtain ⟨T1293, h1293, L1293, X1293, e1293, N1293, K1293q, V1293q, st1293⟩ := cpA X1289 hx hZ hown (own_w hw 42 rfl) (own_w hw 41 rfl) (own_w hw 39 rfl) (own_w hw 40 rfl) e1289 Vf1281 Ob1278_1 (Or.inl ⟨rfl, rfl⟩) (by decide) (by decide) (by decide) (by decide) (by decide) (us := [(.int y0)]) rfl (Nat.le_of_ble_eq_true rfl) N1278 g_b1278 (g := (mkF m 83 #[vR a0, vR b1218, vI 5, vJ (own_u5 cc), .second, vR b1278] [(.int 1), (.int 5), (.ref b1278), (.int 0), (.ref r1)])) rfl (by rw [hml]; rfl) rfl (hb hby d4_83) (by decide) (W := 0) (by show 2 * 0 + _ ≤ _; exact Nat.le_of_eq rfl) (by decide)
 have Z1293 : n0 ≤ h1293.size := Nat.le_trans Z1278 K1293q.1
 have K1293 : Keep h0 h1293 [] := K1278.trans K1293q (fun x hx => by cases List.mem_singleton.mp hx; exact Or.inr sz_b1278)
 have Ff1294 : Fld Z h1293 a0 own_CK "collection" "I" (.int cc) := (Ff1279).keep K1293q (fun q => absurd (List.mem_singleton.mp q) ne_a0_b1278)
 have Ff1295 : Fld Z h1293 a0 own_CK "documentKey" "[B" (.ref r1) := (Ff1280).keep K1293q (fun q => absurd (List.mem_singleton.mp q) ne_a0_b1278)
 have Vf1296 : Arv Z h1293 r1 k_r1 .byte (1 : Int32) [(.int y0)] (.int 0) := (Vf1281).keep K1293q (fun q => absurd (List.mem_singleton.mp q) ne_r1_b1278)
 have Ef1297 : Exa Z h1293 b1218 "[B" := (Ef1282).keep K1293q
 have Vf1298 : Arv Z h1293 b1218 k1218 .byte (5 : Int32) [(.int (own_m0 cc)), (.int (own_m1 cc)), (.int (own_m2 cc)), (.int (own_m3 cc)), (.int (own_l4 cc))] (.int 0) := (Vf1283).keep K1293q (fun q => absurd (List.mem_singleton.mp q) ne_b1218_b1278)
 have Ef1299 : Exa Z h1293 b1278 "[B" := (Ob1278_0).keep K1293q
 have V1293 : Arv Z h1293 b1278 kb1278 .byte (6 : Int32) [(.int (own_m0 cc)), (.int (own_m1 cc)), (.int (own_m2 cc)), (.int (own_m3 cc)), (.int (own_l4 cc)), (.int y0)] (.int 0) := V1293q
 have pre1300 : own_P p e below T1293 (mkF m 86 #[vR a0, vR b1218, vI 5, vJ (own_u5 cc), .second, vR b1278] []) s₁ (entryFrame m #[(.ref a0)] 6) := fun t k => pre1292 t (st1293 t k)
 obtain ⟨fs, hr, hrun, hended, hW, hsame⟩ := X1293.leave (v := some (.ref b1278)) (fun h => by rw [Bd.returns] at h; cases h)
 refine ⟨_, _, pre1300 _ ?_, hrun, hended, _, _, rfl, ?_, ⟨_, rfl⟩, hW, hsame.mono (by decide) (by decide)⟩
 ·
  refine XS.aload X1293.here hx rfl (hb hby d4_86) rfl rfl ?_
  exact retOut X1293 hx Bd.returns rfl (Or.inr (Or.inr (Or.inr (Or.inr ⟨rfl, rfl, rfl⟩)))) (hb hby d4_88) hr
 ·
  show Q4_5_1 Z a0 cc r1 k_r1 y0 h0 n0 _ T1293.heap _
  rw [e1293]
  exact ⟨b1278, kb1278, rfl, N1293, K1293, sz_b1278, Ef1299, V1293⟩
def Q4_5_2 (Z : State) (a0 : Addr) (cc : Int32) (r1 : Addr) (k_r1 : ClassId) (y0 : Int32) (y1 : Int32) (h0 : Heap) (n0 : Nat) (v : Option Value) (h : Heap) (L : List Loc) : Prop := ∃ (b : Addr) (k_b : ClassId), v = some (.ref b) ∧ Fr n0 L ∧ Keep h0 h [] ∧ h0.size ≤ b ∧ Exa Z h b "[B" ∧ Arv Z h b k_b .byte (7 : Int32) [(.int (own_m0 cc)), (.int (own_m1 cc)), (.int (own_m2 cc)), (.int (own_m3 cc)), (.int (own_l4 cc)), (.int y0), (.int y1)] (.int 0)
set_option maxRecDepth 65536 in
set_option maxHeartbeats 40000000 in
theorem rm4_5_2 (l : Launch) (Z : State) (ar0 : Array Value) (hw : ∀ d ∈ tables_1, d.before ar0 Z = true) (ws : List Jvm.Cond) (a0 : Addr) (cc : Int32) (r1 : Addr) (k_r1 : ClassId) (y0 : Int32) (y1 : Int32) (h0 : Heap) (n0 : Nat) (Z0 : n0 ≤ h0.size) (F_collection_a0 : Fld Z h0 a0 own_CK "collection" "I" (.int cc)) (F_documentKey_a0 : Fld Z h0 a0 own_CK "documentKey" "[B" (.ref r1)) (V_r1 : Arv Z h0 r1 k_r1 .byte (2 : Int32) [(.int y0), (.int y1)] (.int 0)) (hz1 : ¬ ((own_u1 cc) = (0 : Int64))) (hz2 : ¬ ((own_u2 cc) = (0 : Int64))) (hz3 : ¬ ((own_u3 cc) = (0 : Int64))) (hz4 : ¬ ((own_u4 cc) = (0 : Int64))) (hz5 : (own_u5 cc) = (0 : Int64)) :
  MetFree l (⟨own_CK, "write", "()[B"⟩ : MethodName) (head1 (Jvm.Cond.code (⟨own_CK, "write", "()[B"⟩ : MethodName) prog_8_method_3_code 6 (some (.array .byte)) :: ws) ({ frames := 2, cells := 2, slots := 12, locals := 32 } : Room)) (fun a U => a = #[(.ref a0)] ∧ Z.Warmed39 U.vm ∧ U.heap = h0) (fun _ _ _ _ _ => True) (fun _ U o U' => ∃ v L, o = .returned v ∧ Q4_5_2 Z a0 cc r1 k_r1 y0 y1 h0 n0 v U'.heap L ∧ FrameEnd U o U' L ({ frames := 2, cells := 2, slots := 12, locals := 32 } : Room).cells ({ frames := 2, cells := 2, slots := 12, locals := 32 } : Room).slots) := by
 refine MetFree.of_bodySF (plainFor_of_name pn_1) hisR ?_
 intro p e s m args below meth c s₁ Bd hml0 hP hK
 obtain ⟨rfl, hZ, hh⟩ := hP
 have hx := Bd.exec
 have hby := Bd.bytes
 have hml : c.maxLocals = 6 := hml0
 have hown : s.vm.findClass own_CK = some m.cls := by have q := findClass_of_methodNamed Bd.named; exact q
 have hnm := (name_of_methodNamed Bd.named Bd.method).1
 have X0 : Stand p l e ({ frames := 2, cells := 2, slots := 12, locals := 32 } : Room) s m #[(.ref a0)] below meth c s₁ [] 0 0 := Stand.of_body Bd
 have e0 : s₁.heap = h0 := by rw [← hh, Bd.state]; rfl
 have N0 := Fr.nil n0
 have pre0 : own_P p e below s₁ (mkF m 0 #[vR a0, .unset, .unset, .unset, .unset, .unset] []) s₁ (entryFrame m #[(.ref a0)] 6) := fun t k => castTop (ef_4 m a0) k
 have pre1301 : own_P p e below s₁ (mkF m 1 #[vR a0, .unset, .unset, .unset, .unset, .unset] [(.int 5)]) s₁ (entryFrame m #[(.ref a0)] 6) := by
  intro t k
  refine pre0 t ?_
  refine XS.iconst X0.here hx rfl (hb hby d4_0) ?_
  exact k
 obtain ⟨T1302, h1302, k1302, X1302, e1302, E1302, A1302, C1302, st1302⟩ := newPE X0 hx hZ (own_w hw 0 rfl) e0 (g := (mkF m 1 #[vR a0, .unset, .unset, .unset, .unset, .unset] [(.int 5)])) rfl (hb hby d4_1) rfl (by decide) (cap := 5) (by decide) (by decide) (by decide) (by decide) (ad := "[B") rfl
 obtain ⟨b1302, g1302⟩ : ∃ z, z = h0.size := ⟨_, rfl⟩
 rw [← g1302] at A1302 C1302 st1302
 have ne_a0_b1302 : a0 ≠ b1302 := Nat.ne_of_lt (Nat.lt_of_lt_of_le (F_collection_a0).lt (Nat.le_of_eq g1302.symm))
 have ne_r1_b1302 : r1 ≠ b1302 := Nat.ne_of_lt (Nat.lt_of_lt_of_le (V_r1).lt (Nat.le_of_eq g1302.symm))
 have g_b1302 : n0 ≤ b1302 := Nat.le_trans Z0 (Nat.le_of_eq g1302.symm)
 have sz_b1302 : h0.size ≤ b1302 := Nat.le_trans (Keep.refl h0 []).1 (Nat.le_of_eq g1302.symm)
 have Z1302 : n0 ≤ h1302.size := Nat.le_trans Z0 E1302.1
 have K1302 : Keep h0 h1302 [] := (Keep.refl h0 []).ext E1302
 have Ff1303 : Fld Z h1302 a0 own_CK "collection" "I" (.int cc) := (F_collection_a0).ext E1302
 have Ff1304 : Fld Z h1302 a0 own_CK "documentKey" "[B" (.ref r1) := (F_documentKey_a0).ext E1302
 have Vf1305 : Arv Z h1302 r1 k_r1 .byte (2 : Int32) [(.int y0), (.int y1)] (.int 0) := (V_r1).ext E1302
 have V_b1302 : Arv Z h1302 b1302 k1302 .byte (5 : Int32) [(.int 0), (.int 0), (.int 0), (.int 0), (.int 0)] (.int 0) := (Arv.new A1302 (by decide)).pad (pad_rep [] (.int 0) 5)
 have pre1306 : own_P p e below T1302 (mkF m 3 #[vR a0, .unset, .unset, .unset, .unset, .unset] [(.ref b1302)]) s₁ (entryFrame m #[(.ref a0)] 6) := fun t k => pre1301 t (st1302 t k)
 have pre1307 : own_P p e below T1302 (mkF m 7 #[vR a0, vR b1302, vI 0, .unset, .unset, .unset] [(.ref a0)]) s₁ (entryFrame m #[(.ref a0)] 6) := by
  intro t k
  refine pre1306 t ?_
  refine XS.astoreN X1302.here hx rfl (hb hby d4_3) rfl rfl (l' := #[vR a0, vR b1302, .unset, .unset, .unset, .unset]) rfl ?_
  refine XS.iconst X1302.here hx rfl (hb hby d4_4) ?_
  refine XS.istoreN X1302.here hx rfl (hb hby d4_5) rfl (l' := #[vR a0, vR b1302, vI 0, .unset, .unset, .unset]) rfl ?_
  refine XS.aloadN X1302.here hx rfl (hb hby d4_6) rfl rfl ?_
  exact k
 obtain ⟨T1308, X1308, e1308, st1308⟩ := getF X1302 hx hZ hown (host := "") (Or.inl (own_w hw 15 rfl)) Via.refl e1302 Ff1303 (g := (mkF m 7 #[vR a0, vR b1302, vI 0, .unset, .unset, .unset] [(.ref a0)])) rfl rfl (hb hby d4_7)
 have pre1309 : own_P p e below T1308 (mkF m 10 #[vR a0, vR b1302, vI 0, .unset, .unset, .unset] [(.int cc)]) s₁ (entryFrame m #[(.ref a0)] 6) := fun t k => pre1307 t (st1308 t k)
 obtain ⟨_, _, ⟨T1310, L1310, k1310, n1310⟩, -, X1310, ⟨Lc1310, hQ1310, l1310, y1310, z1310⟩, st1310⟩ := Jvm.LawKit.callS X1308 hx (y := (⟨"java/lang/Integer", "toUnsignedLong", "(I)J"⟩ : MethodName)) hown (mvT hZ (own_w hw 24 rfl)) (mvT hZ (own_w hw 25 rfl)) (mvT hZ (own_w hw 26 rfl)) (mvT hZ (own_w hw 27 rfl)) (by decide) (backOf (W := 0) (rm5 l Z ar0 hw [] cc h1302 n0 Z1302) hZ (own_w hw 27 rfl) (own_w hw 26 rfl) (by decide) (by decide)) (g := (mkF m 10 #[vR a0, vR b1302, vI 0, .unset, .unset, .unset] [(.int cc)])) rfl (by rw [hml]; rfl) (argsL := [(.int cc)]) (rest := []) (lenOf pd_2 rfl) rfl (by show 2 * 0 + _ ≤ _; exact Nat.le_of_eq rfl) (hb hby d4_10) (fun _ _ => ⟨rfl, e1308, (by decide : 1 + 0 ≤ _), (by decide : 5 + 0 ≤ _)⟩)
 dsimp only [Pt.U, Pt.locs, Pt.cells, Pt.slots] at X1310 l1310 y1310 z1310 st1310 hQ1310
 subst l1310 y1310 z1310
 obtain ⟨rfl, N1310q, e1310⟩ := hQ1310
 have N1310 := Fr.app N0 N1310q
 have pre1311 : own_P p e below T1310 (mkF m 13 #[vR a0, vR b1302, vI 0, .unset, .unset, .unset] [(.long (own_u0 cc))]) s₁ (entryFrame m #[(.ref a0)] 6) := fun t k => pre1309 t (st1310 t k)
 have pre1312 : own_P p e below T1310 (mkF m 32 #[vR a0, vR b1302, vI 0, vJ (own_u1 cc), .second, vI (own_g0 cc)] [(.int (lcmpW (own_u1 cc) (0 : Int64))), (.int 0), (.ref b1302)]) s₁ (entryFrame m #[(.ref a0)] 6) := by
  intro t k
  refine pre1311 t ?_
  refine XS.lstoreN X1310.here hx rfl (hb hby d4_13) rfl (l' := #[vR a0, vR b1302, vI 0, vJ (own_u0 cc), .second, .unset]) rfl ?_
  refine XS.lloadN X1310.here hx rfl (hb hby d4_14) rfl ?_
  refine X1310.ldc2Long hx hown (mvT hZ (own_w hw 29 rfl)) (g := (mkF m 15 #[vR a0, vR b1302, vI 0, vJ (own_u0 cc), .second, .unset] [(.long (own_u0 cc))])) rfl (hb hby d4_15) _ ?_
  refine XS.land X1310.here hx rfl (hb hby d4_18) rfl ?_
  refine XS.l2i X1310.here hx rfl (hb hby d4_19) rfl ?_
  refine XS.istore X1310.here hx rfl (hb hby d4_20) rfl (l' := #[vR a0, vR b1302, vI 0, vJ (own_u0 cc), .second, vI (own_g0 cc)]) rfl ?_
  refine XS.lloadN X1310.here hx rfl (hb hby d4_22) rfl ?_
  refine XS.bipush X1310.here hx rfl (hb hby d4_23) ?_
  refine XS.lushr X1310.here hx rfl (hb hby d4_25) rfl ?_
  refine XS.lstoreN X1310.here hx rfl (hb hby d4_26) rfl (l' := #[vR a0, vR b1302, vI 0, vJ (own_u1 cc), .second, vI (own_g0 cc)]) rfl ?_
  refine XS.aloadN X1310.here hx rfl (hb hby d4_27) rfl rfl ?_
  refine XS.iloadN X1310.here hx rfl (hb hby d4_28) rfl ?_
  refine XS.lloadN X1310.here hx rfl (hb hby d4_29) rfl ?_
  refine XS.lconst X1310.here hx rfl (hb hby d4_30) ?_
  refine XS.lcmp X1310.here hx rfl (hb hby d4_31) rfl ?_
  exact k
 have hk1313 : ¬ ((own_u1 cc) = (0 : Int64)) := hz1
 have pre1314 : own_P p e below T1310 (mkF m 47 #[vR a0, vR b1302, vI 0, vJ (own_u1 cc), .second, vI (own_g0 cc)] [(.int (((own_g0 cc) ||| (128 : Int32)).toInt8.toInt32)), (.int 0), (.ref b1302)]) s₁ (entryFrame m #[(.ref a0)] 6) := by
  intro t k
  refine pre1312 t ?_
  refine XS.ifYes X1310.here hx rfl (pc0 := 32) (pc' := 40) rfl (hb hby d4_32) rfl ((if0 _ _).trans (feq (own_neL hk1313)).2) (by decide) (by decide) ?_
  refine XS.iload X1310.here hx rfl (hb hby d4_40) rfl ?_
  refine XS.sipush X1310.here hx rfl (hb hby d4_42) ?_
  refine XS.ior X1310.here hx rfl (hb hby d4_45) rfl ?_
  refine XS.i2b X1310.here hx rfl (hb hby d4_46) rfl ?_
  exact k
 obtain ⟨cl1315, Ar1315, q1315, S1315, M1315, H1315, G1315⟩ := id V_b1302
 have hin1315 : ¬ ((0 : Int32) < 0 ∨ cl1315.slots.size ≤ ((0 : Int32)).toNatClampNeg) := inb_of S1315 ⟨by decide, by decide⟩
 obtain ⟨T1315, h1315, X1315, e1315, W1315, st1315⟩ := stB X1310 hx hZ e1310 Ar1315 (j := (0 : Int32)) hin1315 (g := (mkF m 47 #[vR a0, vR b1302, vI 0, vJ (own_u1 cc), .second, vI (own_g0 cc)] [(.int (((own_g0 cc) ||| (128 : Int32)).toInt8.toInt32)), (.int 0), (.ref b1302)])) rfl rfl (hb hby d4_47)
 have Z1315 : n0 ≤ h1315.size := Nat.le_trans Z1302 (Keep.of_wr W1315).1
 have K1315 : Keep h0 h1315 [] := K1302.wr W1315 (Or.inr sz_b1302)
 have N1315 := Fr.snoc X1315 N1310 g_b1302
 have Ff1316 : Fld Z h1315 a0 own_CK "collection" "I" (.int cc) := (Ff1303).other W1315 (Or.inl ne_a0_b1302)
 have Ff1317 : Fld Z h1315 a0 own_CK "documentKey" "[B" (.ref r1) := (Ff1304).other W1315 (Or.inl ne_a0_b1302)
 have Vf1318 : Arv Z h1315 r1 k_r1 .byte (2 : Int32) [(.int y0), (.int y1)] (.int 0) := (Vf1305).other W1315 ne_r1_b1302
 have Ef1319 : Exa Z h1315 b1302 "[B" := (C1302).wr W1315
 have V1315 : Arv Z h1315 b1302 k1302 .byte (5 : Int32) [(.int (own_m0 cc)), (.int 0), (.int 0), (.int 0), (.int 0)] (.int 0) := Arv.set Ar1315 q1315 S1315 M1315 H1315 G1315 (fits_nar_byte _) W1315 0 rfl (Nat.le_of_ble_eq_true rfl)
 have pre1320 : own_P p e below T1315 (mkF m 48 #[vR a0, vR b1302, vI 0, vJ (own_u1 cc), .second, vI (own_g0 cc)] []) s₁ (entryFrame m #[(.ref a0)] 6) := fun t k => pre1314 t (st1315 t k)
 have pre1321 : own_P p e below T1315 (mkF m 32 #[vR a0, vR b1302, vI 1, vJ (own_u2 cc), .second, vI (own_g1 cc)] [(.int (lcmpW (own_u2 cc) (0 : Int64))), (.int 1), (.ref b1302)]) s₁ (entryFrame m #[(.ref a0)] 6) := by
  intro t k
  refine pre1320 t ?_
  refine XS.iinc X1315.here hx rfl (hb hby d4_48) rfl (l' := #[vR a0, vR b1302, vI 1, vJ (own_u1 cc), .second, vI (own_g0 cc)]) rfl ?_
  refine XS.lloadN X1315.here hx rfl (hb hby d4_51) rfl ?_
  refine XS.lconst X1315.here hx rfl (hb hby d4_52) ?_
  refine XS.lcmp X1315.here hx rfl (hb hby d4_53) rfl ?_
  refine XS.ifYes X1315.here hx rfl (pc0 := 54) (pc' := 14) rfl (hb hby d4_54) rfl ((if0 _ _).trans (feq (own_neL hk1313)).2) (by decide) (by decide) ?_
  refine XS.lloadN X1315.here hx rfl (hb hby d4_14) rfl ?_
  refine X1315.ldc2Long hx hown (mvT hZ (own_w hw 29 rfl)) (g := (mkF m 15 #[vR a0, vR b1302, vI 1, vJ (own_u1 cc), .second, vI (own_g0 cc)] [(.long (own_u1 cc))])) rfl (hb hby d4_15) _ ?_
  refine XS.land X1315.here hx rfl (hb hby d4_18) rfl ?_
  refine XS.l2i X1315.here hx rfl (hb hby d4_19) rfl ?_
  refine XS.istore X1315.here hx rfl (hb hby d4_20) rfl (l' := #[vR a0, vR b1302, vI 1, vJ (own_u1 cc), .second, vI (own_g1 cc)]) rfl ?_
  refine XS.lloadN X1315.here hx rfl (hb hby d4_22) rfl ?_
  refine XS.bipush X1315.here hx rfl (hb hby d4_23) ?_
  refine XS.lushr X1315.here hx rfl (hb hby d4_25) rfl ?_
  refine XS.lstoreN X1315.here hx rfl (hb hby d4_26) rfl (l' := #[vR a0, vR b1302, vI 1, vJ (own_u2 cc), .second, vI (own_g1 cc)]) rfl ?_
  refine XS.aloadN X1315.here hx rfl (hb hby d4_27) rfl rfl ?_
  refine XS.iloadN X1315.here hx rfl (hb hby d4_28) rfl ?_
  refine XS.lloadN X1315.here hx rfl (hb hby d4_29) rfl ?_
  refine XS.lconst X1315.here hx rfl (hb hby d4_30) ?_
  refine XS.lcmp X1315.here hx rfl (hb hby d4_31) rfl ?_
  exact k
 have hk1322 : ¬ ((own_u2 cc) = (0 : Int64)) := hz2
 have pre1323 : own_P p e below T1315 (mkF m 47 #[vR a0, vR b1302, vI 1, vJ (own_u2 cc), .second, vI (own_g1 cc)] [(.int (((own_g1 cc) ||| (128 : Int32)).toInt8.toInt32)), (.int 1), (.ref b1302)]) s₁ (entryFrame m #[(.ref a0)] 6) := by
  intro t k
  refine pre1321 t ?_
  refine XS.ifYes X1315.here hx rfl (pc0 := 32) (pc' := 40) rfl (hb hby d4_32) rfl ((if0 _ _).trans (feq (own_neL hk1322)).2) (by decide) (by decide) ?_
  refine XS.iload X1315.here hx rfl (hb hby d4_40) rfl ?_
  refine XS.sipush X1315.here hx rfl (hb hby d4_42) ?_
  refine XS.ior X1315.here hx rfl (hb hby d4_45) rfl ?_
  refine XS.i2b X1315.here hx rfl (hb hby d4_46) rfl ?_
  exact k
 obtain ⟨cl1324, Ar1324, q1324, S1324, M1324, H1324, G1324⟩ := id V1315
 have hin1324 : ¬ ((1 : Int32) < 0 ∨ cl1324.slots.size ≤ ((1 : Int32)).toNatClampNeg) := inb_of S1324 ⟨by decide, by decide⟩
 obtain ⟨T1324, h1324, X1324, e1324, W1324, st1324⟩ := stB X1315 hx hZ e1315 Ar1324 (j := (1 : Int32)) hin1324 (g := (mkF m 47 #[vR a0, vR b1302, vI 1, vJ (own_u2 cc), .second, vI (own_g1 cc)] [(.int (((own_g1 cc) ||| (128 : Int32)).toInt8.toInt32)), (.int 1), (.ref b1302)])) rfl rfl (hb hby d4_47)
 have Z1324 : n0 ≤ h1324.size := Nat.le_trans Z1315 (Keep.of_wr W1324).1
 have K1324 : Keep h0 h1324 [] := K1315.wr W1324 (Or.inr sz_b1302)
 have N1324 := Fr.snoc X1324 N1315 g_b1302
 have Ff1325 : Fld Z h1324 a0 own_CK "collection" "I" (.int cc) := (Ff1316).other W1324 (Or.inl ne_a0_b1302)
 have Ff1326 : Fld Z h1324 a0 own_CK "documentKey" "[B" (.ref r1) := (Ff1317).other W1324 (Or.inl ne_a0_b1302)
 have Vf1327 : Arv Z h1324 r1 k_r1 .byte (2 : Int32) [(.int y0), (.int y1)] (.int 0) := (Vf1318).other W1324 ne_r1_b1302
 have Ef1328 : Exa Z h1324 b1302 "[B" := (Ef1319).wr W1324
 have V1324 : Arv Z h1324 b1302 k1302 .byte (5 : Int32) [(.int (own_m0 cc)), (.int (own_m1 cc)), (.int 0), (.int 0), (.int 0)] (.int 0) := Arv.set Ar1324 q1324 S1324 M1324 H1324 G1324 (fits_nar_byte _) W1324 1 rfl (Nat.le_of_ble_eq_true rfl)
 have pre1329 : own_P p e below T1324 (mkF m 48 #[vR a0, vR b1302, vI 1, vJ (own_u2 cc), .second, vI (own_g1 cc)] []) s₁ (entryFrame m #[(.ref a0)] 6) := fun t k => pre1323 t (st1324 t k)
 have pre1330 : own_P p e below T1324 (mkF m 32 #[vR a0, vR b1302, vI 2, vJ (own_u3 cc), .second, vI (own_g2 cc)] [(.int (lcmpW (own_u3 cc) (0 : Int64))), (.int 2), (.ref b1302)]) s₁ (entryFrame m #[(.ref a0)] 6) := by
  intro t k
  refine pre1329 t ?_
  refine XS.iinc X1324.here hx rfl (hb hby d4_48) rfl (l' := #[vR a0, vR b1302, vI 2, vJ (own_u2 cc), .second, vI (own_g1 cc)]) rfl ?_
  refine XS.lloadN X1324.here hx rfl (hb hby d4_51) rfl ?_
  refine XS.lconst X1324.here hx rfl (hb hby d4_52) ?_
  refine XS.lcmp X1324.here hx rfl (hb hby d4_53) rfl ?_
  refine XS.ifYes X1324.here hx rfl (pc0 := 54) (pc' := 14) rfl (hb hby d4_54) rfl ((if0 _ _).trans (feq (own_neL hk1322)).2) (by decide) (by decide) ?_
  refine XS.lloadN X1324.here hx rfl (hb hby d4_14) rfl ?_
  refine X1324.ldc2Long hx hown (mvT hZ (own_w hw 29 rfl)) (g := (mkF m 15 #[vR a0, vR b1302, vI 2, vJ (own_u2 cc), .second, vI (own_g1 cc)] [(.long (own_u2 cc))])) rfl (hb hby d4_15) _ ?_
  refine XS.land X1324.here hx rfl (hb hby d4_18) rfl ?_
  refine XS.l2i X1324.here hx rfl (hb hby d4_19) rfl ?_
  refine XS.istore X1324.here hx rfl (hb hby d4_20) rfl (l' := #[vR a0, vR b1302, vI 2, vJ (own_u2 cc), .second, vI (own_g2 cc)]) rfl ?_
  refine XS.lloadN X1324.here hx rfl (hb hby d4_22) rfl ?_
  refine XS.bipush X1324.here hx rfl (hb hby d4_23) ?_
  refine XS.lushr X1324.here hx rfl (hb hby d4_25) rfl ?_
  refine XS.lstoreN X1324.here hx rfl (hb hby d4_26) rfl (l' := #[vR a0, vR b1302, vI 2, vJ (own_u3 cc), .second, vI (own_g2 cc)]) rfl ?_
  refine XS.aloadN X1324.here hx rfl (hb hby d4_27) rfl rfl ?_
  refine XS.iloadN X1324.here hx rfl (hb hby d4_28) rfl ?_
  refine XS.lloadN X1324.here hx rfl (hb hby d4_29) rfl ?_
  refine XS.lconst X1324.here hx rfl (hb hby d4_30) ?_
  refine XS.lcmp X1324.here hx rfl (hb hby d4_31) rfl ?_
  exact k
 have hk1331 : ¬ ((own_u3 cc) = (0 : Int64)) := hz3
 have pre1332 : own_P p e below T1324 (mkF m 47 #[vR a0, vR b1302, vI 2, vJ (own_u3 cc), .second, vI (own_g2 cc)] [(.int (((own_g2 cc) ||| (128 : Int32)).toInt8.toInt32)), (.int 2), (.ref b1302)]) s₁ (entryFrame m #[(.ref a0)] 6) := by
  intro t k
  refine pre1330 t ?_
  refine XS.ifYes X1324.here hx rfl (pc0 := 32) (pc' := 40) rfl (hb hby d4_32) rfl ((if0 _ _).trans (feq (own_neL hk1331)).2) (by decide) (by decide) ?_
  refine XS.iload X1324.here hx rfl (hb hby d4_40) rfl ?_
  refine XS.sipush X1324.here hx rfl (hb hby d4_42) ?_
  refine XS.ior X1324.here hx rfl (hb hby d4_45) rfl ?_
  refine XS.i2b X1324.here hx rfl (hb hby d4_46) rfl ?_
  exact k
 obtain ⟨cl1333, Ar1333, q1333, S1333, M1333, H1333, G1333⟩ := id V1324
 have hin1333 : ¬ ((2 : Int32) < 0 ∨ cl1333.slots.size ≤ ((2 : Int32)).toNatClampNeg) := inb_of S1333 ⟨by decide, by decide⟩
 obtain ⟨T1333, h1333, X1333, e1333, W1333, st1333⟩ := stB X1324 hx hZ e1324 Ar1333 (j := (2 : Int32)) hin1333 (g := (mkF m 47 #[vR a0, vR b1302, vI 2, vJ (own_u3 cc), .second, vI (own_g2 cc)] [(.int (((own_g2 cc) ||| (128 : Int32)).toInt8.toInt32)), (.int 2), (.ref b1302)])) rfl rfl (hb hby d4_47)
 have Z1333 : n0 ≤ h1333.size := Nat.le_trans Z1324 (Keep.of_wr W1333).1
 have K1333 : Keep h0 h1333 [] := K1324.wr W1333 (Or.inr sz_b1302)
 have N1333 := Fr.snoc X1333 N1324 g_b1302
 have Ff1334 : Fld Z h1333 a0 own_CK "collection" "I" (.int cc) := (Ff1325).other W1333 (Or.inl ne_a0_b1302)
 have Ff1335 : Fld Z h1333 a0 own_CK "documentKey" "[B" (.ref r1) := (Ff1326).other W1333 (Or.inl ne_a0_b1302)
 have Vf1336 : Arv Z h1333 r1 k_r1 .byte (2 : Int32) [(.int y0), (.int y1)] (.int 0) := (Vf1327).other W1333 ne_r1_b1302
 have Ef1337 : Exa Z h1333 b1302 "[B" := (Ef1328).wr W1333
 have V1333 : Arv Z h1333 b1302 k1302 .byte (5 : Int32) [(.int (own_m0 cc)), (.int (own_m1 cc)), (.int (own_m2 cc)), (.int 0), (.int 0)] (.int 0) := Arv.set Ar1333 q1333 S1333 M1333 H1333 G1333 (fits_nar_byte _) W1333 2 rfl (Nat.le_of_ble_eq_true rfl)
 have pre1338 : own_P p e below T1333 (mkF m 48 #[vR a0, vR b1302, vI 2, vJ (own_u3 cc), .second, vI (own_g2 cc)] []) s₁ (entryFrame m #[(.ref a0)] 6) := fun t k => pre1332 t (st1333 t k)
 have pre1339 : own_P p e below T1333 (mkF m 32 #[vR a0, vR b1302, vI 3, vJ (own_u4 cc), .second, vI (own_g3 cc)] [(.int (lcmpW (own_u4 cc) (0 : Int64))), (.int 3), (.ref b1302)]) s₁ (entryFrame m #[(.ref a0)] 6) := by
  intro t k
  refine pre1338 t ?_
  refine XS.iinc X1333.here hx rfl (hb hby d4_48) rfl (l' := #[vR a0, vR b1302, vI 3, vJ (own_u3 cc), .second, vI (own_g2 cc)]) rfl ?_
  refine XS.lloadN X1333.here hx rfl (hb hby d4_51) rfl ?_
  refine XS.lconst X1333.here hx rfl (hb hby d4_52) ?_
  refine XS.lcmp X1333.here hx rfl (hb hby d4_53) rfl ?_
  refine XS.ifYes X1333.here hx rfl (pc0 := 54) (pc' := 14) rfl (hb hby d4_54) rfl ((if0 _ _).trans (feq (own_neL hk1331)).2) (by decide) (by decide) ?_
  refine XS.lloadN X1333.here hx rfl (hb hby d4_14) rfl ?_
  refine X1333.ldc2Long hx hown (mvT hZ (own_w hw 29 rfl)) (g := (mkF m 15 #[vR a0, vR b1302, vI 3, vJ (own_u3 cc), .second, vI (own_g2 cc)] [(.long (own_u3 cc))])) rfl (hb hby d4_15) _ ?_
  refine XS.land X1333.here hx rfl (hb hby d4_18) rfl ?_
  refine XS.l2i X1333.here hx rfl (hb hby d4_19) rfl ?_
  refine XS.istore X1333.here hx rfl (hb hby d4_20) rfl (l' := #[vR a0, vR b1302, vI 3, vJ (own_u3 cc), .second, vI (own_g3 cc)]) rfl ?_
  refine XS.lloadN X1333.here hx rfl (hb hby d4_22) rfl ?_
  refine XS.bipush X1333.here hx rfl (hb hby d4_23) ?_
  refine XS.lushr X1333.here hx rfl (hb hby d4_25) rfl ?_
  refine XS.lstoreN X1333.here hx rfl (hb hby d4_26) rfl (l' := #[vR a0, vR b1302, vI 3, vJ (own_u4 cc), .second, vI (own_g3 cc)]) rfl ?_
  refine XS.aloadN X1333.here hx rfl (hb hby d4_27) rfl rfl ?_
  refine XS.iloadN X1333.here hx rfl (hb hby d4_28) rfl ?_
  refine XS.lloadN X1333.here hx rfl (hb hby d4_29) rfl ?_
  refine XS.lconst X1333.here hx rfl (hb hby d4_30) ?_
  refine XS.lcmp X1333.here hx rfl (hb hby d4_31) rfl ?_
  exact k
 have hk1340 : ¬ ((own_u4 cc) = (0 : Int64)) := hz4
 have pre1341 : own_P p e below T1333 (mkF m 47 #[vR a0, vR b1302, vI 3, vJ (own_u4 cc), .second, vI (own_g3 cc)] [(.int (((own_g3 cc) ||| (128 : Int32)).toInt8.toInt32)), (.int 3), (.ref b1302)]) s₁ (entryFrame m #[(.ref a0)] 6) := by
  intro t k
  refine pre1339 t ?_
  refine XS.ifYes X1333.here hx rfl (pc0 := 32) (pc' := 40) rfl (hb hby d4_32) rfl ((if0 _ _).trans (feq (own_neL hk1340)).2) (by decide) (by decide) ?_
  refine XS.iload X1333.here hx rfl (hb hby d4_40) rfl ?_
  refine XS.sipush X1333.here hx rfl (hb hby d4_42) ?_
  refine XS.ior X1333.here hx rfl (hb hby d4_45) rfl ?_
  refine XS.i2b X1333.here hx rfl (hb hby d4_46) rfl ?_
  exact k
 obtain ⟨cl1342, Ar1342, q1342, S1342, M1342, H1342, G1342⟩ := id V1333
 have hin1342 : ¬ ((3 : Int32) < 0 ∨ cl1342.slots.size ≤ ((3 : Int32)).toNatClampNeg) := inb_of S1342 ⟨by decide, by decide⟩
 obtain ⟨T1342, h1342, X1342, e1342, W1342, st1342⟩ := stB X1333 hx hZ e1333 Ar1342 (j := (3 : Int32)) hin1342 (g := (mkF m 47 #[vR a0, vR b1302, vI 3, vJ (own_u4 cc), .second, vI (own_g3 cc)] [(.int (((own_g3 cc) ||| (128 : Int32)).toInt8.toInt32)), (.int 3), (.ref b1302)])) rfl rfl (hb hby d4_47)
 have Z1342 : n0 ≤ h1342.size := Nat.le_trans Z1333 (Keep.of_wr W1342).1
 have K1342 : Keep h0 h1342 [] := K1333.wr W1342 (Or.inr sz_b1302)
 have N1342 := Fr.snoc X1342 N1333 g_b1302
 have Ff1343 : Fld Z h1342 a0 own_CK "collection" "I" (.int cc) := (Ff1334).other W1342 (Or.inl ne_a0_b1302)
 have Ff1344 : Fld Z h1342 a0 own_CK "documentKey" "[B" (.ref r1) := (Ff1335).other W1342 (Or.inl ne_a0_b1302)
 have Vf1345 : Arv Z h1342 r1 k_r1 .byte (2 : Int32) [(.int y0), (.int y1)] (.int 0) := (Vf1336).other W1342 ne_r1_b1302
 have Ef1346 : Exa Z h1342 b1302 "[B" := (Ef1337).wr W1342
 have V1342 : Arv Z h1342 b1302 k1302 .byte (5 : Int32) [(.int (own_m0 cc)), (.int (own_m1 cc)), (.int (own_m2 cc)), (.int (own_m3 cc)), (.int 0)] (.int 0) := Arv.set Ar1342 q1342 S1342 M1342 H1342 G1342 (fits_nar_byte _) W1342 3 rfl (Nat.le_of_ble_eq_true rfl)
 have pre1347 : own_P p e below T1342 (mkF m 48 #[vR a0, vR b1302, vI 3, vJ (own_u4 cc), .second, vI (own_g3 cc)] []) s₁ (entryFrame m #[(.ref a0)] 6) := fun t k => pre1341 t (st1342 t k)
 have pre1348 : own_P p e below T1342 (mkF m 32 #[vR a0, vR b1302, vI 4, vJ (own_u5 cc), .second, vI (own_g4 cc)] [(.int (lcmpW (own_u5 cc) (0 : Int64))), (.int 4), (.ref b1302)]) s₁ (entryFrame m #[(.ref a0)] 6) := by
  intro t k
  refine pre1347 t ?_
  refine XS.iinc X1342.here hx rfl (hb hby d4_48) rfl (l' := #[vR a0, vR b1302, vI 4, vJ (own_u4 cc), .second, vI (own_g3 cc)]) rfl ?_
  refine XS.lloadN X1342.here hx rfl (hb hby d4_51) rfl ?_
  refine XS.lconst X1342.here hx rfl (hb hby d4_52) ?_
  refine XS.lcmp X1342.here hx rfl (hb hby d4_53) rfl ?_
  refine XS.ifYes X1342.here hx rfl (pc0 := 54) (pc' := 14) rfl (hb hby d4_54) rfl ((if0 _ _).trans (feq (own_neL hk1340)).2) (by decide) (by decide) ?_
  refine XS.lloadN X1342.here hx rfl (hb hby d4_14) rfl ?_
  refine X1342.ldc2Long hx hown (mvT hZ (own_w hw 29 rfl)) (g := (mkF m 15 #[vR a0, vR b1302, vI 4, vJ (own_u4 cc), .second, vI (own_g3 cc)] [(.long (own_u4 cc))])) rfl (hb hby d4_15) _ ?_
  refine XS.land X1342.here hx rfl (hb hby d4_18) rfl ?_
  refine XS.l2i X1342.here hx rfl (hb hby d4_19) rfl ?_
  refine XS.istore X1342.here hx rfl (hb hby d4_20) rfl (l' := #[vR a0, vR b1302, vI 4, vJ (own_u4 cc), .second, vI (own_g4 cc)]) rfl ?_
  refine XS.lloadN X1342.here hx rfl (hb hby d4_22) rfl ?_
  refine XS.bipush X1342.here hx rfl (hb hby d4_23) ?_
  refine XS.lushr X1342.here hx rfl (hb hby d4_25) rfl ?_
  refine XS.lstoreN X1342.here hx rfl (hb hby d4_26) rfl (l' := #[vR a0, vR b1302, vI 4, vJ (own_u5 cc), .second, vI (own_g4 cc)]) rfl ?_
  refine XS.aloadN X1342.here hx rfl (hb hby d4_27) rfl rfl ?_
  refine XS.iloadN X1342.here hx rfl (hb hby d4_28) rfl ?_
  refine XS.lloadN X1342.here hx rfl (hb hby d4_29) rfl ?_
  refine XS.lconst X1342.here hx rfl (hb hby d4_30) ?_
  refine XS.lcmp X1342.here hx rfl (hb hby d4_31) rfl ?_
  exact k
 have hk1349 : (own_u5 cc) = (0 : Int64) := hz5
 have pre1350 : own_P p e below T1342 (mkF m 47 #[vR a0, vR b1302, vI 4, vJ (own_u5 cc), .second, vI (own_g4 cc)] [(.int ((own_g4 cc).toInt8.toInt32)), (.int 4), (.ref b1302)]) s₁ (entryFrame m #[(.ref a0)] 6) := by
  intro t k
  refine pre1348 t ?_
  refine XS.ifNo X1342.here hx rfl (hb hby d4_32) rfl ((if0 _ _).trans (teq (own_eqL hk1349)).2) ?_
  refine XS.iload X1342.here hx rfl (hb hby d4_35) rfl ?_
  refine XS.goto X1342.here hx rfl (pc0 := 37) (pc' := 46) rfl (hb hby d4_37) (by decide) (by decide) ?_
  refine XS.i2b X1342.here hx rfl (hb hby d4_46) rfl ?_
  exact k
 obtain ⟨cl1351, Ar1351, q1351, S1351, M1351, H1351, G1351⟩ := id V1342
 have hin1351 : ¬ ((4 : Int32) < 0 ∨ cl1351.slots.size ≤ ((4 : Int32)).toNatClampNeg) := inb_of S1351 ⟨by decide, by decide⟩
 obtain ⟨T1351, h1351, X1351, e1351, W1351, st1351⟩ := stB X1342 hx hZ e1342 Ar1351 (j := (4 : Int32)) hin1351 (g := (mkF m 47 #[vR a0, vR b1302, vI 4, vJ (own_u5 cc), .second, vI (own_g4 cc)] [(.int ((own_g4 cc).toInt8.toInt32)), (.int 4), (.ref b1302)])) rfl rfl (hb hby d4_47)
 have Z1351 : n0 ≤ h1351.size := Nat.le_trans Z1342 (Keep.of_wr W1351).1
 have K1351 : Keep h0 h1351 [] := K1342.wr W1351 (Or.inr sz_b1302)
 have N1351 := Fr.snoc X1351 N1342 g_b1302
 have Ff1352 : Fld Z h1351 a0 own_CK "collection" "I" (.int cc) := (Ff1343).other W1351 (Or.inl ne_a0_b1302)
 have Ff1353 : Fld Z h1351 a0 own_CK "documentKey" "[B" (.ref r1) := (Ff1344).other W1351 (Or.inl ne_a0_b1302)
 have Vf1354 : Arv Z h1351 r1 k_r1 .byte (2 : Int32) [(.int y0), (.int y1)] (.int 0) := (Vf1345).other W1351 ne_r1_b1302
 have Ef1355 : Exa Z h1351 b1302 "[B" := (Ef1346).wr W1351
 have V1351 : Arv Z h1351 b1302 k1302 .byte (5 : Int32) [(.int (own_m0 cc)), (.int (own_m1 cc)), (.int (own_m2 cc)), (.int (own_m3 cc)), (.int (own_l4 cc))] (.int 0) := Arv.set Ar1351 q1351 S1351 M1351 H1351 G1351 (fits_nar_byte _) W1351 4 rfl (Nat.le_of_ble_eq_true rfl)
 have pre1356 : own_P p e below T1351 (mkF m 48 #[vR a0, vR b1302, vI 4, vJ (own_u5 cc), .second, vI (own_g4 cc)] []) s₁ (entryFrame m #[(.ref a0)] 6) := fun t k => pre1350 t (st1351 t k)
 have pre1357 : own_P p e below T1351 (mkF m 60 #[vR a0, vR b1302, vI 5, vJ (own_u5 cc), .second, vI (own_g4 cc)] [(.ref a0), (.int 5), (.ref b1302)]) s₁ (entryFrame m #[(.ref a0)] 6) := by
  intro t k
  refine pre1356 t ?_
  refine XS.iinc X1351.here hx rfl (hb hby d4_48) rfl (l' := #[vR a0, vR b1302, vI 5, vJ (own_u5 cc), .second, vI (own_g4 cc)]) rfl ?_
  refine XS.lloadN X1351.here hx rfl (hb hby d4_51) rfl ?_
  refine XS.lconst X1351.here hx rfl (hb hby d4_52) ?_
  refine XS.lcmp X1351.here hx rfl (hb hby d4_53) rfl ?_
  refine XS.ifNo X1351.here hx rfl (hb hby d4_54) rfl ((if0 _ _).trans (teq (own_eqL hk1349)).2) ?_
  refine XS.aloadN X1351.here hx rfl (hb hby d4_57) rfl rfl ?_
  refine XS.iloadN X1351.here hx rfl (hb hby d4_58) rfl ?_
  refine XS.aloadN X1351.here hx rfl (hb hby d4_59) rfl rfl ?_
  exact k
 obtain ⟨T1358, X1358, e1358, st1358⟩ := getF X1351 hx hZ hown (host := "") (Or.inl (own_w hw 17 rfl)) Via.refl e1351 Ff1353 (g := (mkF m 60 #[vR a0, vR b1302, vI 5, vJ (own_u5 cc), .second, vI (own_g4 cc)] [(.ref a0), (.int 5), (.ref b1302)])) rfl rfl (hb hby d4_60)
 have pre1359 : own_P p e below T1358 (mkF m 63 #[vR a0, vR b1302, vI 5, vJ (own_u5 cc), .second, vI (own_g4 cc)] [(.ref r1), (.int 5), (.ref b1302)]) s₁ (entryFrame m #[(.ref a0)] 6) := fun t k => pre1357 t (st1358 t k)
 obtain ⟨cl1360, Ar1360, q1360, S1360, M1360, H1360, G1360⟩ := id Vf1354
 have pre1361 : own_P p e below T1358 (mkF m 65 #[vR a0, vR b1302, vI 5, vJ (own_u5 cc), .second, vI (own_g4 cc)] [(.int 7), (.ref b1302)]) s₁ (entryFrame m #[(.ref a0)] 6) := by
  intro t k
  refine pre1359 t ?_
  refine X1358.arraylength hx (by rw [e1358]; exact Ar1360.1) (State.isArrayOf_alike hZ.alike Ar1360.2.1) (g := (mkF m 63 #[vR a0, vR b1302, vI 5, vJ (own_u5 cc), .second, vI (own_g4 cc)] [(.ref r1), (.int 5), (.ref b1302)])) rfl rfl (hb hby d4_63) _ ?_
  rw [len_of S1360 M1360]
  refine XS.iadd X1358.here hx rfl (hb hby d4_64) rfl ?_
  exact k
 obtain ⟨_, _, ⟨T1362, L1362, k1362, n1362⟩, -, X1362, ⟨Lc1362, hQ1362, l1362, y1362, z1362⟩, st1362⟩ := Jvm.LawKit.callS X1358 hx (y := (⟨"java/util/Arrays", "copyOf", "([BI)[B"⟩ : MethodName)) hown (mvT hZ (own_w hw 30 rfl)) (mvT hZ (own_w hw 31 rfl)) (mvT hZ (own_w hw 32 rfl)) (mvT hZ (own_w hw 33 rfl)) (by decide) (backOf (W := 0) (rm6_7 l Z ar0 hw [] b1302 k1302 (own_m0 cc) (own_m1 cc) (own_m2 cc) (own_m3 cc) (own_l4 cc) h1351 n0 Z1351 V1351 Ef1355) hZ (own_w hw 33 rfl) (own_w hw 32 rfl) (by decide) (by decide)) (g := (mkF m 65 #[vR a0, vR b1302, vI 5, vJ (own_u5 cc), .second, vI (own_g4 cc)] [(.int 7), (.ref b1302)])) rfl (by rw [hml]; rfl) (argsL := [(.ref b1302), (.int 7)]) (rest := []) (lenOf pd_3 rfl) rfl (by show 2 * 0 + _ ≤ _; exact Nat.le_of_eq rfl) (hb hby d4_65) (fun _ _ => ⟨rfl, e1358, (by decide : 1 + 1 ≤ _), (by decide : 5 + 7 ≤ _)⟩)
 dsimp only [Pt.U, Pt.locs, Pt.cells, Pt.slots] at X1362 l1362 y1362 z1362 st1362 hQ1362
 subst l1362 y1362 z1362
 obtain ⟨h1362, e1362⟩ : ∃ h, T1362.heap = h := ⟨_, rfl⟩
 rw [e1362] at hQ1362
 obtain ⟨b1362, kb1362, rfl, N1362q, K1362q, y_b1362, Ob1362_0, Ob1362_1⟩ := hQ1362
 have N1362 := Fr.app N1351 N1362q
 have ne_a0_b1362 : a0 ≠ b1362 := Nat.ne_of_lt (Nat.lt_of_lt_of_le (Ff1352).lt y_b1362)
 have ne_r1_b1362 : r1 ≠ b1362 := Nat.ne_of_lt (Nat.lt_of_lt_of_le (Vf1354).lt y_b1362)
 have ne_b1302_b1362 : b1302 ≠ b1362 := Nat.ne_of_lt (Nat.lt_of_lt_of_le (Ef1355).lt y_b1362)
 have g_b1362 : n0 ≤ b1362 := Nat.le_trans Z1351 y_b1362
 have sz_b1362 : h0.size ≤ b1362 := Nat.le_trans K1351.1 y_b1362
 have Z1362 : n0 ≤ h1362.size := Nat.le_trans Z1351 K1362q.1
 have K1362 : Keep h0 h1362 [] := K1351.trans K1362q (fun x hx => absurd hx List.not_mem_nil)
 have Ff1363 : Fld Z h1362 a0 own_CK "collection" "I" (.int cc) := (Ff1352).keep K1362q List.not_mem_nil
 have Ff1364 : Fld Z h1362 a0 own_CK "documentKey" "[B" (.ref r1) := (Ff1353).keep K1362q List.not_mem_nil
 have Vf1365 : Arv Z h1362 r1 k_r1 .byte (2 : Int32) [(.int y0), (.int y1)] (.int 0) := (Vf1354).keep K1362q List.not_mem_nil
 have Ef1366 : Exa Z h1362 b1302 "[B" := (Ef1355).keep K1362q
 have Vf1367 : Arv Z h1362 b1302 k1302 .byte (5 : Int32) [(.int (own_m0 cc)), (.int (own_m1 cc)), (.int (own_m2 cc)), (.int (own_m3 cc)), (.int (own_l4 cc))] (.int 0) := (V1351).keep K1362q List.not_mem_nil
 have pre1368 : own_P p e below T1362 (mkF m 68 #[vR a0, vR b1302, vI 5, vJ (own_u5 cc), .second, vI (own_g4 cc)] [(.ref b1362)]) s₁ (entryFrame m #[(.ref a0)] 6) := fun t k => pre1361 t (st1362 t k)
 have pre1369 : own_P p e below T1362 (mkF m 71 #[vR a0, vR b1302, vI 5, vJ (own_u5 cc), .second, vR b1362] [(.ref a0)]) s₁ (entryFrame m #[(.ref a0)] 6) := by
  intro t k
  refine pre1368 t ?_
  refine XS.astore X1362.here hx rfl (hb hby d4_68) rfl rfl (l' := #[vR a0, vR b1302, vI 5, vJ (own_u5 cc), .second, vR b1362]) rfl ?_
  refine XS.aloadN X1362.here hx rfl (hb hby d4_70) rfl rfl ?_
  exact k
 obtain ⟨T1370, X1370, e1370, st1370⟩ := getF X1362 hx hZ hown (host := "") (Or.inl (own_w hw 17 rfl)) Via.refl e1362 Ff1364 (g := (mkF m 71 #[vR a0, vR b1302, vI 5, vJ (own_u5 cc), .second, vR b1362] [(.ref a0)])) rfl rfl (hb hby d4_71)
 have pre1371 : own_P p e below T1370 (mkF m 74 #[vR a0, vR b1302, vI 5, vJ (own_u5 cc), .second, vR b1362] [(.ref r1)]) s₁ (entryFrame m #[(.ref a0)] 6) := fun t k => pre1369 t (st1370 t k)
 have pre1372 : own_P p e below T1370 (mkF m 79 #[vR a0, vR b1302, vI 5, vJ (own_u5 cc), .second, vR b1362] [(.ref a0), (.int 5), (.ref b1362), (.int 0), (.ref r1)]) s₁ (entryFrame m #[(.ref a0)] 6) := by
  intro t k
  refine pre1371 t ?_
  refine XS.iconst X1370.here hx rfl (hb hby d4_74) ?_
  refine XS.aload X1370.here hx rfl (hb hby d4_75) rfl rfl ?_
  refine XS.iloadN X1370.here hx rfl (hb hby d4_77) rfl ?_
  refine XS.aloadN X1370.here hx rfl (hb hby d4_78) rfl rfl ?_
  exact k
 obtain ⟨T1373, X1373, e1373, st1373⟩ := getF X1370 hx hZ hown (host := "") (Or.inl (own_w hw 17 rfl)) Via.refl e1370 Ff1364 (g := (mkF m 79 #[vR a0, vR b1302, vI 5, vJ (own_u5 cc), .second, vR b1362] [(.ref a0), (.int 5), (.ref b1362), (.int 0), (.ref r1)])) rfl rfl (hb hby d4_79)
 have pre1374 : own_P p e below T1373 (mkF m 82 #[vR a0, vR b1302, vI 5, vJ (own_u5 cc), .second, vR b1362] [(.ref r1), (.int 5), (.ref b1362), (.int 0), (.ref r1)]) s₁ (entryFrame m #[(.ref a0)] 6) := fun t k => pre1372 t (st1373 t k)
 obtain ⟨cl1375, Ar1375, q1375, S1375, M1375, H1375, G1375⟩ := id Vf1365
 have pre1376 : own_P p e below T1373 (mkF m 83 #[vR a0, vR b1302, vI 5, vJ (own_u5 cc), .second, vR b1362] [(.int 2), (.int 5), (.ref b1362), (.int 0), (.ref r1)]) s₁ (entryFrame m #[(.ref a0)] 6) := by
  intro t k
  refine pre1374 t ?_
  refine X1373.arraylength hx (by rw [e1373]; exact Ar1375.1) (State.isArrayOf_alike hZ.alike Ar1375.2.1) (g := (mkF m 82 #[vR a0, vR b1302, vI 5, vJ (own_u5 cc), .second, vR b1362] [(.ref r1), (.int 5), (.ref b1362), (.int 0), (.ref r1)])) rfl rfl (hb hby d4_82) _ ?_
  rw [len_of S1375 M1375]
  exact k
 obtain ⟨T1377, h1377, L1377, X1377, e1377, N1377, K1377q, V1377q, st1377⟩ := cpA X1373 hx hZ hown (own_w hw 42 rfl) (own_w hw 41 rfl) (own_w hw 39 rfl) (own_w hw 40 rfl) e1373 Vf1365 Ob1362_1 (Or.inl ⟨rfl, rfl⟩) (by decide) (by decide) (by decide) (by decide) (by decide) (us := [(.int y0), (.int y1)]) rfl (Nat.le_of_ble_eq_true rfl) N1362 g_b1362 (g := (mkF m 83 #[vR a0, vR b1302, vI 5, vJ (own_u5 cc), .second, vR b1362] [(.int 2), (.int 5), (.ref b1362), (.int 0), (.ref r1)])) rfl (by rw [hml]; rfl) rfl (hb hby d4_83) (by decide) (W := 0) (by show 2 * 0 + _ ≤ _; exact Nat.le_of_eq rfl) (by decide)
 have Z1377 : n0 ≤ h1377.size := Nat.le_trans Z1362 K1377q.1
 have K1377 : Keep h0 h1377 [] := K1362.trans K1377q (fun x hx => by cases List.mem_singleton.mp hx; exact Or.inr sz_b1362)
 have Ff1378 : Fld Z h1377 a0 own_CK "collection" "I" (.int cc) := (Ff1363).keep K1377q (fun q => absurd (List.mem_singleton.mp q) ne_a0_b1362)
 have Ff1379 : Fld Z h1377 a0 own_CK "documentKey" "[B" (.ref r1) := (Ff1364).keep K1377q (fun q => absurd (List.mem_singleton.mp q) ne_a0_b1362)
 have Vf1380 : Arv Z h1377 r1 k_r1 .byte (2 : Int32) [(.int y0), (.int y1)] (.int 0) := (Vf1365).keep K1377q (fun q => absurd (List.mem_singleton.mp q) ne_r1_b1362)
 have Ef1381 : Exa Z h1377 b1302 "[B" := (Ef1366).keep K1377q
 have Vf1382 : Arv Z h1377 b1302 k1302 .byte (5 : Int32) [(.int (own_m0 cc)), (.int (own_m1 cc)), (.int (own_m2 cc)), (.int (own_m3 cc)), (.int (own_l4 cc))] (.int 0) := (Vf1367).keep K1377q (fun q => absurd (List.mem_singleton.mp q) ne_b1302_b1362)
 have Ef1383 : Exa Z h1377 b1362 "[B" := (Ob1362_0).keep K1377q
 have V1377 : Arv Z h1377 b1362 kb1362 .byte (7 : Int32) [(.int (own_m0 cc)), (.int (own_m1 cc)), (.int (own_m2 cc)), (.int (own_m3 cc)), (.int (own_l4 cc)), (.int y0), (.int y1)] (.int 0) := V1377q
 have pre1384 : own_P p e below T1377 (mkF m 86 #[vR a0, vR b1302, vI 5, vJ (own_u5 cc), .second, vR b1362] []) s₁ (entryFrame m #[(.ref a0)] 6) := fun t k => pre1376 t (st1377 t k)
 obtain ⟨fs, hr, hrun, hended, hW, hsame⟩ := X1377.leave (v := some (.ref b1362)) (fun h => by rw [Bd.returns] at h; cases h)
 refine ⟨_, _, pre1384 _ ?_, hrun, hended, _, _, rfl, ?_, ⟨_, rfl⟩, hW, hsame.mono (by decide) (by decide)⟩
 ·
  refine XS.aload X1377.here hx rfl (hb hby d4_86) rfl rfl ?_
  exact retOut X1377 hx Bd.returns rfl (Or.inr (Or.inr (Or.inr (Or.inr ⟨rfl, rfl, rfl⟩)))) (hb hby d4_88) hr
 ·
  show Q4_5_2 Z a0 cc r1 k_r1 y0 y1 h0 n0 _ T1377.heap _
  rw [e1377]
  exact ⟨b1362, kb1362, rfl, N1377, K1377, sz_b1362, Ef1383, V1377⟩
def Q4_5_3 (Z : State) (a0 : Addr) (cc : Int32) (r1 : Addr) (k_r1 : ClassId) (y0 : Int32) (y1 : Int32) (y2 : Int32) (h0 : Heap) (n0 : Nat) (v : Option Value) (h : Heap) (L : List Loc) : Prop := ∃ (b : Addr) (k_b : ClassId), v = some (.ref b) ∧ Fr n0 L ∧ Keep h0 h [] ∧ h0.size ≤ b ∧ Exa Z h b "[B" ∧ Arv Z h b k_b .byte (8 : Int32) [(.int (own_m0 cc)), (.int (own_m1 cc)), (.int (own_m2 cc)), (.int (own_m3 cc)), (.int (own_l4 cc)), (.int y0), (.int y1), (.int y2)] (.int 0)
set_option maxRecDepth 65536 in
set_option maxHeartbeats 40000000 in
theorem rm4_5_3 (l : Launch) (Z : State) (ar0 : Array Value) (hw : ∀ d ∈ tables_1, d.before ar0 Z = true) (ws : List Jvm.Cond) (a0 : Addr) (cc : Int32) (r1 : Addr) (k_r1 : ClassId) (y0 : Int32) (y1 : Int32) (y2 : Int32) (h0 : Heap) (n0 : Nat) (Z0 : n0 ≤ h0.size) (F_collection_a0 : Fld Z h0 a0 own_CK "collection" "I" (.int cc)) (F_documentKey_a0 : Fld Z h0 a0 own_CK "documentKey" "[B" (.ref r1)) (V_r1 : Arv Z h0 r1 k_r1 .byte (3 : Int32) [(.int y0), (.int y1), (.int y2)] (.int 0)) (hz1 : ¬ ((own_u1 cc) = (0 : Int64))) (hz2 : ¬ ((own_u2 cc) = (0 : Int64))) (hz3 : ¬ ((own_u3 cc) = (0 : Int64))) (hz4 : ¬ ((own_u4 cc) = (0 : Int64))) (hz5 : (own_u5 cc) = (0 : Int64)) :
  MetFree l (⟨own_CK, "write", "()[B"⟩ : MethodName) (head1 (Jvm.Cond.code (⟨own_CK, "write", "()[B"⟩ : MethodName) prog_8_method_3_code 6 (some (.array .byte)) :: ws) ({ frames := 2, cells := 2, slots := 13, locals := 32 } : Room)) (fun a U => a = #[(.ref a0)] ∧ Z.Warmed39 U.vm ∧ U.heap = h0) (fun _ _ _ _ _ => True) (fun _ U o U' => ∃ v L, o = .returned v ∧ Q4_5_3 Z a0 cc r1 k_r1 y0 y1 y2 h0 n0 v U'.heap L ∧ FrameEnd U o U' L ({ frames := 2, cells := 2, slots := 13, locals := 32 } : Room).cells ({ frames := 2, cells := 2, slots := 13, locals := 32 } : Room).slots) := by
 refine MetFree.of_bodySF (plainFor_of_name pn_1) hisR ?_
 intro p e s m args below meth c s₁ Bd hml0 hP hK
 obtain ⟨rfl, hZ, hh⟩ := hP
 have hx := Bd.exec
 have hby := Bd.bytes
 have hml : c.maxLocals = 6 := hml0
 have hown : s.vm.findClass own_CK = some m.cls := by have q := findClass_of_methodNamed Bd.named; exact q
 have hnm := (name_of_methodNamed Bd.named Bd.method).1
 have X0 : Stand p l e ({ frames := 2, cells := 2, slots := 13, locals := 32 } : Room) s m #[(.ref a0)] below meth c s₁ [] 0 0 := Stand.of_body Bd
 have e0 : s₁.heap = h0 := by rw [← hh, Bd.state]; rfl
 have N0 := Fr.nil n0
 have pre0 : own_P p e below s₁ (mkF m 0 #[vR a0, .unset, .unset, .unset, .unset, .unset] []) s₁ (entryFrame m #[(.ref a0)] 6) := fun t k => castTop (ef_4 m a0) k
 have pre1385 : own_P p e below s₁ (mkF m 1 #[vR a0, .unset, .unset, .unset, .unset, .unset] [(.int 5)]) s₁ (entryFrame m #[(.ref a0)] 6) := by
  intro t k
  refine pre0 t ?_
  refine XS.iconst X0.here hx rfl (hb hby d4_0) ?_
  exact k
 obtain ⟨T1386, h1386, k1386, X1386, e1386, E1386, A1386, C1386, st1386⟩ := newPE X0 hx hZ (own_w hw 0 rfl) e0 (g := (mkF m 1 #[vR a0, .unset, .unset, .unset, .unset, .unset] [(.int 5)])) rfl (hb hby d4_1) rfl (by decide) (cap := 5) (by decide) (by decide) (by decide) (by decide) (ad := "[B") rfl
 obtain ⟨b1386, g1386⟩ : ∃ z, z = h0.size := ⟨_, rfl⟩
 rw [← g1386] at A1386 C1386 st1386
 have ne_a0_b1386 : a0 ≠ b1386 := Nat.ne_of_lt (Nat.lt_of_lt_of_le (F_collection_a0).lt (Nat.le_of_eq g1386.symm))
 have ne_r1_b1386 : r1 ≠ b1386 := Nat.ne_of_lt (Nat.lt_of_lt_of_le (V_r1).lt (Nat.le_of_eq g1386.symm))
 have g_b1386 : n0 ≤ b1386 := Nat.le_trans Z0 (Nat.le_of_eq g1386.symm)
 have sz_b1386 : h0.size ≤ b1386 := Nat.le_trans (Keep.refl h0 []).1 (Nat.le_of_eq g1386.symm)
 have Z1386 : n0 ≤ h1386.size := Nat.le_trans Z0 E1386.1
 have K1386 : Keep h0 h1386 [] := (Keep.refl h0 []).ext E1386
 have Ff1387 : Fld Z h1386 a0 own_CK "collection" "I" (.int cc) := (F_collection_a0).ext E1386
 have Ff1388 : Fld Z h1386 a0 own_CK "documentKey" "[B" (.ref r1) := (F_documentKey_a0).ext E1386
 have Vf1389 : Arv Z h1386 r1 k_r1 .byte (3 : Int32) [(.int y0), (.int y1), (.int y2)] (.int 0) := (V_r1).ext E1386
 have V_b1386 : Arv Z h1386 b1386 k1386 .byte (5 : Int32) [(.int 0), (.int 0), (.int 0), (.int 0), (.int 0)] (.int 0) := (Arv.new A1386 (by decide)).pad (pad_rep [] (.int 0) 5)
 have pre1390 : own_P p e below T1386 (mkF m 3 #[vR a0, .unset, .unset, .unset, .unset, .unset] [(.ref b1386)]) s₁ (entryFrame m #[(.ref a0)] 6) := fun t k => pre1385 t (st1386 t k)
 have pre1391 : own_P p e below T1386 (mkF m 7 #[vR a0, vR b1386, vI 0, .unset, .unset, .unset] [(.ref a0)]) s₁ (entryFrame m #[(.ref a0)] 6) := by
  intro t k
  refine pre1390 t ?_
  refine XS.astoreN X1386.here hx rfl (hb hby d4_3) rfl rfl (l' := #[vR a0, vR b1386, .unset, .unset, .unset, .unset]) rfl ?_
  refine XS.iconst X1386.here hx rfl (hb hby d4_4) ?_
  refine XS.istoreN X1386.here hx rfl (hb hby d4_5) rfl (l' := #[vR a0, vR b1386, vI 0, .unset, .unset, .unset]) rfl ?_
  refine XS.aloadN X1386.here hx rfl (hb hby d4_6) rfl rfl ?_
  exact k
 obtain ⟨T1392, X1392, e1392, st1392⟩ := getF X1386 hx hZ hown (host := "") (Or.inl (own_w hw 15 rfl)) Via.refl e1386 Ff1387 (g := (mkF m 7 #[vR a0, vR b1386, vI 0, .unset, .unset, .unset] [(.ref a0)])) rfl rfl (hb hby d4_7)
 have pre1393 : own_P p e below T1392 (mkF m 10 #[vR a0, vR b1386, vI 0, .unset, .unset, .unset] [(.int cc)]) s₁ (entryFrame m #[(.ref a0)] 6) := fun t k => pre1391 t (st1392 t k)
 obtain ⟨_, _, ⟨T1394, L1394, k1394, n1394⟩, -, X1394, ⟨Lc1394, hQ1394, l1394, y1394, z1394⟩, st1394⟩ := Jvm.LawKit.callS X1392 hx (y := (⟨"java/lang/Integer", "toUnsignedLong", "(I)J"⟩ : MethodName)) hown (mvT hZ (own_w hw 24 rfl)) (mvT hZ (own_w hw 25 rfl)) (mvT hZ (own_w hw 26 rfl)) (mvT hZ (own_w hw 27 rfl)) (by decide) (backOf (W := 0) (rm5 l Z ar0 hw [] cc h1386 n0 Z1386) hZ (own_w hw 27 rfl) (own_w hw 26 rfl) (by decide) (by decide)) (g := (mkF m 10 #[vR a0, vR b1386, vI 0, .unset, .unset, .unset] [(.int cc)])) rfl (by rw [hml]; rfl) (argsL := [(.int cc)]) (rest := []) (lenOf pd_2 rfl) rfl (by show 2 * 0 + _ ≤ _; exact Nat.le_of_eq rfl) (hb hby d4_10) (fun _ _ => ⟨rfl, e1392, (by decide : 1 + 0 ≤ _), (by decide : 5 + 0 ≤ _)⟩)
 dsimp only [Pt.U, Pt.locs, Pt.cells, Pt.slots] at X1394 l1394 y1394 z1394 st1394 hQ1394
 subst l1394 y1394 z1394
 obtain ⟨rfl, N1394q, e1394⟩ := hQ1394
 have N1394 := Fr.app N0 N1394q
 have pre1395 : own_P p e below T1394 (mkF m 13 #[vR a0, vR b1386, vI 0, .unset, .unset, .unset] [(.long (own_u0 cc))]) s₁ (entryFrame m #[(.ref a0)] 6) := fun t k => pre1393 t (st1394 t k)
 have pre1396 : own_P p e below T1394 (mkF m 32 #[vR a0, vR b1386, vI 0, vJ (own_u1 cc), .second, vI (own_g0 cc)] [(.int (lcmpW (own_u1 cc) (0 : Int64))), (.int 0), (.ref b1386)]) s₁ (entryFrame m #[(.ref a0)] 6) := by
  intro t k
  refine pre1395 t ?_
  refine XS.lstoreN X1394.here hx rfl (hb hby d4_13) rfl (l' := #[vR a0, vR b1386, vI 0, vJ (own_u0 cc), .second, .unset]) rfl ?_
  refine XS.lloadN X1394.here hx rfl (hb hby d4_14) rfl ?_
  refine X1394.ldc2Long hx hown (mvT hZ (own_w hw 29 rfl)) (g := (mkF m 15 #[vR a0, vR b1386, vI 0, vJ (own_u0 cc), .second, .unset] [(.long (own_u0 cc))])) rfl (hb hby d4_15) _ ?_
  refine XS.land X1394.here hx rfl (hb hby d4_18) rfl ?_
  refine XS.l2i X1394.here hx rfl (hb hby d4_19) rfl ?_
  refine XS.istore X1394.here hx rfl (hb hby d4_20) rfl (l' := #[vR a0, vR b1386, vI 0, vJ (own_u0 cc), .second, vI (own_g0 cc)]) rfl ?_
  refine XS.lloadN X1394.here hx rfl (hb hby d4_22) rfl ?_
  refine XS.bipush X1394.here hx rfl (hb hby d4_23) ?_
  refine XS.lushr X1394.here hx rfl (hb hby d4_25) rfl ?_
  refine XS.lstoreN X1394.here hx rfl (hb hby d4_26) rfl (l' := #[vR a0, vR b1386, vI 0, vJ (own_u1 cc), .second, vI (own_g0 cc)]) rfl ?_
  refine XS.aloadN X1394.here hx rfl (hb hby d4_27) rfl rfl ?_
  refine XS.iloadN X1394.here hx rfl (hb hby d4_28) rfl ?_
  refine XS.lloadN X1394.here hx rfl (hb hby d4_29) rfl ?_
  refine XS.lconst X1394.here hx rfl (hb hby d4_30) ?_
  refine XS.lcmp X1394.here hx rfl (hb hby d4_31) rfl ?_
  exact k
 have hk1397 : ¬ ((own_u1 cc) = (0 : Int64)) := hz1
 have pre1398 : own_P p e below T1394 (mkF m 47 #[vR a0, vR b1386, vI 0, vJ (own_u1 cc), .second, vI (own_g0 cc)] [(.int (((own_g0 cc) ||| (128 : Int32)).toInt8.toInt32)), (.int 0), (.ref b1386)]) s₁ (entryFrame m #[(.ref a0)] 6) := by
  intro t k
  refine pre1396 t ?_
  refine XS.ifYes X1394.here hx rfl (pc0 := 32) (pc' := 40) rfl (hb hby d4_32) rfl ((if0 _ _).trans (feq (own_neL hk1397)).2) (by decide) (by decide) ?_
  refine XS.iload X1394.here hx rfl (hb hby d4_40) rfl ?_
  refine XS.sipush X1394.here hx rfl (hb hby d4_42) ?_
  refine XS.ior X1394.here hx rfl (hb hby d4_45) rfl ?_
  refine XS.i2b X1394.here hx rfl (hb hby d4_46) rfl ?_
  exact k
 obtain ⟨cl1399, Ar1399, q1399, S1399, M1399, H1399, G1399⟩ := id V_b1386
 have hin1399 : ¬ ((0 : Int32) < 0 ∨ cl1399.slots.size ≤ ((0 : Int32)).toNatClampNeg) := inb_of S1399 ⟨by decide, by decide⟩
 obtain ⟨T1399, h1399, X1399, e1399, W1399, st1399⟩ := stB X1394 hx hZ e1394 Ar1399 (j := (0 : Int32)) hin1399 (g := (mkF m 47 #[vR a0, vR b1386, vI 0, vJ (own_u1 cc), .second, vI (own_g0 cc)] [(.int (((own_g0 cc) ||| (128 : Int32)).toInt8.toInt32)), (.int 0), (.ref b1386)])) rfl rfl (hb hby d4_47)
 have Z1399 : n0 ≤ h1399.size := Nat.le_trans Z1386 (Keep.of_wr W1399).1
 have K1399 : Keep h0 h1399 [] := K1386.wr W1399 (Or.inr sz_b1386)
 have N1399 := Fr.snoc X1399 N1394 g_b1386
 have Ff1400 : Fld Z h1399 a0 own_CK "collection" "I" (.int cc) := (Ff1387).other W1399 (Or.inl ne_a0_b1386)
 have Ff1401 : Fld Z h1399 a0 own_CK "documentKey" "[B" (.ref r1) := (Ff1388).other W1399 (Or.inl ne_a0_b1386)
 have Vf1402 : Arv Z h1399 r1 k_r1 .byte (3 : Int32) [(.int y0), (.int y1), (.int y2)] (.int 0) := (Vf1389).other W1399 ne_r1_b1386
 have Ef1403 : Exa Z h1399 b1386 "[B" := (C1386).wr W1399
 have V1399 : Arv Z h1399 b1386 k1386 .byte (5 : Int32) [(.int (own_m0 cc)), (.int 0), (.int 0), (.int 0), (.int 0)] (.int 0) := Arv.set Ar1399 q1399 S1399 M1399 H1399 G1399 (fits_nar_byte _) W1399 0 rfl (Nat.le_of_ble_eq_true rfl)
 have pre1404 : own_P p e below T1399 (mkF m 48 #[vR a0, vR b1386, vI 0, vJ (own_u1 cc), .second, vI (own_g0 cc)] []) s₁ (entryFrame m #[(.ref a0)] 6) := fun t k => pre1398 t (st1399 t k)
 have pre1405 : own_P p e below T1399 (mkF m 32 #[vR a0, vR b1386, vI 1, vJ (own_u2 cc), .second, vI (own_g1 cc)] [(.int (lcmpW (own_u2 cc) (0 : Int64))), (.int 1), (.ref b1386)]) s₁ (entryFrame m #[(.ref a0)] 6) := by
  intro t k
  refine pre1404 t ?_
  refine XS.iinc X1399.here hx rfl (hb hby d4_48) rfl (l' := #[vR a0, vR b1386, vI 1, vJ (own_u1 cc), .second, vI (own_g0 cc)]) rfl ?_
  refine XS.lloadN X1399.here hx rfl (hb hby d4_51) rfl ?_
  refine XS.lconst X1399.here hx rfl (hb hby d4_52) ?_
  refine XS.lcmp X1399.here hx rfl (hb hby d4_53) rfl ?_
  refine XS.ifYes X1399.here hx rfl (pc0 := 54) (pc' := 14) rfl (hb hby d4_54) rfl ((if0 _ _).trans (feq (own_neL hk1397)).2) (by decide) (by decide) ?_
  refine XS.lloadN X1399.here hx rfl (hb hby d4_14) rfl ?_
  refine X1399.ldc2Long hx hown (mvT hZ (own_w hw 29 rfl)) (g := (mkF m 15 #[vR a0, vR b1386, vI 1, vJ (own_u1 cc), .second, vI (own_g0 cc)] [(.long (own_u1 cc))])) rfl (hb hby d4_15) _ ?_
  refine XS.land X1399.here hx rfl (hb hby d4_18) rfl ?_
  refine XS.l2i X1399.here hx rfl (hb hby d4_19) rfl ?_
  refine XS.istore X1399.here hx rfl (hb hby d4_20) rfl (l' := #[vR a0, vR b1386, vI 1, vJ (own_u1 cc), .second, vI (own_g1 cc)]) rfl ?_
  refine XS.lloadN X1399.here hx rfl (hb hby d4_22) rfl ?_
  refine XS.bipush X1399.here hx rfl (hb hby d4_23) ?_
  refine XS.lushr X1399.here hx rfl (hb hby d4_25) rfl ?_
  refine XS.lstoreN X1399.here hx rfl (hb hby d4_26) rfl (l' := #[vR a0, vR b1386, vI 1, vJ (own_u2 cc), .second, vI (own_g1 cc)]) rfl ?_
  refine XS.aloadN X1399.here hx rfl (hb hby d4_27) rfl rfl ?_
  refine XS.iloadN X1399.here hx rfl (hb hby d4_28) rfl ?_
  refine XS.lloadN X1399.here hx rfl (hb hby d4_29) rfl ?_
  refine XS.lconst X1399.here hx rfl (hb hby d4_30) ?_
  refine XS.lcmp X1399.here hx rfl (hb hby d4_31) rfl ?_
  exact k
 have hk1406 : ¬ ((own_u2 cc) = (0 : Int64)) := hz2
 have pre1407 : own_P p e below T1399 (mkF m 47 #[vR a0, vR b1386, vI 1, vJ (own_u2 cc), .second, vI (own_g1 cc)] [(.int (((own_g1 cc) ||| (128 : Int32)).toInt8.toInt32)), (.int 1), (.ref b1386)]) s₁ (entryFrame m #[(.ref a0)] 6) := by
  intro t k
  refine pre1405 t ?_
  refine XS.ifYes X1399.here hx rfl (pc0 := 32) (pc' := 40) rfl (hb hby d4_32) rfl ((if0 _ _).trans (feq (own_neL hk1406)).2) (by decide) (by decide) ?_
  refine XS.iload X1399.here hx rfl (hb hby d4_40) rfl ?_
  refine XS.sipush X1399.here hx rfl (hb hby d4_42) ?_
  refine XS.ior X1399.here hx rfl (hb hby d4_45) rfl ?_
  refine XS.i2b X1399.here hx rfl (hb hby d4_46) rfl ?_
  exact k
 obtain ⟨cl1408, Ar1408, q1408, S1408, M1408, H1408, G1408⟩ := id V1399
 have hin1408 : ¬ ((1 : Int32) < 0 ∨ cl1408.slots.size ≤ ((1 : Int32)).toNatClampNeg) := inb_of S1408 ⟨by decide, by decide⟩
 obtain ⟨T1408, h1408, X1408, e1408, W1408, st1408⟩ := stB X1399 hx hZ e1399 Ar1408 (j := (1 : Int32)) hin1408 (g := (mkF m 47 #[vR a0, vR b1386, vI 1, vJ (own_u2 cc), .second, vI (own_g1 cc)] [(.int (((own_g1 cc) ||| (128 : Int32)).toInt8.toInt32)), (.int 1), (.ref b1386)])) rfl rfl (hb hby d4_47)
 have Z1408 : n0 ≤ h1408.size := Nat.le_trans Z1399 (Keep.of_wr W1408).1
 have K1408 : Keep h0 h1408 [] := K1399.wr W1408 (Or.inr sz_b1386)
 have N1408 := Fr.snoc X1408 N1399 g_b1386
 have Ff1409 : Fld Z h1408 a0 own_CK "collection" "I" (.int cc) := (Ff1400).other W1408 (Or.inl ne_a0_b1386)
 have Ff1410 : Fld Z h1408 a0 own_CK "documentKey" "[B" (.ref r1) := (Ff1401).other W1408 (Or.inl ne_a0_b1386)
 have Vf1411 : Arv Z h1408 r1 k_r1 .byte (3 : Int32) [(.int y0), (.int y1), (.int y2)] (.int 0) := (Vf1402).other W1408 ne_r1_b1386
 have Ef1412 : Exa Z h1408 b1386 "[B" := (Ef1403).wr W1408
 have V1408 : Arv Z h1408 b1386 k1386 .byte (5 : Int32) [(.int (own_m0 cc)), (.int (own_m1 cc)), (.int 0), (.int 0), (.int 0)] (.int 0) := Arv.set Ar1408 q1408 S1408 M1408 H1408 G1408 (fits_nar_byte _) W1408 1 rfl (Nat.le_of_ble_eq_true rfl)
 have pre1413 : own_P p e below T1408 (mkF m 48 #[vR a0, vR b1386, vI 1, vJ (own_u2 cc), .second, vI (own_g1 cc)] []) s₁ (entryFrame m #[(.ref a0)] 6) := fun t k => pre1407 t (st1408 t k)
 have pre1414 : own_P p e below T1408 (mkF m 32 #[vR a0, vR b1386, vI 2, vJ (own_u3 cc), .second, vI (own_g2 cc)] [(.int (lcmpW (own_u3 cc) (0 : Int64))), (.int 2), (.ref b1386)]) s₁ (entryFrame m #[(.ref a0)] 6) := by
  intro t k
  refine pre1413 t ?_
  refine XS.iinc X1408.here hx rfl (hb hby d4_48) rfl (l' := #[vR a0, vR b1386, vI 2, vJ (own_u2 cc), .second, vI (own_g1 cc)]) rfl ?_
  refine XS.lloadN X1408.here hx rfl (hb hby d4_51) rfl ?_
  refine XS.lconst X1408.here hx rfl (hb hby d4_52) ?_
  refine XS.lcmp X1408.here hx rfl (hb hby d4_53) rfl ?_
  refine XS.ifYes X1408.here hx rfl (pc0 := 54) (pc' := 14) rfl (hb hby d4_54) rfl ((if0 _ _).trans (feq (own_neL hk1406)).2) (by decide) (by decide) ?_
  refine XS.lloadN X1408.here hx rfl (hb hby d4_14) rfl ?_
  refine X1408.ldc2Long hx hown (mvT hZ (own_w hw 29 rfl)) (g := (mkF m 15 #[vR a0, vR b1386, vI 2, vJ (own_u2 cc), .second, vI (own_g1 cc)] [(.long (own_u2 cc))])) rfl (hb hby d4_15) _ ?_
  refine XS.land X1408.here hx rfl (hb hby d4_18) rfl ?_
  refine XS.l2i X1408.here hx rfl (hb hby d4_19) rfl ?_
  refine XS.istore X1408.here hx rfl (hb hby d4_20) rfl (l' := #[vR a0, vR b1386, vI 2, vJ (own_u2 cc), .second, vI (own_g2 cc)]) rfl ?_
  refine XS.lloadN X1408.here hx rfl (hb hby d4_22) rfl ?_
  refine XS.bipush X1408.here hx rfl (hb hby d4_23) ?_
  refine XS.lushr X1408.here hx rfl (hb hby d4_25) rfl ?_
  refine XS.lstoreN X1408.here hx rfl (hb hby d4_26) rfl (l' := #[vR a0, vR b1386, vI 2, vJ (own_u3 cc), .second, vI (own_g2 cc)]) rfl ?_
  refine XS.aloadN X1408.here hx rfl (hb hby d4_27) rfl rfl ?_
  refine XS.iloadN X1408.here hx rfl (hb hby d4_28) rfl ?_
  refine XS.lloadN X1408.here hx rfl (hb hby d4_29) rfl ?_
  refine XS.lconst X1408.here hx rfl (hb hby d4_30) ?_
  refine XS.lcmp X1408.here hx rfl (hb hby d4_31) rfl ?_
  exact k
 have hk1415 : ¬ ((own_u3 cc) = (0 : Int64)) := hz3
 have pre1416 : own_P p e below T1408 (mkF m 47 #[vR a0, vR b1386, vI 2, vJ (own_u3 cc), .second, vI (own_g2 cc)] [(.int (((own_g2 cc) ||| (128 : Int32)).toInt8.toInt32)), (.int 2), (.ref b1386)]) s₁ (entryFrame m #[(.ref a0)] 6) := by
  intro t k
  refine pre1414 t ?_
  refine XS.ifYes X1408.here hx rfl (pc0 := 32) (pc' := 40) rfl (hb hby d4_32) rfl ((if0 _ _).trans (feq (own_neL hk1415)).2) (by decide) (by decide) ?_
  refine XS.iload X1408.here hx rfl (hb hby d4_40) rfl ?_
  refine XS.sipush X1408.here hx rfl (hb hby d4_42) ?_
  refine XS.ior X1408.here hx rfl (hb hby d4_45) rfl ?_
  refine XS.i2b X1408.here hx rfl (hb hby d4_46) rfl ?_
  exact k
 obtain ⟨cl1417, Ar1417, q1417, S1417, M1417, H1417, G1417⟩ := id V1408
 have hin1417 : ¬ ((2 : Int32) < 0 ∨ cl1417.slots.size ≤ ((2 : Int32)).toNatClampNeg) := inb_of S1417 ⟨by decide, by decide⟩
 obtain ⟨T1417, h1417, X1417, e1417, W1417, st1417⟩ := stB X1408 hx hZ e1408 Ar1417 (j := (2 : Int32)) hin1417 (g := (mkF m 47 #[vR a0, vR b1386, vI 2, vJ (own_u3 cc), .second, vI (own_g2 cc)] [(.int (((own_g2 cc) ||| (128 : Int32)).toInt8.toInt32)), (.int 2), (.ref b1386)])) rfl rfl (hb hby d4_47)
 have Z1417 : n0 ≤ h1417.size := Nat.le_trans Z1408 (Keep.of_wr W1417).1
 have K1417 : Keep h0 h1417 [] := K1408.wr W1417 (Or.inr sz_b1386)
 have N1417 := Fr.snoc X1417 N1408 g_b1386
 have Ff1418 : Fld Z h1417 a0 own_CK "collection" "I" (.int cc) := (Ff1409).other W1417 (Or.inl ne_a0_b1386)
 have Ff1419 : Fld Z h1417 a0 own_CK "documentKey" "[B" (.ref r1) := (Ff1410).other W1417 (Or.inl ne_a0_b1386)
 have Vf1420 : Arv Z h1417 r1 k_r1 .byte (3 : Int32) [(.int y0), (.int y1), (.int y2)] (.int 0) := (Vf1411).other W1417 ne_r1_b1386
 have Ef1421 : Exa Z h1417 b1386 "[B" := (Ef1412).wr W1417
 have V1417 : Arv Z h1417 b1386 k1386 .byte (5 : Int32) [(.int (own_m0 cc)), (.int (own_m1 cc)), (.int (own_m2 cc)), (.int 0), (.int 0)] (.int 0) := Arv.set Ar1417 q1417 S1417 M1417 H1417 G1417 (fits_nar_byte _) W1417 2 rfl (Nat.le_of_ble_eq_true rfl)
 have pre1422 : own_P p e below T1417 (mkF m 48 #[vR a0, vR b1386, vI 2, vJ (own_u3 cc), .second, vI (own_g2 cc)] []) s₁ (entryFrame m #[(.ref a0)] 6) := fun t k => pre1416 t (st1417 t k)
 have pre1423 : own_P p e below T1417 (mkF m 32 #[vR a0, vR b1386, vI 3, vJ (own_u4 cc), .second, vI (own_g3 cc)] [(.int (lcmpW (own_u4 cc) (0 : Int64))), (.int 3), (.ref b1386)]) s₁ (entryFrame m #[(.ref a0)] 6) := by
  intro t k
  refine pre1422 t ?_
  refine XS.iinc X1417.here hx rfl (hb hby d4_48) rfl (l' := #[vR a0, vR b1386, vI 3, vJ (own_u3 cc), .second, vI (own_g2 cc)]) rfl ?_
  refine XS.lloadN X1417.here hx rfl (hb hby d4_51) rfl ?_
  refine XS.lconst X1417.here hx rfl (hb hby d4_52) ?_
  refine XS.lcmp X1417.here hx rfl (hb hby d4_53) rfl ?_
  refine XS.ifYes X1417.here hx rfl (pc0 := 54) (pc' := 14) rfl (hb hby d4_54) rfl ((if0 _ _).trans (feq (own_neL hk1415)).2) (by decide) (by decide) ?_
  refine XS.lloadN X1417.here hx rfl (hb hby d4_14) rfl ?_
  refine X1417.ldc2Long hx hown (mvT hZ (own_w hw 29 rfl)) (g := (mkF m 15 #[vR a0, vR b1386, vI 3, vJ (own_u3 cc), .second, vI (own_g2 cc)] [(.long (own_u3 cc))])) rfl (hb hby d4_15) _ ?_
  refine XS.land X1417.here hx rfl (hb hby d4_18) rfl ?_
  refine XS.l2i X1417.here hx rfl (hb hby d4_19) rfl ?_
  refine XS.istore X1417.here hx rfl (hb hby d4_20) rfl (l' := #[vR a0, vR b1386, vI 3, vJ (own_u3 cc), .second, vI (own_g3 cc)]) rfl ?_
  refine XS.lloadN X1417.here hx rfl (hb hby d4_22) rfl ?_
  refine XS.bipush X1417.here hx rfl (hb hby d4_23) ?_
  refine XS.lushr X1417.here hx rfl (hb hby d4_25) rfl ?_
  refine XS.lstoreN X1417.here hx rfl (hb hby d4_26) rfl (l' := #[vR a0, vR b1386, vI 3, vJ (own_u4 cc), .second, vI (own_g3 cc)]) rfl ?_
  refine XS.aloadN X1417.here hx rfl (hb hby d4_27) rfl rfl ?_
  refine XS.iloadN X1417.here hx rfl (hb hby d4_28) rfl ?_
  refine XS.lloadN X1417.here hx rfl (hb hby d4_29) rfl ?_
  refine XS.lconst X1417.here hx rfl (hb hby d4_30) ?_
  refine XS.lcmp X1417.here hx rfl (hb hby d4_31) rfl ?_
  exact k
 have hk1424 : ¬ ((own_u4 cc) = (0 : Int64)) := hz4
 have pre1425 : own_P p e below T1417 (mkF m 47 #[vR a0, vR b1386, vI 3, vJ (own_u4 cc), .second, vI (own_g3 cc)] [(.int (((own_g3 cc) ||| (128 : Int32)).toInt8.toInt32)), (.int 3), (.ref b1386)]) s₁ (entryFrame m #[(.ref a0)] 6) := by
  intro t k
  refine pre1423 t ?_
  refine XS.ifYes X1417.here hx rfl (pc0 := 32) (pc' := 40) rfl (hb hby d4_32) rfl ((if0 _ _).trans (feq (own_neL hk1424)).2) (by decide) (by decide) ?_
  refine XS.iload X1417.here hx rfl (hb hby d4_40) rfl ?_
  refine XS.sipush X1417.here hx rfl (hb hby d4_42) ?_
  refine XS.ior X1417.here hx rfl (hb hby d4_45) rfl ?_
  refine XS.i2b X1417.here hx rfl (hb hby d4_46) rfl ?_
  exact k
 obtain ⟨cl1426, Ar1426, q1426, S1426, M1426, H1426, G1426⟩ := id V1417
 have hin1426 : ¬ ((3 : Int32) < 0 ∨ cl1426.slots.size ≤ ((3 : Int32)).toNatClampNeg) := inb_of S1426 ⟨by decide, by decide⟩
 obtain ⟨T1426, h1426, X1426, e1426, W1426, st1426⟩ := stB X1417 hx hZ e1417 Ar1426 (j := (3 : Int32)) hin1426 (g := (mkF m 47 #[vR a0, vR b1386, vI 3, vJ (own_u4 cc), .second, vI (own_g3 cc)] [(.int (((own_g3 cc) ||| (128 : Int32)).toInt8.toInt32)), (.int 3), (.ref b1386)])) rfl rfl (hb hby d4_47)
 have Z1426 : n0 ≤ h1426.size := Nat.le_trans Z1417 (Keep.of_wr W1426).1
 have K1426 : Keep h0 h1426 [] := K1417.wr W1426 (Or.inr sz_b1386)
 have N1426 := Fr.snoc X1426 N1417 g_b1386
 have Ff1427 : Fld Z h1426 a0 own_CK "collection" "I" (.int cc) := (Ff1418).other W1426 (Or.inl ne_a0_b1386)
 have Ff1428 : Fld Z h1426 a0 own_CK "documentKey" "[B" (.ref r1) := (Ff1419).other W1426 (Or.inl ne_a0_b1386)
 have Vf1429 : Arv Z h1426 r1 k_r1 .byte (3 : Int32) [(.int y0), (.int y1), (.int y2)] (.int 0) := (Vf1420).other W1426 ne_r1_b1386
 have Ef1430 : Exa Z h1426 b1386 "[B" := (Ef1421).wr W1426
 have V1426 : Arv Z h1426 b1386 k1386 .byte (5 : Int32) [(.int (own_m0 cc)), (.int (own_m1 cc)), (.int (own_m2 cc)), (.int (own_m3 cc)), (.int 0)] (.int 0) := Arv.set Ar1426 q1426 S1426 M1426 H1426 G1426 (fits_nar_byte _) W1426 3 rfl (Nat.le_of_ble_eq_true rfl)
 have pre1431 : own_P p e below T1426 (mkF m 48 #[vR a0, vR b1386, vI 3, vJ (own_u4 cc), .second, vI (own_g3 cc)] []) s₁ (entryFrame m #[(.ref a0)] 6) := fun t k => pre1425 t (st1426 t k)
 have pre1432 : own_P p e below T1426 (mkF m 32 #[vR a0, vR b1386, vI 4, vJ (own_u5 cc), .second, vI (own_g4 cc)] [(.int (lcmpW (own_u5 cc) (0 : Int64))), (.int 4), (.ref b1386)]) s₁ (entryFrame m #[(.ref a0)] 6) := by
  intro t k
  refine pre1431 t ?_
  refine XS.iinc X1426.here hx rfl (hb hby d4_48) rfl (l' := #[vR a0, vR b1386, vI 4, vJ (own_u4 cc), .second, vI (own_g3 cc)]) rfl ?_
  refine XS.lloadN X1426.here hx rfl (hb hby d4_51) rfl ?_
  refine XS.lconst X1426.here hx rfl (hb hby d4_52) ?_
  refine XS.lcmp X1426.here hx rfl (hb hby d4_53) rfl ?_
  refine XS.ifYes X1426.here hx rfl (pc0 := 54) (pc' := 14) rfl (hb hby d4_54) rfl ((if0 _ _).trans (feq (own_neL hk1424)).2) (by decide) (by decide) ?_
  refine XS.lloadN X1426.here hx rfl (hb hby d4_14) rfl ?_
  refine X1426.ldc2Long hx hown (mvT hZ (own_w hw 29 rfl)) (g := (mkF m 15 #[vR a0, vR b1386, vI 4, vJ (own_u4 cc), .second, vI (own_g3 cc)] [(.long (own_u4 cc))])) rfl (hb hby d4_15) _ ?_
  refine XS.land X1426.here hx rfl (hb hby d4_18) rfl ?_
  refine XS.l2i X1426.here hx rfl (hb hby d4_19) rfl ?_
  refine XS.istore X1426.here hx rfl (hb hby d4_20) rfl (l' := #[vR a0, vR b1386, vI 4, vJ (own_u4 cc), .second, vI (own_g4 cc)]) rfl ?_
  refine XS.lloadN X1426.here hx rfl (hb hby d4_22) rfl ?_
  refine XS.bipush X1426.here hx rfl (hb hby d4_23) ?_
  refine XS.lushr X1426.here hx rfl (hb hby d4_25) rfl ?_
  refine XS.lstoreN X1426.here hx rfl (hb hby d4_26) rfl (l' := #[vR a0, vR b1386, vI 4, vJ (own_u5 cc), .second, vI (own_g4 cc)]) rfl ?_
  refine XS.aloadN X1426.here hx rfl (hb hby d4_27) rfl rfl ?_
  refine XS.iloadN X1426.here hx rfl (hb hby d4_28) rfl ?_
  refine XS.lloadN X1426.here hx rfl (hb hby d4_29) rfl ?_
  refine XS.lconst X1426.here hx rfl (hb hby d4_30) ?_
  refine XS.lcmp X1426.here hx rfl (hb hby d4_31) rfl ?_
  exact k
 have hk1433 : (own_u5 cc) = (0 : Int64) := hz5
 have pre1434 : own_P p e below T1426 (mkF m 47 #[vR a0, vR b1386, vI 4, vJ (own_u5 cc), .second, vI (own_g4 cc)] [(.int ((own_g4 cc).toInt8.toInt32)), (.int 4), (.ref b1386)]) s₁ (entryFrame m #[(.ref a0)] 6) := by
  intro t k
  refine pre1432 t ?_
  refine XS.ifNo X1426.here hx rfl (hb hby d4_32) rfl ((if0 _ _).trans (teq (own_eqL hk1433)).2) ?_
  refine XS.iload X1426.here hx rfl (hb hby d4_35) rfl ?_
  refine XS.goto X1426.here hx rfl (pc0 := 37) (pc' := 46) rfl (hb hby d4_37) (by decide) (by decide) ?_
  refine XS.i2b X1426.here hx rfl (hb hby d4_46) rfl ?_
  exact k
 obtain ⟨cl1435, Ar1435, q1435, S1435, M1435, H1435, G1435⟩ := id V1426
 have hin1435 : ¬ ((4 : Int32) < 0 ∨ cl1435.slots.size ≤ ((4 : Int32)).toNatClampNeg) := inb_of S1435 ⟨by decide, by decide⟩
 obtain ⟨T1435, h1435, X1435, e1435, W1435, st1435⟩ := stB X1426 hx hZ e1426 Ar1435 (j := (4 : Int32)) hin1435 (g := (mkF m 47 #[vR a0, vR b1386, vI 4, vJ (own_u5 cc), .second, vI (own_g4 cc)] [(.int ((own_g4 cc).toInt8.toInt32)), (.int 4), (.ref b1386)])) rfl rfl (hb hby d4_47)
 have Z1435 : n0 ≤ h1435.size := Nat.le_trans Z1426 (Keep.of_wr W1435).1
 have K1435 : Keep h0 h1435 [] := K1426.wr W1435 (Or.inr sz_b1386)
 have N1435 := Fr.snoc X1435 N1426 g_b1386
 have Ff1436 : Fld Z h1435 a0 own_CK "collection" "I" (.int cc) := (Ff1427).other W1435 (Or.inl ne_a0_b1386)
 have Ff1437 : Fld Z h1435 a0 own_CK "documentKey" "[B" (.ref r1) := (Ff1428).other W1435 (Or.inl ne_a0_b1386)
 have Vf1438 : Arv Z h1435 r1 k_r1 .byte (3 : Int32) [(.int y0), (.int y1), (.int y2)] (.int 0) := (Vf1429).other W1435 ne_r1_b1386
 have Ef1439 : Exa Z h1435 b1386 "[B" := (Ef1430).wr W1435
 have V1435 : Arv Z h1435 b1386 k1386 .byte (5 : Int32) [(.int (own_m0 cc)), (.int (own_m1 cc)), (.int (own_m2 cc)), (.int (own_m3 cc)), (.int (own_l4 cc))] (.int 0) := Arv.set Ar1435 q1435 S1435 M1435 H1435 G1435 (fits_nar_byte _) W1435 4 rfl (Nat.le_of_ble_eq_true rfl)
 have pre1440 : own_P p e below T1435 (mkF m 48 #[vR a0, vR b1386, vI 4, vJ (own_u5 cc), .second, vI (own_g4 cc)] []) s₁ (entryFrame m #[(.ref a0)] 6) := fun t k => pre1434 t (st1435 t k)
 have pre1441 : own_P p e below T1435 (mkF m 60 #[vR a0, vR b1386, vI 5, vJ (own_u5 cc), .second, vI (own_g4 cc)] [(.ref a0), (.int 5), (.ref b1386)]) s₁ (entryFrame m #[(.ref a0)] 6) := by
  intro t k
  refine pre1440 t ?_
  refine XS.iinc X1435.here hx rfl (hb hby d4_48) rfl (l' := #[vR a0, vR b1386, vI 5, vJ (own_u5 cc), .second, vI (own_g4 cc)]) rfl ?_
  refine XS.lloadN X1435.here hx rfl (hb hby d4_51) rfl ?_
  refine XS.lconst X1435.here hx rfl (hb hby d4_52) ?_
  refine XS.lcmp X1435.here hx rfl (hb hby d4_53) rfl ?_
  refine XS.ifNo X1435.here hx rfl (hb hby d4_54) rfl ((if0 _ _).trans (teq (own_eqL hk1433)).2) ?_
  refine XS.aloadN X1435.here hx rfl (hb hby d4_57) rfl rfl ?_
  refine XS.iloadN X1435.here hx rfl (hb hby d4_58) rfl ?_
  refine XS.aloadN X1435.here hx rfl (hb hby d4_59) rfl rfl ?_
  exact k
 obtain ⟨T1442, X1442, e1442, st1442⟩ := getF X1435 hx hZ hown (host := "") (Or.inl (own_w hw 17 rfl)) Via.refl e1435 Ff1437 (g := (mkF m 60 #[vR a0, vR b1386, vI 5, vJ (own_u5 cc), .second, vI (own_g4 cc)] [(.ref a0), (.int 5), (.ref b1386)])) rfl rfl (hb hby d4_60)
 have pre1443 : own_P p e below T1442 (mkF m 63 #[vR a0, vR b1386, vI 5, vJ (own_u5 cc), .second, vI (own_g4 cc)] [(.ref r1), (.int 5), (.ref b1386)]) s₁ (entryFrame m #[(.ref a0)] 6) := fun t k => pre1441 t (st1442 t k)
 obtain ⟨cl1444, Ar1444, q1444, S1444, M1444, H1444, G1444⟩ := id Vf1438
 have pre1445 : own_P p e below T1442 (mkF m 65 #[vR a0, vR b1386, vI 5, vJ (own_u5 cc), .second, vI (own_g4 cc)] [(.int 8), (.ref b1386)]) s₁ (entryFrame m #[(.ref a0)] 6) := by
  intro t k
  refine pre1443 t ?_
  refine X1442.arraylength hx (by rw [e1442]; exact Ar1444.1) (State.isArrayOf_alike hZ.alike Ar1444.2.1) (g := (mkF m 63 #[vR a0, vR b1386, vI 5, vJ (own_u5 cc), .second, vI (own_g4 cc)] [(.ref r1), (.int 5), (.ref b1386)])) rfl rfl (hb hby d4_63) _ ?_
  rw [len_of S1444 M1444]
  refine XS.iadd X1442.here hx rfl (hb hby d4_64) rfl ?_
  exact k
 obtain ⟨_, _, ⟨T1446, L1446, k1446, n1446⟩, -, X1446, ⟨Lc1446, hQ1446, l1446, y1446, z1446⟩, st1446⟩ := Jvm.LawKit.callS X1442 hx (y := (⟨"java/util/Arrays", "copyOf", "([BI)[B"⟩ : MethodName)) hown (mvT hZ (own_w hw 30 rfl)) (mvT hZ (own_w hw 31 rfl)) (mvT hZ (own_w hw 32 rfl)) (mvT hZ (own_w hw 33 rfl)) (by decide) (backOf (W := 0) (rm6_8 l Z ar0 hw [] b1386 k1386 (own_m0 cc) (own_m1 cc) (own_m2 cc) (own_m3 cc) (own_l4 cc) h1435 n0 Z1435 V1435 Ef1439) hZ (own_w hw 33 rfl) (own_w hw 32 rfl) (by decide) (by decide)) (g := (mkF m 65 #[vR a0, vR b1386, vI 5, vJ (own_u5 cc), .second, vI (own_g4 cc)] [(.int 8), (.ref b1386)])) rfl (by rw [hml]; rfl) (argsL := [(.ref b1386), (.int 8)]) (rest := []) (lenOf pd_3 rfl) rfl (by show 2 * 0 + _ ≤ _; exact Nat.le_of_eq rfl) (hb hby d4_65) (fun _ _ => ⟨rfl, e1442, (by decide : 1 + 1 ≤ _), (by decide : 5 + 8 ≤ _)⟩)
 dsimp only [Pt.U, Pt.locs, Pt.cells, Pt.slots] at X1446 l1446 y1446 z1446 st1446 hQ1446
 subst l1446 y1446 z1446
 obtain ⟨h1446, e1446⟩ : ∃ h, T1446.heap = h := ⟨_, rfl⟩
 rw [e1446] at hQ1446
 obtain ⟨b1446, kb1446, rfl, N1446q, K1446q, y_b1446, Ob1446_0, Ob1446_1⟩ := hQ1446
 have N1446 := Fr.app N1435 N1446q
 have ne_a0_b1446 : a0 ≠ b1446 := Nat.ne_of_lt (Nat.lt_of_lt_of_le (Ff1436).lt y_b1446)
 have ne_r1_b1446 : r1 ≠ b1446 := Nat.ne_of_lt (Nat.lt_of_lt_of_le (Vf1438).lt y_b1446)
 have ne_b1386_b1446 : b1386 ≠ b1446 := Nat.ne_of_lt (Nat.lt_of_lt_of_le (Ef1439).lt y_b1446)
 have g_b1446 : n0 ≤ b1446 := Nat.le_trans Z1435 y_b1446
 have sz_b1446 : h0.size ≤ b1446 := Nat.le_trans K1435.1 y_b1446
 have Z1446 : n0 ≤ h1446.size := Nat.le_trans Z1435 K1446q.1
 have K1446 : Keep h0 h1446 [] := K1435.trans K1446q (fun x hx => absurd hx List.not_mem_nil)
 have Ff1447 : Fld Z h1446 a0 own_CK "collection" "I" (.int cc) := (Ff1436).keep K1446q List.not_mem_nil
 have Ff1448 : Fld Z h1446 a0 own_CK "documentKey" "[B" (.ref r1) := (Ff1437).keep K1446q List.not_mem_nil
 have Vf1449 : Arv Z h1446 r1 k_r1 .byte (3 : Int32) [(.int y0), (.int y1), (.int y2)] (.int 0) := (Vf1438).keep K1446q List.not_mem_nil
 have Ef1450 : Exa Z h1446 b1386 "[B" := (Ef1439).keep K1446q
 have Vf1451 : Arv Z h1446 b1386 k1386 .byte (5 : Int32) [(.int (own_m0 cc)), (.int (own_m1 cc)), (.int (own_m2 cc)), (.int (own_m3 cc)), (.int (own_l4 cc))] (.int 0) := (V1435).keep K1446q List.not_mem_nil
 have pre1452 : own_P p e below T1446 (mkF m 68 #[vR a0, vR b1386, vI 5, vJ (own_u5 cc), .second, vI (own_g4 cc)] [(.ref b1446)]) s₁ (entryFrame m #[(.ref a0)] 6) := fun t k => pre1445 t (st1446 t k)
 have pre1453 : own_P p e below T1446 (mkF m 71 #[vR a0, vR b1386, vI 5, vJ (own_u5 cc), .second, vR b1446] [(.ref a0)]) s₁ (entryFrame m #[(.ref a0)] 6) := by
  intro t k
  refine pre1452 t ?_
  refine XS.astore X1446.here hx rfl (hb hby d4_68) rfl rfl (l' := #[vR a0, vR b1386, vI 5, vJ (own_u5 cc), .second, vR b1446]) rfl ?_
  refine XS.aloadN X1446.here hx rfl (hb hby d4_70) rfl rfl ?_
  exact k
 obtain ⟨T1454, X1454, e1454, st1454⟩ := getF X1446 hx hZ hown (host := "") (Or.inl (own_w hw 17 rfl)) Via.refl e1446 Ff1448 (g := (mkF m 71 #[vR a0, vR b1386, vI 5, vJ (own_u5 cc), .second, vR b1446] [(.ref a0)])) rfl rfl (hb hby d4_71)
 have pre1455 : own_P p e below T1454 (mkF m 74 #[vR a0, vR b1386, vI 5, vJ (own_u5 cc), .second, vR b1446] [(.ref r1)]) s₁ (entryFrame m #[(.ref a0)] 6) := fun t k => pre1453 t (st1454 t k)
 have pre1456 : own_P p e below T1454 (mkF m 79 #[vR a0, vR b1386, vI 5, vJ (own_u5 cc), .second, vR b1446] [(.ref a0), (.int 5), (.ref b1446), (.int 0), (.ref r1)]) s₁ (entryFrame m #[(.ref a0)] 6) := by
  intro t k
  refine pre1455 t ?_
  refine XS.iconst X1454.here hx rfl (hb hby d4_74) ?_
  refine XS.aload X1454.here hx rfl (hb hby d4_75) rfl rfl ?_
  refine XS.iloadN X1454.here hx rfl (hb hby d4_77) rfl ?_
  refine XS.aloadN X1454.here hx rfl (hb hby d4_78) rfl rfl ?_
  exact k
 obtain ⟨T1457, X1457, e1457, st1457⟩ := getF X1454 hx hZ hown (host := "") (Or.inl (own_w hw 17 rfl)) Via.refl e1454 Ff1448 (g := (mkF m 79 #[vR a0, vR b1386, vI 5, vJ (own_u5 cc), .second, vR b1446] [(.ref a0), (.int 5), (.ref b1446), (.int 0), (.ref r1)])) rfl rfl (hb hby d4_79)
 have pre1458 : own_P p e below T1457 (mkF m 82 #[vR a0, vR b1386, vI 5, vJ (own_u5 cc), .second, vR b1446] [(.ref r1), (.int 5), (.ref b1446), (.int 0), (.ref r1)]) s₁ (entryFrame m #[(.ref a0)] 6) := fun t k => pre1456 t (st1457 t k)
 obtain ⟨cl1459, Ar1459, q1459, S1459, M1459, H1459, G1459⟩ := id Vf1449
 have pre1460 : own_P p e below T1457 (mkF m 83 #[vR a0, vR b1386, vI 5, vJ (own_u5 cc), .second, vR b1446] [(.int 3), (.int 5), (.ref b1446), (.int 0), (.ref r1)]) s₁ (entryFrame m #[(.ref a0)] 6) := by
  intro t k
  refine pre1458 t ?_
  refine X1457.arraylength hx (by rw [e1457]; exact Ar1459.1) (State.isArrayOf_alike hZ.alike Ar1459.2.1) (g := (mkF m 82 #[vR a0, vR b1386, vI 5, vJ (own_u5 cc), .second, vR b1446] [(.ref r1), (.int 5), (.ref b1446), (.int 0), (.ref r1)])) rfl rfl (hb hby d4_82) _ ?_
  rw [len_of S1459 M1459]
  exact k
 obtain ⟨T1461, h1461, L1461, X1461, e1461, N1461, K1461q, V1461q, st1461⟩ := cpA X1457 hx hZ hown (own_w hw 42 rfl) (own_w hw 41 rfl) (own_w hw 39 rfl) (own_w hw 40 rfl) e1457 Vf1449 Ob1446_1 (Or.inl ⟨rfl, rfl⟩) (by decide) (by decide) (by decide) (by decide) (by decide) (us := [(.int y0), (.int y1), (.int y2)]) rfl (Nat.le_of_ble_eq_true rfl) N1446 g_b1446 (g := (mkF m 83 #[vR a0, vR b1386, vI 5, vJ (own_u5 cc), .second, vR b1446] [(.int 3), (.int 5), (.ref b1446), (.int 0), (.ref r1)])) rfl (by rw [hml]; rfl) rfl (hb hby d4_83) (by decide) (W := 0) (by show 2 * 0 + _ ≤ _; exact Nat.le_of_eq rfl) (by decide)
 have Z1461 : n0 ≤ h1461.size := Nat.le_trans Z1446 K1461q.1
 have K1461 : Keep h0 h1461 [] := K1446.trans K1461q (fun x hx => by cases List.mem_singleton.mp hx; exact Or.inr sz_b1446)
 have Ff1462 : Fld Z h1461 a0 own_CK "collection" "I" (.int cc) := (Ff1447).keep K1461q (fun q => absurd (List.mem_singleton.mp q) ne_a0_b1446)
 have Ff1463 : Fld Z h1461 a0 own_CK "documentKey" "[B" (.ref r1) := (Ff1448).keep K1461q (fun q => absurd (List.mem_singleton.mp q) ne_a0_b1446)
 have Vf1464 : Arv Z h1461 r1 k_r1 .byte (3 : Int32) [(.int y0), (.int y1), (.int y2)] (.int 0) := (Vf1449).keep K1461q (fun q => absurd (List.mem_singleton.mp q) ne_r1_b1446)
 have Ef1465 : Exa Z h1461 b1386 "[B" := (Ef1450).keep K1461q
 have Vf1466 : Arv Z h1461 b1386 k1386 .byte (5 : Int32) [(.int (own_m0 cc)), (.int (own_m1 cc)), (.int (own_m2 cc)), (.int (own_m3 cc)), (.int (own_l4 cc))] (.int 0) := (Vf1451).keep K1461q (fun q => absurd (List.mem_singleton.mp q) ne_b1386_b1446)
 have Ef1467 : Exa Z h1461 b1446 "[B" := (Ob1446_0).keep K1461q
 have V1461 : Arv Z h1461 b1446 kb1446 .byte (8 : Int32) [(.int (own_m0 cc)), (.int (own_m1 cc)), (.int (own_m2 cc)), (.int (own_m3 cc)), (.int (own_l4 cc)), (.int y0), (.int y1), (.int y2)] (.int 0) := V1461q
 have pre1468 : own_P p e below T1461 (mkF m 86 #[vR a0, vR b1386, vI 5, vJ (own_u5 cc), .second, vR b1446] []) s₁ (entryFrame m #[(.ref a0)] 6) := fun t k => pre1460 t (st1461 t k)
 obtain ⟨fs, hr, hrun, hended, hW, hsame⟩ := X1461.leave (v := some (.ref b1446)) (fun h => by rw [Bd.returns] at h; cases h)
 refine ⟨_, _, pre1468 _ ?_, hrun, hended, _, _, rfl, ?_, ⟨_, rfl⟩, hW, hsame.mono (by decide) (by decide)⟩
 ·
  refine XS.aload X1461.here hx rfl (hb hby d4_86) rfl rfl ?_
  exact retOut X1461 hx Bd.returns rfl (Or.inr (Or.inr (Or.inr (Or.inr ⟨rfl, rfl, rfl⟩)))) (hb hby d4_88) hr
 ·
  show Q4_5_3 Z a0 cc r1 k_r1 y0 y1 y2 h0 n0 _ T1461.heap _
  rw [e1461]
  exact ⟨b1446, kb1446, rfl, N1461, K1461, sz_b1446, Ef1467, V1461⟩
theorem pd_4 : parseMethodDescriptor "(JII)B" = some ⟨[.long, .int, .int], some .byte⟩ := by decide +kernel
set_option maxRecDepth 65536 in
set_option maxHeartbeats 40000000 in
theorem own_id1 {p : Program} {l : Launch} {e : Env} {s : State} {m : MethodId} {args : Array Value} {below : List Frame} {meth : Method} {c : Code} {T0 : State} {locs : List Loc} {cells slots : Nat} {Z : State} {ar0 : Array Value} {h0 : Heap} {n0 : Nat} {p0 : Int32} {p1 : Int32} {p2 : Int32} {p3 : Int32} {p4 : Int32} {dd : Addr} {bo : Addr} {kk : ClassId} {nn : Int32} {vs : List Value} {lenv : Int32}
  (X0 : Stand p l e room_1 s m args below meth c T0 locs cells slots) (hx : p.tables.exec = Jvm.exec) (hZ : Z.Warmed39 s.vm) (hw : ∀ d ∈ tables_1, d.before ar0 Z = true) (hby : c.code = code) (hml : c.maxLocals = 12) (hown : s.vm.findClass own_LC = some m.cls) (e0 : T0.heap = h0) (N0 : Fr n0 locs) (Z0 : n0 ≤ h0.size) (hcl : cells ≤ room_1.cells) (hsl : slots ≤ room_1.slots) (V : Arv Z h0 bo kk .byte nn vs (.int 0)) (hb0 : ¬ (0 : Int32) < 0 ∧ (0 : Int32) < nn) (hv0 : vs.getD ((0 : Int32)).toNatClampNeg (.int 0) = (.int (own_l0 p0))) :
  ∃ (T' : State) (L' : List Loc), Stand p l e room_1 s m args below meth c T' L' cells slots ∧ Fr n0 L' ∧ T'.heap = h0 ∧ ∀ t, Steps p.tables e below (T'.setTop (mkF m 305 #[vI p0, vI p1, vI p2, vI p3, vI p4, vI lenv, vR dd, vR bo, vJ (own_u0 p0), .second, vI 1, vI 1] [])) t → Steps p.tables e below (T0.setTop (mkF m 151 #[vI p0, vI p1, vI p2, vI p3, vI p4, vI lenv, vR dd, vR bo, vJ (own_u0 p0), .second, vI 1, .unset] [])) t := by
 have pre0 : own_P p e below T0 (mkF m 151 #[vI p0, vI p1, vI p2, vI p3, vI p4, vI lenv, vR dd, vR bo, vJ (own_u0 p0), .second, vI 1, .unset] []) T0 (mkF m 151 #[vI p0, vI p1, vI p2, vI p3, vI p4, vI lenv, vR dd, vR bo, vJ (own_u0 p0), .second, vI 1, .unset] []) := fun t k => k
 have pre1469 : own_P p e below T0 (mkF m 154 #[vI p0, vI p1, vI p2, vI p3, vI p4, vI lenv, vR dd, vR bo, vJ (own_u0 p0), .second, vI 1, .unset] [(.int 0), (.ref bo)]) T0 (mkF m 151 #[vI p0, vI p1, vI p2, vI p3, vI p4, vI lenv, vR dd, vR bo, vJ (own_u0 p0), .second, vI 1, .unset] []) := by
  intro t k
  refine pre0 t ?_
  refine XS.aload X0.here hx rfl (hb hby at_151) rfl rfl ?_
  refine XS.iconst X0.here hx rfl (hb hby at_153) ?_
  exact k
 obtain ⟨cl1470, Ar1470, q1470, S1470, M1470, H1470, G1470⟩ := id V
 have hin1470 : ¬ ((0 : Int32) < 0 ∨ cl1470.slots.size ≤ ((0 : Int32)).toNatClampNeg) := inb_of S1470 hb0
 have hat1470 : cl1470.slots[((0 : Int32)).toNatClampNeg]? = some (.int (own_l0 p0)) := H1470.at hin1470 hv0
 have pre1471 : own_P p e below T0 (mkF m 160 #[vI p0, vI p1, vI p2, vI p3, vI p4, vI lenv, vR dd, vR bo, vJ (own_u0 p0), .second, vI 1, .unset] [(.int 1), (.int 0), (.long (own_u0 p0)), (.int (own_l0 p0))]) T0 (mkF m 151 #[vI p0, vI p1, vI p2, vI p3, vI p4, vI lenv, vR dd, vR bo, vJ (own_u0 p0), .second, vI 1, .unset] []) := by
  intro t k
  refine pre1469 t ?_
  refine X0.baloadBytes hx (j := (0 : Int32)) (v := (.int (own_l0 p0))) (by rw [e0]; exact Ar1470.1) (State.isArrayOf_alike hZ.alike Ar1470.2.1) Ar1470.2.2 hin1470 hat1470 (g := (mkF m 154 #[vI p0, vI p1, vI p2, vI p3, vI p4, vI lenv, vR dd, vR bo, vJ (own_u0 p0), .second, vI 1, .unset] [(.int 0), (.ref bo)])) rfl rfl (hb hby at_154) _ ?_
  refine XS.lload X0.here hx rfl (hb hby at_155) rfl ?_
  refine XS.iconst X0.here hx rfl (hb hby at_157) ?_
  refine XS.iload X0.here hx rfl (hb hby at_158) rfl ?_
  exact k
 obtain ⟨_, _, ⟨T1472, L1472, k1472, n1472⟩, -, X1472, ⟨Lc1472, hQ1472, l1472, y1472, z1472⟩, st1472⟩ := Jvm.LawKit.callS X0 hx (y := (⟨own_LC, "idByte", "(JII)B"⟩ : MethodName)) hown (mvT hZ (own_w hw 45 rfl)) (mvT hZ (own_w hw 46 rfl)) (mvT hZ (own_w hw 47 rfl)) (mvT hZ (own_w hw 48 rfl)) (by decide) (backOf (W := 1) (rm8 l Z ar0 hw [] (own_u0 p0) (0 : Int32) (1 : Int32) h0 n0 Z0) hZ (own_w hw 48 rfl) (own_w hw 47 rfl) (by decide) (by decide)) (g := (mkF m 160 #[vI p0, vI p1, vI p2, vI p3, vI p4, vI lenv, vR dd, vR bo, vJ (own_u0 p0), .second, vI 1, .unset] [(.int 1), (.int 0), (.long (own_u0 p0)), (.int (own_l0 p0))])) rfl (by rw [hml]; rfl) (argsL := [(.long (own_u0 p0)), (.int 0), (.int 1)]) (rest := [(.int (own_l0 p0))]) (lenOf pd_4 rfl) rfl (by show 2 * 0 + _ ≤ _; exact Nat.le_of_eq rfl) (hb hby at_160) (fun _ _ => ⟨rfl, e0, hcl, hsl⟩)
 dsimp only [Pt.U, Pt.locs, Pt.cells, Pt.slots] at X1472 l1472 y1472 z1472 st1472 hQ1472
 subst l1472 y1472 z1472
 obtain ⟨rfl, N1472q, e1472⟩ := hQ1472
 have N1472 := Fr.app N0 N1472q
 have pre1473 : own_P p e below T1472 (mkF m 163 #[vI p0, vI p1, vI p2, vI p3, vI p4, vI lenv, vR dd, vR bo, vJ (own_u0 p0), .second, vI 1, .unset] [(.int (f8 (own_u0 p0) (0 : Int32) (1 : Int32))), (.int (own_l0 p0))]) T0 (mkF m 151 #[vI p0, vI p1, vI p2, vI p3, vI p4, vI lenv, vR dd, vR bo, vJ (own_u0 p0), .second, vI 1, .unset] []) := fun t k => pre1471 t (st1472 t k)
 have hk1474 : (own_l0 p0) = (f8 (own_u0 p0) (0 : Int32) (1 : Int32)) := (by unfold f8; rw [if_neg (by decide), ← own_S0]; rfl)
 have pre1475 : own_P p e below T1472 (mkF m 305 #[vI p0, vI p1, vI p2, vI p3, vI p4, vI lenv, vR dd, vR bo, vJ (own_u0 p0), .second, vI 1, vI 1] []) T0 (mkF m 151 #[vI p0, vI p1, vI p2, vI p3, vI p4, vI lenv, vR dd, vR bo, vJ (own_u0 p0), .second, vI 1, .unset] []) := by
  intro t k
  refine pre1473 t ?_
  refine XS.icmpNo X1472.here hx rfl (hb hby at_163) rfl (teq hk1474).2 ?_
  refine XS.iconst X1472.here hx rfl (hb hby at_166) ?_
  refine XS.goto X1472.here hx rfl (pc0 := 167) (pc' := 171) rfl (hb hby at_167) (by decide) (by decide) ?_
  refine XS.istore X1472.here hx rfl (hb hby at_171) rfl (l' := #[vI p0, vI p1, vI p2, vI p3, vI p4, vI lenv, vR dd, vR bo, vJ (own_u0 p0), .second, vI 1, vI 1]) rfl ?_
  refine XS.iload X1472.here hx rfl (hb hby at_173) rfl ?_
  refine XS.iconst X1472.here hx rfl (hb hby at_175) ?_
  refine XS.icmpYes X1472.here hx rfl (pc0 := 176) (pc' := 206) rfl (hb hby at_176) rfl (flt (by decide : ¬ (1 : Int32) < (1 : Int32))).2.2.2 (by decide) (by decide) ?_
  refine XS.iload X1472.here hx rfl (hb hby at_206) rfl ?_
  refine XS.iconst X1472.here hx rfl (hb hby at_208) ?_
  refine XS.icmpYes X1472.here hx rfl (pc0 := 209) (pc' := 239) rfl (hb hby at_209) rfl (flt (by decide : ¬ (2 : Int32) < (1 : Int32))).2.2.2 (by decide) (by decide) ?_
  refine XS.iload X1472.here hx rfl (hb hby at_239) rfl ?_
  refine XS.iconst X1472.here hx rfl (hb hby at_241) ?_
  refine XS.icmpYes X1472.here hx rfl (pc0 := 242) (pc' := 272) rfl (hb hby at_242) rfl (flt (by decide : ¬ (3 : Int32) < (1 : Int32))).2.2.2 (by decide) (by decide) ?_
  refine XS.iload X1472.here hx rfl (hb hby at_272) rfl ?_
  refine XS.iconst X1472.here hx rfl (hb hby at_274) ?_
  refine XS.icmpYes X1472.here hx rfl (pc0 := 275) (pc' := 305) rfl (hb hby at_275) rfl (flt (by decide : ¬ (4 : Int32) < (1 : Int32))).2.2.2 (by decide) (by decide) ?_
  exact k
 exact ⟨T1472, _, X1472, N1472, e1472, pre1475⟩
set_option maxRecDepth 65536 in
set_option maxHeartbeats 40000000 in
theorem own_id2 {p : Program} {l : Launch} {e : Env} {s : State} {m : MethodId} {args : Array Value} {below : List Frame} {meth : Method} {c : Code} {T0 : State} {locs : List Loc} {cells slots : Nat} {Z : State} {ar0 : Array Value} {h0 : Heap} {n0 : Nat} {p0 : Int32} {p1 : Int32} {p2 : Int32} {p3 : Int32} {p4 : Int32} {dd : Addr} {bo : Addr} {kk : ClassId} {nn : Int32} {vs : List Value} {lenv : Int32}
  (X0 : Stand p l e room_1 s m args below meth c T0 locs cells slots) (hx : p.tables.exec = Jvm.exec) (hZ : Z.Warmed39 s.vm) (hw : ∀ d ∈ tables_1, d.before ar0 Z = true) (hby : c.code = code) (hml : c.maxLocals = 12) (hown : s.vm.findClass own_LC = some m.cls) (e0 : T0.heap = h0) (N0 : Fr n0 locs) (Z0 : n0 ≤ h0.size) (hcl : cells ≤ room_1.cells) (hsl : slots ≤ room_1.slots) (V : Arv Z h0 bo kk .byte nn vs (.int 0)) (hb0 : ¬ (0 : Int32) < 0 ∧ (0 : Int32) < nn) (hb1 : ¬ (1 : Int32) < 0 ∧ (1 : Int32) < nn) (hv0 : vs.getD ((0 : Int32)).toNatClampNeg (.int 0) = (.int (own_m0 p0))) (hv1 : vs.getD ((1 : Int32)).toNatClampNeg (.int 0) = (.int (own_l1 p0))) :
  ∃ (T' : State) (L' : List Loc), Stand p l e room_1 s m args below meth c T' L' cells slots ∧ Fr n0 L' ∧ T'.heap = h0 ∧ ∀ t, Steps p.tables e below (T'.setTop (mkF m 305 #[vI p0, vI p1, vI p2, vI p3, vI p4, vI lenv, vR dd, vR bo, vJ (own_u0 p0), .second, vI 2, vI 1] [])) t → Steps p.tables e below (T0.setTop (mkF m 151 #[vI p0, vI p1, vI p2, vI p3, vI p4, vI lenv, vR dd, vR bo, vJ (own_u0 p0), .second, vI 2, .unset] [])) t := by
 have pre0 : own_P p e below T0 (mkF m 151 #[vI p0, vI p1, vI p2, vI p3, vI p4, vI lenv, vR dd, vR bo, vJ (own_u0 p0), .second, vI 2, .unset] []) T0 (mkF m 151 #[vI p0, vI p1, vI p2, vI p3, vI p4, vI lenv, vR dd, vR bo, vJ (own_u0 p0), .second, vI 2, .unset] []) := fun t k => k
 have pre1476 : own_P p e below T0 (mkF m 154 #[vI p0, vI p1, vI p2, vI p3, vI p4, vI lenv, vR dd, vR bo, vJ (own_u0 p0), .second, vI 2, .unset] [(.int 0), (.ref bo)]) T0 (mkF m 151 #[vI p0, vI p1, vI p2, vI p3, vI p4, vI lenv, vR dd, vR bo, vJ (own_u0 p0), .second, vI 2, .unset] []) := by
  intro t k
  refine pre0 t ?_
  refine XS.aload X0.here hx rfl (hb hby at_151) rfl rfl ?_
  refine XS.iconst X0.here hx rfl (hb hby at_153) ?_
  exact k
 obtain ⟨cl1477, Ar1477, q1477, S1477, M1477, H1477, G1477⟩ := id V
 have hin1477 : ¬ ((0 : Int32) < 0 ∨ cl1477.slots.size ≤ ((0 : Int32)).toNatClampNeg) := inb_of S1477 hb0
 have hat1477 : cl1477.slots[((0 : Int32)).toNatClampNeg]? = some (.int (own_m0 p0)) := H1477.at hin1477 hv0
 have pre1478 : own_P p e below T0 (mkF m 160 #[vI p0, vI p1, vI p2, vI p3, vI p4, vI lenv, vR dd, vR bo, vJ (own_u0 p0), .second, vI 2, .unset] [(.int 2), (.int 0), (.long (own_u0 p0)), (.int (own_m0 p0))]) T0 (mkF m 151 #[vI p0, vI p1, vI p2, vI p3, vI p4, vI lenv, vR dd, vR bo, vJ (own_u0 p0), .second, vI 2, .unset] []) := by
  intro t k
  refine pre1476 t ?_
  refine X0.baloadBytes hx (j := (0 : Int32)) (v := (.int (own_m0 p0))) (by rw [e0]; exact Ar1477.1) (State.isArrayOf_alike hZ.alike Ar1477.2.1) Ar1477.2.2 hin1477 hat1477 (g := (mkF m 154 #[vI p0, vI p1, vI p2, vI p3, vI p4, vI lenv, vR dd, vR bo, vJ (own_u0 p0), .second, vI 2, .unset] [(.int 0), (.ref bo)])) rfl rfl (hb hby at_154) _ ?_
  refine XS.lload X0.here hx rfl (hb hby at_155) rfl ?_
  refine XS.iconst X0.here hx rfl (hb hby at_157) ?_
  refine XS.iload X0.here hx rfl (hb hby at_158) rfl ?_
  exact k
 obtain ⟨_, _, ⟨T1479, L1479, k1479, n1479⟩, -, X1479, ⟨Lc1479, hQ1479, l1479, y1479, z1479⟩, st1479⟩ := Jvm.LawKit.callS X0 hx (y := (⟨own_LC, "idByte", "(JII)B"⟩ : MethodName)) hown (mvT hZ (own_w hw 45 rfl)) (mvT hZ (own_w hw 46 rfl)) (mvT hZ (own_w hw 47 rfl)) (mvT hZ (own_w hw 48 rfl)) (by decide) (backOf (W := 1) (rm8 l Z ar0 hw [] (own_u0 p0) (0 : Int32) (2 : Int32) h0 n0 Z0) hZ (own_w hw 48 rfl) (own_w hw 47 rfl) (by decide) (by decide)) (g := (mkF m 160 #[vI p0, vI p1, vI p2, vI p3, vI p4, vI lenv, vR dd, vR bo, vJ (own_u0 p0), .second, vI 2, .unset] [(.int 2), (.int 0), (.long (own_u0 p0)), (.int (own_m0 p0))])) rfl (by rw [hml]; rfl) (argsL := [(.long (own_u0 p0)), (.int 0), (.int 2)]) (rest := [(.int (own_m0 p0))]) (lenOf pd_4 rfl) rfl (by show 2 * 0 + _ ≤ _; exact Nat.le_of_eq rfl) (hb hby at_160) (fun _ _ => ⟨rfl, e0, hcl, hsl⟩)
 dsimp only [Pt.U, Pt.locs, Pt.cells, Pt.slots] at X1479 l1479 y1479 z1479 st1479 hQ1479
 subst l1479 y1479 z1479
 obtain ⟨rfl, N1479q, e1479⟩ := hQ1479
 have N1479 := Fr.app N0 N1479q
 have pre1480 : own_P p e below T1479 (mkF m 163 #[vI p0, vI p1, vI p2, vI p3, vI p4, vI lenv, vR dd, vR bo, vJ (own_u0 p0), .second, vI 2, .unset] [(.int (f8 (own_u0 p0) (0 : Int32) (2 : Int32))), (.int (own_m0 p0))]) T0 (mkF m 151 #[vI p0, vI p1, vI p2, vI p3, vI p4, vI lenv, vR dd, vR bo, vJ (own_u0 p0), .second, vI 2, .unset] []) := fun t k => pre1478 t (st1479 t k)
 have hk1481 : (own_m0 p0) = (f8 (own_u0 p0) (0 : Int32) (2 : Int32)) := (by unfold f8; rw [if_pos (by decide), ← own_S0]; rfl)
 have pre1482 : own_P p e below T1479 (mkF m 187 #[vI p0, vI p1, vI p2, vI p3, vI p4, vI lenv, vR dd, vR bo, vJ (own_u0 p0), .second, vI 2, vI 1] [(.int 1), (.ref bo)]) T0 (mkF m 151 #[vI p0, vI p1, vI p2, vI p3, vI p4, vI lenv, vR dd, vR bo, vJ (own_u0 p0), .second, vI 2, .unset] []) := by
  intro t k
  refine pre1480 t ?_
  refine XS.icmpNo X1479.here hx rfl (hb hby at_163) rfl (teq hk1481).2 ?_
  refine XS.iconst X1479.here hx rfl (hb hby at_166) ?_
  refine XS.goto X1479.here hx rfl (pc0 := 167) (pc' := 171) rfl (hb hby at_167) (by decide) (by decide) ?_
  refine XS.istore X1479.here hx rfl (hb hby at_171) rfl (l' := #[vI p0, vI p1, vI p2, vI p3, vI p4, vI lenv, vR dd, vR bo, vJ (own_u0 p0), .second, vI 2, vI 1]) rfl ?_
  refine XS.iload X1479.here hx rfl (hb hby at_173) rfl ?_
  refine XS.iconst X1479.here hx rfl (hb hby at_175) ?_
  refine XS.icmpNo X1479.here hx rfl (hb hby at_176) rfl (tlt (by decide : (1 : Int32) < (2 : Int32))).2.2.2 ?_
  refine XS.iload X1479.here hx rfl (hb hby at_179) rfl ?_
  refine XS.ifNo X1479.here hx rfl (hb hby at_181) rfl ((if0 _ _).trans (feq (by decide : ¬ (1 : Int32) = (0 : Int32))).1) ?_
  refine XS.aload X1479.here hx rfl (hb hby at_184) rfl rfl ?_
  refine XS.iconst X1479.here hx rfl (hb hby at_186) ?_
  exact k
 obtain ⟨cl1483, Ar1483, q1483, S1483, M1483, H1483, G1483⟩ := id V
 have hin1483 : ¬ ((1 : Int32) < 0 ∨ cl1483.slots.size ≤ ((1 : Int32)).toNatClampNeg) := inb_of S1483 hb1
 have hat1483 : cl1483.slots[((1 : Int32)).toNatClampNeg]? = some (.int (own_l1 p0)) := H1483.at hin1483 hv1
 have pre1484 : own_P p e below T1479 (mkF m 193 #[vI p0, vI p1, vI p2, vI p3, vI p4, vI lenv, vR dd, vR bo, vJ (own_u0 p0), .second, vI 2, vI 1] [(.int 2), (.int 1), (.long (own_u0 p0)), (.int (own_l1 p0))]) T0 (mkF m 151 #[vI p0, vI p1, vI p2, vI p3, vI p4, vI lenv, vR dd, vR bo, vJ (own_u0 p0), .second, vI 2, .unset] []) := by
  intro t k
  refine pre1482 t ?_
  refine X1479.baloadBytes hx (j := (1 : Int32)) (v := (.int (own_l1 p0))) (by rw [e1479]; exact Ar1483.1) (State.isArrayOf_alike hZ.alike Ar1483.2.1) Ar1483.2.2 hin1483 hat1483 (g := (mkF m 187 #[vI p0, vI p1, vI p2, vI p3, vI p4, vI lenv, vR dd, vR bo, vJ (own_u0 p0), .second, vI 2, vI 1] [(.int 1), (.ref bo)])) rfl rfl (hb hby at_187) _ ?_
  refine XS.lload X1479.here hx rfl (hb hby at_188) rfl ?_
  refine XS.iconst X1479.here hx rfl (hb hby at_190) ?_
  refine XS.iload X1479.here hx rfl (hb hby at_191) rfl ?_
  exact k
 obtain ⟨_, _, ⟨T1485, L1485, k1485, n1485⟩, -, X1485, ⟨Lc1485, hQ1485, l1485, y1485, z1485⟩, st1485⟩ := Jvm.LawKit.callS X1479 hx (y := (⟨own_LC, "idByte", "(JII)B"⟩ : MethodName)) hown (mvT hZ (own_w hw 45 rfl)) (mvT hZ (own_w hw 46 rfl)) (mvT hZ (own_w hw 47 rfl)) (mvT hZ (own_w hw 48 rfl)) (by decide) (backOf (W := 1) (rm8 l Z ar0 hw [] (own_u0 p0) (1 : Int32) (2 : Int32) h0 n0 Z0) hZ (own_w hw 48 rfl) (own_w hw 47 rfl) (by decide) (by decide)) (g := (mkF m 193 #[vI p0, vI p1, vI p2, vI p3, vI p4, vI lenv, vR dd, vR bo, vJ (own_u0 p0), .second, vI 2, vI 1] [(.int 2), (.int 1), (.long (own_u0 p0)), (.int (own_l1 p0))])) rfl (by rw [hml]; rfl) (argsL := [(.long (own_u0 p0)), (.int 1), (.int 2)]) (rest := [(.int (own_l1 p0))]) (lenOf pd_4 rfl) rfl (by show 2 * 0 + _ ≤ _; exact Nat.le_of_eq rfl) (hb hby at_193) (fun _ _ => ⟨rfl, e1479, hcl, hsl⟩)
 dsimp only [Pt.U, Pt.locs, Pt.cells, Pt.slots] at X1485 l1485 y1485 z1485 st1485 hQ1485
 subst l1485 y1485 z1485
 obtain ⟨rfl, N1485q, e1485⟩ := hQ1485
 have N1485 := Fr.app N1479 N1485q
 have pre1486 : own_P p e below T1485 (mkF m 196 #[vI p0, vI p1, vI p2, vI p3, vI p4, vI lenv, vR dd, vR bo, vJ (own_u0 p0), .second, vI 2, vI 1] [(.int (f8 (own_u0 p0) (1 : Int32) (2 : Int32))), (.int (own_l1 p0))]) T0 (mkF m 151 #[vI p0, vI p1, vI p2, vI p3, vI p4, vI lenv, vR dd, vR bo, vJ (own_u0 p0), .second, vI 2, .unset] []) := fun t k => pre1484 t (st1485 t k)
 have hk1487 : (own_l1 p0) = (f8 (own_u0 p0) (1 : Int32) (2 : Int32)) := (by unfold f8; rw [if_neg (by decide), ← own_S1]; rfl)
 have pre1488 : own_P p e below T1485 (mkF m 305 #[vI p0, vI p1, vI p2, vI p3, vI p4, vI lenv, vR dd, vR bo, vJ (own_u0 p0), .second, vI 2, vI 1] []) T0 (mkF m 151 #[vI p0, vI p1, vI p2, vI p3, vI p4, vI lenv, vR dd, vR bo, vJ (own_u0 p0), .second, vI 2, .unset] []) := by
  intro t k
  refine pre1486 t ?_
  refine XS.icmpNo X1485.here hx rfl (hb hby at_196) rfl (teq hk1487).2 ?_
  refine XS.iconst X1485.here hx rfl (hb hby at_199) ?_
  refine XS.goto X1485.here hx rfl (pc0 := 200) (pc' := 204) rfl (hb hby at_200) (by decide) (by decide) ?_
  refine XS.istore X1485.here hx rfl (hb hby at_204) rfl (l' := #[vI p0, vI p1, vI p2, vI p3, vI p4, vI lenv, vR dd, vR bo, vJ (own_u0 p0), .second, vI 2, vI 1]) rfl ?_
  refine XS.iload X1485.here hx rfl (hb hby at_206) rfl ?_
  refine XS.iconst X1485.here hx rfl (hb hby at_208) ?_
  refine XS.icmpYes X1485.here hx rfl (pc0 := 209) (pc' := 239) rfl (hb hby at_209) rfl (flt (by decide : ¬ (2 : Int32) < (2 : Int32))).2.2.2 (by decide) (by decide) ?_
  refine XS.iload X1485.here hx rfl (hb hby at_239) rfl ?_
  refine XS.iconst X1485.here hx rfl (hb hby at_241) ?_
  refine XS.icmpYes X1485.here hx rfl (pc0 := 242) (pc' := 272) rfl (hb hby at_242) rfl (flt (by decide : ¬ (3 : Int32) < (2 : Int32))).2.2.2 (by decide) (by decide) ?_
  refine XS.iload X1485.here hx rfl (hb hby at_272) rfl ?_
  refine XS.iconst X1485.here hx rfl (hb hby at_274) ?_
  refine XS.icmpYes X1485.here hx rfl (pc0 := 275) (pc' := 305) rfl (hb hby at_275) rfl (flt (by decide : ¬ (4 : Int32) < (2 : Int32))).2.2.2 (by decide) (by decide) ?_
  exact k
 exact ⟨T1485, _, X1485, N1485, e1485, pre1488⟩
set_option maxRecDepth 65536 in
set_option maxHeartbeats 40000000 in
theorem own_id3 {p : Program} {l : Launch} {e : Env} {s : State} {m : MethodId} {args : Array Value} {below : List Frame} {meth : Method} {c : Code} {T0 : State} {locs : List Loc} {cells slots : Nat} {Z : State} {ar0 : Array Value} {h0 : Heap} {n0 : Nat} {p0 : Int32} {p1 : Int32} {p2 : Int32} {p3 : Int32} {p4 : Int32} {dd : Addr} {bo : Addr} {kk : ClassId} {nn : Int32} {vs : List Value} {lenv : Int32}
  (X0 : Stand p l e room_1 s m args below meth c T0 locs cells slots) (hx : p.tables.exec = Jvm.exec) (hZ : Z.Warmed39 s.vm) (hw : ∀ d ∈ tables_1, d.before ar0 Z = true) (hby : c.code = code) (hml : c.maxLocals = 12) (hown : s.vm.findClass own_LC = some m.cls) (e0 : T0.heap = h0) (N0 : Fr n0 locs) (Z0 : n0 ≤ h0.size) (hcl : cells ≤ room_1.cells) (hsl : slots ≤ room_1.slots) (V : Arv Z h0 bo kk .byte nn vs (.int 0)) (hb0 : ¬ (0 : Int32) < 0 ∧ (0 : Int32) < nn) (hb1 : ¬ (1 : Int32) < 0 ∧ (1 : Int32) < nn) (hb2 : ¬ (2 : Int32) < 0 ∧ (2 : Int32) < nn) (hv0 : vs.getD ((0 : Int32)).toNatClampNeg (.int 0) = (.int (own_m0 p0))) (hv1 : vs.getD ((1 : Int32)).toNatClampNeg (.int 0) = (.int (own_m1 p0))) (hv2 : vs.getD ((2 : Int32)).toNatClampNeg (.int 0) = (.int (own_l2 p0))) :
  ∃ (T' : State) (L' : List Loc), Stand p l e room_1 s m args below meth c T' L' cells slots ∧ Fr n0 L' ∧ T'.heap = h0 ∧ ∀ t, Steps p.tables e below (T'.setTop (mkF m 305 #[vI p0, vI p1, vI p2, vI p3, vI p4, vI lenv, vR dd, vR bo, vJ (own_u0 p0), .second, vI 3, vI 1] [])) t → Steps p.tables e below (T0.setTop (mkF m 151 #[vI p0, vI p1, vI p2, vI p3, vI p4, vI lenv, vR dd, vR bo, vJ (own_u0 p0), .second, vI 3, .unset] [])) t := by
 have pre0 : own_P p e below T0 (mkF m 151 #[vI p0, vI p1, vI p2, vI p3, vI p4, vI lenv, vR dd, vR bo, vJ (own_u0 p0), .second, vI 3, .unset] []) T0 (mkF m 151 #[vI p0, vI p1, vI p2, vI p3, vI p4, vI lenv, vR dd, vR bo, vJ (own_u0 p0), .second, vI 3, .unset] []) := fun t k => k
 have pre1489 : own_P p e below T0 (mkF m 154 #[vI p0, vI p1, vI p2, vI p3, vI p4, vI lenv, vR dd, vR bo, vJ (own_u0 p0), .second, vI 3, .unset] [(.int 0), (.ref bo)]) T0 (mkF m 151 #[vI p0, vI p1, vI p2, vI p3, vI p4, vI lenv, vR dd, vR bo, vJ (own_u0 p0), .second, vI 3, .unset] []) := by
  intro t k
  refine pre0 t ?_
  refine XS.aload X0.here hx rfl (hb hby at_151) rfl rfl ?_
  refine XS.iconst X0.here hx rfl (hb hby at_153) ?_
  exact k
 obtain ⟨cl1490, Ar1490, q1490, S1490, M1490, H1490, G1490⟩ := id V
 have hin1490 : ¬ ((0 : Int32) < 0 ∨ cl1490.slots.size ≤ ((0 : Int32)).toNatClampNeg) := inb_of S1490 hb0
 have hat1490 : cl1490.slots[((0 : Int32)).toNatClampNeg]? = some (.int (own_m0 p0)) := H1490.at hin1490 hv0
 have pre1491 : own_P p e below T0 (mkF m 160 #[vI p0, vI p1, vI p2, vI p3, vI p4, vI lenv, vR dd, vR bo, vJ (own_u0 p0), .second, vI 3, .unset] [(.int 3), (.int 0), (.long (own_u0 p0)), (.int (own_m0 p0))]) T0 (mkF m 151 #[vI p0, vI p1, vI p2, vI p3, vI p4, vI lenv, vR dd, vR bo, vJ (own_u0 p0), .second, vI 3, .unset] []) := by
  intro t k
  refine pre1489 t ?_
  refine X0.baloadBytes hx (j := (0 : Int32)) (v := (.int (own_m0 p0))) (by rw [e0]; exact Ar1490.1) (State.isArrayOf_alike hZ.alike Ar1490.2.1) Ar1490.2.2 hin1490 hat1490 (g := (mkF m 154 #[vI p0, vI p1, vI p2, vI p3, vI p4, vI lenv, vR dd, vR bo, vJ (own_u0 p0), .second, vI 3, .unset] [(.int 0), (.ref bo)])) rfl rfl (hb hby at_154) _ ?_
  refine XS.lload X0.here hx rfl (hb hby at_155) rfl ?_
  refine XS.iconst X0.here hx rfl (hb hby at_157) ?_
  refine XS.iload X0.here hx rfl (hb hby at_158) rfl ?_
  exact k
 obtain ⟨_, _, ⟨T1492, L1492, k1492, n1492⟩, -, X1492, ⟨Lc1492, hQ1492, l1492, y1492, z1492⟩, st1492⟩ := Jvm.LawKit.callS X0 hx (y := (⟨own_LC, "idByte", "(JII)B"⟩ : MethodName)) hown (mvT hZ (own_w hw 45 rfl)) (mvT hZ (own_w hw 46 rfl)) (mvT hZ (own_w hw 47 rfl)) (mvT hZ (own_w hw 48 rfl)) (by decide) (backOf (W := 1) (rm8 l Z ar0 hw [] (own_u0 p0) (0 : Int32) (3 : Int32) h0 n0 Z0) hZ (own_w hw 48 rfl) (own_w hw 47 rfl) (by decide) (by decide)) (g := (mkF m 160 #[vI p0, vI p1, vI p2, vI p3, vI p4, vI lenv, vR dd, vR bo, vJ (own_u0 p0), .second, vI 3, .unset] [(.int 3), (.int 0), (.long (own_u0 p0)), (.int (own_m0 p0))])) rfl (by rw [hml]; rfl) (argsL := [(.long (own_u0 p0)), (.int 0), (.int 3)]) (rest := [(.int (own_m0 p0))]) (lenOf pd_4 rfl) rfl (by show 2 * 0 + _ ≤ _; exact Nat.le_of_eq rfl) (hb hby at_160) (fun _ _ => ⟨rfl, e0, hcl, hsl⟩)
 dsimp only [Pt.U, Pt.locs, Pt.cells, Pt.slots] at X1492 l1492 y1492 z1492 st1492 hQ1492
 subst l1492 y1492 z1492
 obtain ⟨rfl, N1492q, e1492⟩ := hQ1492
 have N1492 := Fr.app N0 N1492q
 have pre1493 : own_P p e below T1492 (mkF m 163 #[vI p0, vI p1, vI p2, vI p3, vI p4, vI lenv, vR dd, vR bo, vJ (own_u0 p0), .second, vI 3, .unset] [(.int (f8 (own_u0 p0) (0 : Int32) (3 : Int32))), (.int (own_m0 p0))]) T0 (mkF m 151 #[vI p0, vI p1, vI p2, vI p3, vI p4, vI lenv, vR dd, vR bo, vJ (own_u0 p0), .second, vI 3, .unset] []) := fun t k => pre1491 t (st1492 t k)
 have hk1494 : (own_m0 p0) = (f8 (own_u0 p0) (0 : Int32) (3 : Int32)) := (by unfold f8; rw [if_pos (by decide), ← own_S0]; rfl)
 have pre1495 : own_P p e below T1492 (mkF m 187 #[vI p0, vI p1, vI p2, vI p3, vI p4, vI lenv, vR dd, vR bo, vJ (own_u0 p0), .second, vI 3, vI 1] [(.int 1), (.ref bo)]) T0 (mkF m 151 #[vI p0, vI p1, vI p2, vI p3, vI p4, vI lenv, vR dd, vR bo, vJ (own_u0 p0), .second, vI 3, .unset] []) := by
  intro t k
  refine pre1493 t ?_
  refine XS.icmpNo X1492.here hx rfl (hb hby at_163) rfl (teq hk1494).2 ?_
  refine XS.iconst X1492.here hx rfl (hb hby at_166) ?_
  refine XS.goto X1492.here hx rfl (pc0 := 167) (pc' := 171) rfl (hb hby at_167) (by decide) (by decide) ?_
  refine XS.istore X1492.here hx rfl (hb hby at_171) rfl (l' := #[vI p0, vI p1, vI p2, vI p3, vI p4, vI lenv, vR dd, vR bo, vJ (own_u0 p0), .second, vI 3, vI 1]) rfl ?_
  refine XS.iload X1492.here hx rfl (hb hby at_173) rfl ?_
  refine XS.iconst X1492.here hx rfl (hb hby at_175) ?_
  refine XS.icmpNo X1492.here hx rfl (hb hby at_176) rfl (tlt (by decide : (1 : Int32) < (3 : Int32))).2.2.2 ?_
  refine XS.iload X1492.here hx rfl (hb hby at_179) rfl ?_
  refine XS.ifNo X1492.here hx rfl (hb hby at_181) rfl ((if0 _ _).trans (feq (by decide : ¬ (1 : Int32) = (0 : Int32))).1) ?_
  refine XS.aload X1492.here hx rfl (hb hby at_184) rfl rfl ?_
  refine XS.iconst X1492.here hx rfl (hb hby at_186) ?_
  exact k
 obtain ⟨cl1496, Ar1496, q1496, S1496, M1496, H1496, G1496⟩ := id V
 have hin1496 : ¬ ((1 : Int32) < 0 ∨ cl1496.slots.size ≤ ((1 : Int32)).toNatClampNeg) := inb_of S1496 hb1
 have hat1496 : cl1496.slots[((1 : Int32)).toNatClampNeg]? = some (.int (own_m1 p0)) := H1496.at hin1496 hv1
 have pre1497 : own_P p e below T1492 (mkF m 193 #[vI p0, vI p1, vI p2, vI p3, vI p4, vI lenv, vR dd, vR bo, vJ (own_u0 p0), .second, vI 3, vI 1] [(.int 3), (.int 1), (.long (own_u0 p0)), (.int (own_m1 p0))]) T0 (mkF m 151 #[vI p0, vI p1, vI p2, vI p3, vI p4, vI lenv, vR dd, vR bo, vJ (own_u0 p0), .second, vI 3, .unset] []) := by
  intro t k
  refine pre1495 t ?_
  refine X1492.baloadBytes hx (j := (1 : Int32)) (v := (.int (own_m1 p0))) (by rw [e1492]; exact Ar1496.1) (State.isArrayOf_alike hZ.alike Ar1496.2.1) Ar1496.2.2 hin1496 hat1496 (g := (mkF m 187 #[vI p0, vI p1, vI p2, vI p3, vI p4, vI lenv, vR dd, vR bo, vJ (own_u0 p0), .second, vI 3, vI 1] [(.int 1), (.ref bo)])) rfl rfl (hb hby at_187) _ ?_
  refine XS.lload X1492.here hx rfl (hb hby at_188) rfl ?_
  refine XS.iconst X1492.here hx rfl (hb hby at_190) ?_
  refine XS.iload X1492.here hx rfl (hb hby at_191) rfl ?_
  exact k
 obtain ⟨_, _, ⟨T1498, L1498, k1498, n1498⟩, -, X1498, ⟨Lc1498, hQ1498, l1498, y1498, z1498⟩, st1498⟩ := Jvm.LawKit.callS X1492 hx (y := (⟨own_LC, "idByte", "(JII)B"⟩ : MethodName)) hown (mvT hZ (own_w hw 45 rfl)) (mvT hZ (own_w hw 46 rfl)) (mvT hZ (own_w hw 47 rfl)) (mvT hZ (own_w hw 48 rfl)) (by decide) (backOf (W := 1) (rm8 l Z ar0 hw [] (own_u0 p0) (1 : Int32) (3 : Int32) h0 n0 Z0) hZ (own_w hw 48 rfl) (own_w hw 47 rfl) (by decide) (by decide)) (g := (mkF m 193 #[vI p0, vI p1, vI p2, vI p3, vI p4, vI lenv, vR dd, vR bo, vJ (own_u0 p0), .second, vI 3, vI 1] [(.int 3), (.int 1), (.long (own_u0 p0)), (.int (own_m1 p0))])) rfl (by rw [hml]; rfl) (argsL := [(.long (own_u0 p0)), (.int 1), (.int 3)]) (rest := [(.int (own_m1 p0))]) (lenOf pd_4 rfl) rfl (by show 2 * 0 + _ ≤ _; exact Nat.le_of_eq rfl) (hb hby at_193) (fun _ _ => ⟨rfl, e1492, hcl, hsl⟩)
 dsimp only [Pt.U, Pt.locs, Pt.cells, Pt.slots] at X1498 l1498 y1498 z1498 st1498 hQ1498
 subst l1498 y1498 z1498
 obtain ⟨rfl, N1498q, e1498⟩ := hQ1498
 have N1498 := Fr.app N1492 N1498q
 have pre1499 : own_P p e below T1498 (mkF m 196 #[vI p0, vI p1, vI p2, vI p3, vI p4, vI lenv, vR dd, vR bo, vJ (own_u0 p0), .second, vI 3, vI 1] [(.int (f8 (own_u0 p0) (1 : Int32) (3 : Int32))), (.int (own_m1 p0))]) T0 (mkF m 151 #[vI p0, vI p1, vI p2, vI p3, vI p4, vI lenv, vR dd, vR bo, vJ (own_u0 p0), .second, vI 3, .unset] []) := fun t k => pre1497 t (st1498 t k)
 have hk1500 : (own_m1 p0) = (f8 (own_u0 p0) (1 : Int32) (3 : Int32)) := (by unfold f8; rw [if_pos (by decide), ← own_S1]; rfl)
 have pre1501 : own_P p e below T1498 (mkF m 220 #[vI p0, vI p1, vI p2, vI p3, vI p4, vI lenv, vR dd, vR bo, vJ (own_u0 p0), .second, vI 3, vI 1] [(.int 2), (.ref bo)]) T0 (mkF m 151 #[vI p0, vI p1, vI p2, vI p3, vI p4, vI lenv, vR dd, vR bo, vJ (own_u0 p0), .second, vI 3, .unset] []) := by
  intro t k
  refine pre1499 t ?_
  refine XS.icmpNo X1498.here hx rfl (hb hby at_196) rfl (teq hk1500).2 ?_
  refine XS.iconst X1498.here hx rfl (hb hby at_199) ?_
  refine XS.goto X1498.here hx rfl (pc0 := 200) (pc' := 204) rfl (hb hby at_200) (by decide) (by decide) ?_
  refine XS.istore X1498.here hx rfl (hb hby at_204) rfl (l' := #[vI p0, vI p1, vI p2, vI p3, vI p4, vI lenv, vR dd, vR bo, vJ (own_u0 p0), .second, vI 3, vI 1]) rfl ?_
  refine XS.iload X1498.here hx rfl (hb hby at_206) rfl ?_
  refine XS.iconst X1498.here hx rfl (hb hby at_208) ?_
  refine XS.icmpNo X1498.here hx rfl (hb hby at_209) rfl (tlt (by decide : (2 : Int32) < (3 : Int32))).2.2.2 ?_
  refine XS.iload X1498.here hx rfl (hb hby at_212) rfl ?_
  refine XS.ifNo X1498.here hx rfl (hb hby at_214) rfl ((if0 _ _).trans (feq (by decide : ¬ (1 : Int32) = (0 : Int32))).1) ?_
  refine XS.aload X1498.here hx rfl (hb hby at_217) rfl rfl ?_
  refine XS.iconst X1498.here hx rfl (hb hby at_219) ?_
  exact k
 obtain ⟨cl1502, Ar1502, q1502, S1502, M1502, H1502, G1502⟩ := id V
 have hin1502 : ¬ ((2 : Int32) < 0 ∨ cl1502.slots.size ≤ ((2 : Int32)).toNatClampNeg) := inb_of S1502 hb2
 have hat1502 : cl1502.slots[((2 : Int32)).toNatClampNeg]? = some (.int (own_l2 p0)) := H1502.at hin1502 hv2
 have pre1503 : own_P p e below T1498 (mkF m 226 #[vI p0, vI p1, vI p2, vI p3, vI p4, vI lenv, vR dd, vR bo, vJ (own_u0 p0), .second, vI 3, vI 1] [(.int 3), (.int 2), (.long (own_u0 p0)), (.int (own_l2 p0))]) T0 (mkF m 151 #[vI p0, vI p1, vI p2, vI p3, vI p4, vI lenv, vR dd, vR bo, vJ (own_u0 p0), .second, vI 3, .unset] []) := by
  intro t k
  refine pre1501 t ?_
  refine X1498.baloadBytes hx (j := (2 : Int32)) (v := (.int (own_l2 p0))) (by rw [e1498]; exact Ar1502.1) (State.isArrayOf_alike hZ.alike Ar1502.2.1) Ar1502.2.2 hin1502 hat1502 (g := (mkF m 220 #[vI p0, vI p1, vI p2, vI p3, vI p4, vI lenv, vR dd, vR bo, vJ (own_u0 p0), .second, vI 3, vI 1] [(.int 2), (.ref bo)])) rfl rfl (hb hby at_220) _ ?_
  refine XS.lload X1498.here hx rfl (hb hby at_221) rfl ?_
  refine XS.iconst X1498.here hx rfl (hb hby at_223) ?_
  refine XS.iload X1498.here hx rfl (hb hby at_224) rfl ?_
  exact k
 obtain ⟨_, _, ⟨T1504, L1504, k1504, n1504⟩, -, X1504, ⟨Lc1504, hQ1504, l1504, y1504, z1504⟩, st1504⟩ := Jvm.LawKit.callS X1498 hx (y := (⟨own_LC, "idByte", "(JII)B"⟩ : MethodName)) hown (mvT hZ (own_w hw 45 rfl)) (mvT hZ (own_w hw 46 rfl)) (mvT hZ (own_w hw 47 rfl)) (mvT hZ (own_w hw 48 rfl)) (by decide) (backOf (W := 1) (rm8 l Z ar0 hw [] (own_u0 p0) (2 : Int32) (3 : Int32) h0 n0 Z0) hZ (own_w hw 48 rfl) (own_w hw 47 rfl) (by decide) (by decide)) (g := (mkF m 226 #[vI p0, vI p1, vI p2, vI p3, vI p4, vI lenv, vR dd, vR bo, vJ (own_u0 p0), .second, vI 3, vI 1] [(.int 3), (.int 2), (.long (own_u0 p0)), (.int (own_l2 p0))])) rfl (by rw [hml]; rfl) (argsL := [(.long (own_u0 p0)), (.int 2), (.int 3)]) (rest := [(.int (own_l2 p0))]) (lenOf pd_4 rfl) rfl (by show 2 * 0 + _ ≤ _; exact Nat.le_of_eq rfl) (hb hby at_226) (fun _ _ => ⟨rfl, e1498, hcl, hsl⟩)
 dsimp only [Pt.U, Pt.locs, Pt.cells, Pt.slots] at X1504 l1504 y1504 z1504 st1504 hQ1504
 subst l1504 y1504 z1504
 obtain ⟨rfl, N1504q, e1504⟩ := hQ1504
 have N1504 := Fr.app N1498 N1504q
 have pre1505 : own_P p e below T1504 (mkF m 229 #[vI p0, vI p1, vI p2, vI p3, vI p4, vI lenv, vR dd, vR bo, vJ (own_u0 p0), .second, vI 3, vI 1] [(.int (f8 (own_u0 p0) (2 : Int32) (3 : Int32))), (.int (own_l2 p0))]) T0 (mkF m 151 #[vI p0, vI p1, vI p2, vI p3, vI p4, vI lenv, vR dd, vR bo, vJ (own_u0 p0), .second, vI 3, .unset] []) := fun t k => pre1503 t (st1504 t k)
 have hk1506 : (own_l2 p0) = (f8 (own_u0 p0) (2 : Int32) (3 : Int32)) := (by unfold f8; rw [if_neg (by decide), ← own_S2]; rfl)
 have pre1507 : own_P p e below T1504 (mkF m 305 #[vI p0, vI p1, vI p2, vI p3, vI p4, vI lenv, vR dd, vR bo, vJ (own_u0 p0), .second, vI 3, vI 1] []) T0 (mkF m 151 #[vI p0, vI p1, vI p2, vI p3, vI p4, vI lenv, vR dd, vR bo, vJ (own_u0 p0), .second, vI 3, .unset] []) := by
  intro t k
  refine pre1505 t ?_
  refine XS.icmpNo X1504.here hx rfl (hb hby at_229) rfl (teq hk1506).2 ?_
  refine XS.iconst X1504.here hx rfl (hb hby at_232) ?_
  refine XS.goto X1504.here hx rfl (pc0 := 233) (pc' := 237) rfl (hb hby at_233) (by decide) (by decide) ?_
  refine XS.istore X1504.here hx rfl (hb hby at_237) rfl (l' := #[vI p0, vI p1, vI p2, vI p3, vI p4, vI lenv, vR dd, vR bo, vJ (own_u0 p0), .second, vI 3, vI 1]) rfl ?_
  refine XS.iload X1504.here hx rfl (hb hby at_239) rfl ?_
  refine XS.iconst X1504.here hx rfl (hb hby at_241) ?_
  refine XS.icmpYes X1504.here hx rfl (pc0 := 242) (pc' := 272) rfl (hb hby at_242) rfl (flt (by decide : ¬ (3 : Int32) < (3 : Int32))).2.2.2 (by decide) (by decide) ?_
  refine XS.iload X1504.here hx rfl (hb hby at_272) rfl ?_
  refine XS.iconst X1504.here hx rfl (hb hby at_274) ?_
  refine XS.icmpYes X1504.here hx rfl (pc0 := 275) (pc' := 305) rfl (hb hby at_275) rfl (flt (by decide : ¬ (4 : Int32) < (3 : Int32))).2.2.2 (by decide) (by decide) ?_
  exact k
 exact ⟨T1504, _, X1504, N1504, e1504, pre1507⟩
set_option maxRecDepth 65536 in
set_option maxHeartbeats 40000000 in
theorem own_id4 {p : Program} {l : Launch} {e : Env} {s : State} {m : MethodId} {args : Array Value} {below : List Frame} {meth : Method} {c : Code} {T0 : State} {locs : List Loc} {cells slots : Nat} {Z : State} {ar0 : Array Value} {h0 : Heap} {n0 : Nat} {p0 : Int32} {p1 : Int32} {p2 : Int32} {p3 : Int32} {p4 : Int32} {dd : Addr} {bo : Addr} {kk : ClassId} {nn : Int32} {vs : List Value} {lenv : Int32}
  (X0 : Stand p l e room_1 s m args below meth c T0 locs cells slots) (hx : p.tables.exec = Jvm.exec) (hZ : Z.Warmed39 s.vm) (hw : ∀ d ∈ tables_1, d.before ar0 Z = true) (hby : c.code = code) (hml : c.maxLocals = 12) (hown : s.vm.findClass own_LC = some m.cls) (e0 : T0.heap = h0) (N0 : Fr n0 locs) (Z0 : n0 ≤ h0.size) (hcl : cells ≤ room_1.cells) (hsl : slots ≤ room_1.slots) (V : Arv Z h0 bo kk .byte nn vs (.int 0)) (hb0 : ¬ (0 : Int32) < 0 ∧ (0 : Int32) < nn) (hb1 : ¬ (1 : Int32) < 0 ∧ (1 : Int32) < nn) (hb2 : ¬ (2 : Int32) < 0 ∧ (2 : Int32) < nn) (hb3 : ¬ (3 : Int32) < 0 ∧ (3 : Int32) < nn) (hv0 : vs.getD ((0 : Int32)).toNatClampNeg (.int 0) = (.int (own_m0 p0))) (hv1 : vs.getD ((1 : Int32)).toNatClampNeg (.int 0) = (.int (own_m1 p0))) (hv2 : vs.getD ((2 : Int32)).toNatClampNeg (.int 0) = (.int (own_m2 p0))) (hv3 : vs.getD ((3 : Int32)).toNatClampNeg (.int 0) = (.int (own_l3 p0))) :
  ∃ (T' : State) (L' : List Loc), Stand p l e room_1 s m args below meth c T' L' cells slots ∧ Fr n0 L' ∧ T'.heap = h0 ∧ ∀ t, Steps p.tables e below (T'.setTop (mkF m 305 #[vI p0, vI p1, vI p2, vI p3, vI p4, vI lenv, vR dd, vR bo, vJ (own_u0 p0), .second, vI 4, vI 1] [])) t → Steps p.tables e below (T0.setTop (mkF m 151 #[vI p0, vI p1, vI p2, vI p3, vI p4, vI lenv, vR dd, vR bo, vJ (own_u0 p0), .second, vI 4, .unset] [])) t := by
 have pre0 : own_P p e below T0 (mkF m 151 #[vI p0, vI p1, vI p2, vI p3, vI p4, vI lenv, vR dd, vR bo, vJ (own_u0 p0), .second, vI 4, .unset] []) T0 (mkF m 151 #[vI p0, vI p1, vI p2, vI p3, vI p4, vI lenv, vR dd, vR bo, vJ (own_u0 p0), .second, vI 4, .unset] []) := fun t k => k
 have pre1508 : own_P p e below T0 (mkF m 154 #[vI p0, vI p1, vI p2, vI p3, vI p4, vI lenv, vR dd, vR bo, vJ (own_u0 p0), .second, vI 4, .unset] [(.int 0), (.ref bo)]) T0 (mkF m 151 #[vI p0, vI p1, vI p2, vI p3, vI p4, vI lenv, vR dd, vR bo, vJ (own_u0 p0), .second, vI 4, .unset] []) := by
  intro t k
  refine pre0 t ?_
  refine XS.aload X0.here hx rfl (hb hby at_151) rfl rfl ?_
  refine XS.iconst X0.here hx rfl (hb hby at_153) ?_
  exact k
 obtain ⟨cl1509, Ar1509, q1509, S1509, M1509, H1509, G1509⟩ := id V
 have hin1509 : ¬ ((0 : Int32) < 0 ∨ cl1509.slots.size ≤ ((0 : Int32)).toNatClampNeg) := inb_of S1509 hb0
 have hat1509 : cl1509.slots[((0 : Int32)).toNatClampNeg]? = some (.int (own_m0 p0)) := H1509.at hin1509 hv0
 have pre1510 : own_P p e below T0 (mkF m 160 #[vI p0, vI p1, vI p2, vI p3, vI p4, vI lenv, vR dd, vR bo, vJ (own_u0 p0), .second, vI 4, .unset] [(.int 4), (.int 0), (.long (own_u0 p0)), (.int (own_m0 p0))]) T0 (mkF m 151 #[vI p0, vI p1, vI p2, vI p3, vI p4, vI lenv, vR dd, vR bo, vJ (own_u0 p0), .second, vI 4, .unset] []) := by
  intro t k
  refine pre1508 t ?_
  refine X0.baloadBytes hx (j := (0 : Int32)) (v := (.int (own_m0 p0))) (by rw [e0]; exact Ar1509.1) (State.isArrayOf_alike hZ.alike Ar1509.2.1) Ar1509.2.2 hin1509 hat1509 (g := (mkF m 154 #[vI p0, vI p1, vI p2, vI p3, vI p4, vI lenv, vR dd, vR bo, vJ (own_u0 p0), .second, vI 4, .unset] [(.int 0), (.ref bo)])) rfl rfl (hb hby at_154) _ ?_
  refine XS.lload X0.here hx rfl (hb hby at_155) rfl ?_
  refine XS.iconst X0.here hx rfl (hb hby at_157) ?_
  refine XS.iload X0.here hx rfl (hb hby at_158) rfl ?_
  exact k
 obtain ⟨_, _, ⟨T1511, L1511, k1511, n1511⟩, -, X1511, ⟨Lc1511, hQ1511, l1511, y1511, z1511⟩, st1511⟩ := Jvm.LawKit.callS X0 hx (y := (⟨own_LC, "idByte", "(JII)B"⟩ : MethodName)) hown (mvT hZ (own_w hw 45 rfl)) (mvT hZ (own_w hw 46 rfl)) (mvT hZ (own_w hw 47 rfl)) (mvT hZ (own_w hw 48 rfl)) (by decide) (backOf (W := 1) (rm8 l Z ar0 hw [] (own_u0 p0) (0 : Int32) (4 : Int32) h0 n0 Z0) hZ (own_w hw 48 rfl) (own_w hw 47 rfl) (by decide) (by decide)) (g := (mkF m 160 #[vI p0, vI p1, vI p2, vI p3, vI p4, vI lenv, vR dd, vR bo, vJ (own_u0 p0), .second, vI 4, .unset] [(.int 4), (.int 0), (.long (own_u0 p0)), (.int (own_m0 p0))])) rfl (by rw [hml]; rfl) (argsL := [(.long (own_u0 p0)), (.int 0), (.int 4)]) (rest := [(.int (own_m0 p0))]) (lenOf pd_4 rfl) rfl (by show 2 * 0 + _ ≤ _; exact Nat.le_of_eq rfl) (hb hby at_160) (fun _ _ => ⟨rfl, e0, hcl, hsl⟩)
 dsimp only [Pt.U, Pt.locs, Pt.cells, Pt.slots] at X1511 l1511 y1511 z1511 st1511 hQ1511
 subst l1511 y1511 z1511
 obtain ⟨rfl, N1511q, e1511⟩ := hQ1511
 have N1511 := Fr.app N0 N1511q
 have pre1512 : own_P p e below T1511 (mkF m 163 #[vI p0, vI p1, vI p2, vI p3, vI p4, vI lenv, vR dd, vR bo, vJ (own_u0 p0), .second, vI 4, .unset] [(.int (f8 (own_u0 p0) (0 : Int32) (4 : Int32))), (.int (own_m0 p0))]) T0 (mkF m 151 #[vI p0, vI p1, vI p2, vI p3, vI p4, vI lenv, vR dd, vR bo, vJ (own_u0 p0), .second, vI 4, .unset] []) := fun t k => pre1510 t (st1511 t k)
 have hk1513 : (own_m0 p0) = (f8 (own_u0 p0) (0 : Int32) (4 : Int32)) := (by unfold f8; rw [if_pos (by decide), ← own_S0]; rfl)
 have pre1514 : own_P p e below T1511 (mkF m 187 #[vI p0, vI p1, vI p2, vI p3, vI p4, vI lenv, vR dd, vR bo, vJ (own_u0 p0), .second, vI 4, vI 1] [(.int 1), (.ref bo)]) T0 (mkF m 151 #[vI p0, vI p1, vI p2, vI p3, vI p4, vI lenv, vR dd, vR bo, vJ (own_u0 p0), .second, vI 4, .unset] []) := by
  intro t k
  refine pre1512 t ?_
  refine XS.icmpNo X1511.here hx rfl (hb hby at_163) rfl (teq hk1513).2 ?_
  refine XS.iconst X1511.here hx rfl (hb hby at_166) ?_
  refine XS.goto X1511.here hx rfl (pc0 := 167) (pc' := 171) rfl (hb hby at_167) (by decide) (by decide) ?_
  refine XS.istore X1511.here hx rfl (hb hby at_171) rfl (l' := #[vI p0, vI p1, vI p2, vI p3, vI p4, vI lenv, vR dd, vR bo, vJ (own_u0 p0), .second, vI 4, vI 1]) rfl ?_
  refine XS.iload X1511.here hx rfl (hb hby at_173) rfl ?_
  refine XS.iconst X1511.here hx rfl (hb hby at_175) ?_
  refine XS.icmpNo X1511.here hx rfl (hb hby at_176) rfl (tlt (by decide : (1 : Int32) < (4 : Int32))).2.2.2 ?_
  refine XS.iload X1511.here hx rfl (hb hby at_179) rfl ?_
  refine XS.ifNo X1511.here hx rfl (hb hby at_181) rfl ((if0 _ _).trans (feq (by decide : ¬ (1 : Int32) = (0 : Int32))).1) ?_
  refine XS.aload X1511.here hx rfl (hb hby at_184) rfl rfl ?_
  refine XS.iconst X1511.here hx rfl (hb hby at_186) ?_
  exact k
 obtain ⟨cl1515, Ar1515, q1515, S1515, M1515, H1515, G1515⟩ := id V
 have hin1515 : ¬ ((1 : Int32) < 0 ∨ cl1515.slots.size ≤ ((1 : Int32)).toNatClampNeg) := inb_of S1515 hb1
 have hat1515 : cl1515.slots[((1 : Int32)).toNatClampNeg]? = some (.int (own_m1 p0)) := H1515.at hin1515 hv1
 have pre1516 : own_P p e below T1511 (mkF m 193 #[vI p0, vI p1, vI p2, vI p3, vI p4, vI lenv, vR dd, vR bo, vJ (own_u0 p0), .second, vI 4, vI 1] [(.int 4), (.int 1), (.long (own_u0 p0)), (.int (own_m1 p0))]) T0 (mkF m 151 #[vI p0, vI p1, vI p2, vI p3, vI p4, vI lenv, vR dd, vR bo, vJ (own_u0 p0), .second, vI 4, .unset] []) := by
  intro t k
  refine pre1514 t ?_
  refine X1511.baloadBytes hx (j := (1 : Int32)) (v := (.int (own_m1 p0))) (by rw [e1511]; exact Ar1515.1) (State.isArrayOf_alike hZ.alike Ar1515.2.1) Ar1515.2.2 hin1515 hat1515 (g := (mkF m 187 #[vI p0, vI p1, vI p2, vI p3, vI p4, vI lenv, vR dd, vR bo, vJ (own_u0 p0), .second, vI 4, vI 1] [(.int 1), (.ref bo)])) rfl rfl (hb hby at_187) _ ?_
  refine XS.lload X1511.here hx rfl (hb hby at_188) rfl ?_
  refine XS.iconst X1511.here hx rfl (hb hby at_190) ?_
  refine XS.iload X1511.here hx rfl (hb hby at_191) rfl ?_
  exact k
 obtain ⟨_, _, ⟨T1517, L1517, k1517, n1517⟩, -, X1517, ⟨Lc1517, hQ1517, l1517, y1517, z1517⟩, st1517⟩ := Jvm.LawKit.callS X1511 hx (y := (⟨own_LC, "idByte", "(JII)B"⟩ : MethodName)) hown (mvT hZ (own_w hw 45 rfl)) (mvT hZ (own_w hw 46 rfl)) (mvT hZ (own_w hw 47 rfl)) (mvT hZ (own_w hw 48 rfl)) (by decide) (backOf (W := 1) (rm8 l Z ar0 hw [] (own_u0 p0) (1 : Int32) (4 : Int32) h0 n0 Z0) hZ (own_w hw 48 rfl) (own_w hw 47 rfl) (by decide) (by decide)) (g := (mkF m 193 #[vI p0, vI p1, vI p2, vI p3, vI p4, vI lenv, vR dd, vR bo, vJ (own_u0 p0), .second, vI 4, vI 1] [(.int 4), (.int 1), (.long (own_u0 p0)), (.int (own_m1 p0))])) rfl (by rw [hml]; rfl) (argsL := [(.long (own_u0 p0)), (.int 1), (.int 4)]) (rest := [(.int (own_m1 p0))]) (lenOf pd_4 rfl) rfl (by show 2 * 0 + _ ≤ _; exact Nat.le_of_eq rfl) (hb hby at_193) (fun _ _ => ⟨rfl, e1511, hcl, hsl⟩)
 dsimp only [Pt.U, Pt.locs, Pt.cells, Pt.slots] at X1517 l1517 y1517 z1517 st1517 hQ1517
 subst l1517 y1517 z1517
 obtain ⟨rfl, N1517q, e1517⟩ := hQ1517
 have N1517 := Fr.app N1511 N1517q
 have pre1518 : own_P p e below T1517 (mkF m 196 #[vI p0, vI p1, vI p2, vI p3, vI p4, vI lenv, vR dd, vR bo, vJ (own_u0 p0), .second, vI 4, vI 1] [(.int (f8 (own_u0 p0) (1 : Int32) (4 : Int32))), (.int (own_m1 p0))]) T0 (mkF m 151 #[vI p0, vI p1, vI p2, vI p3, vI p4, vI lenv, vR dd, vR bo, vJ (own_u0 p0), .second, vI 4, .unset] []) := fun t k => pre1516 t (st1517 t k)
 have hk1519 : (own_m1 p0) = (f8 (own_u0 p0) (1 : Int32) (4 : Int32)) := (by unfold f8; rw [if_pos (by decide), ← own_S1]; rfl)
 have pre1520 : own_P p e below T1517 (mkF m 220 #[vI p0, vI p1, vI p2, vI p3, vI p4, vI lenv, vR dd, vR bo, vJ (own_u0 p0), .second, vI 4, vI 1] [(.int 2), (.ref bo)]) T0 (mkF m 151 #[vI p0, vI p1, vI p2, vI p3, vI p4, vI lenv, vR dd, vR bo, vJ (own_u0 p0), .second, vI 4, .unset] []) := by
  intro t k
  refine pre1518 t ?_
  refine XS.icmpNo X1517.here hx rfl (hb hby at_196) rfl (teq hk1519).2 ?_
  refine XS.iconst X1517.here hx rfl (hb hby at_199) ?_
  refine XS.goto X1517.here hx rfl (pc0 := 200) (pc' := 204) rfl (hb hby at_200) (by decide) (by decide) ?_
  refine XS.istore X1517.here hx rfl (hb hby at_204) rfl (l' := #[vI p0, vI p1, vI p2, vI p3, vI p4, vI lenv, vR dd, vR bo, vJ (own_u0 p0), .second, vI 4, vI 1]) rfl ?_
  refine XS.iload X1517.here hx rfl (hb hby at_206) rfl ?_
  refine XS.iconst X1517.here hx rfl (hb hby at_208) ?_
  refine XS.icmpNo X1517.here hx rfl (hb hby at_209) rfl (tlt (by decide : (2 : Int32) < (4 : Int32))).2.2.2 ?_
  refine XS.iload X1517.here hx rfl (hb hby at_212) rfl ?_
  refine XS.ifNo X1517.here hx rfl (hb hby at_214) rfl ((if0 _ _).trans (feq (by decide : ¬ (1 : Int32) = (0 : Int32))).1) ?_
  refine XS.aload X1517.here hx rfl (hb hby at_217) rfl rfl ?_
  refine XS.iconst X1517.here hx rfl (hb hby at_219) ?_
  exact k
 obtain ⟨cl1521, Ar1521, q1521, S1521, M1521, H1521, G1521⟩ := id V
 have hin1521 : ¬ ((2 : Int32) < 0 ∨ cl1521.slots.size ≤ ((2 : Int32)).toNatClampNeg) := inb_of S1521 hb2
 have hat1521 : cl1521.slots[((2 : Int32)).toNatClampNeg]? = some (.int (own_m2 p0)) := H1521.at hin1521 hv2
 have pre1522 : own_P p e below T1517 (mkF m 226 #[vI p0, vI p1, vI p2, vI p3, vI p4, vI lenv, vR dd, vR bo, vJ (own_u0 p0), .second, vI 4, vI 1] [(.int 4), (.int 2), (.long (own_u0 p0)), (.int (own_m2 p0))]) T0 (mkF m 151 #[vI p0, vI p1, vI p2, vI p3, vI p4, vI lenv, vR dd, vR bo, vJ (own_u0 p0), .second, vI 4, .unset] []) := by
  intro t k
  refine pre1520 t ?_
  refine X1517.baloadBytes hx (j := (2 : Int32)) (v := (.int (own_m2 p0))) (by rw [e1517]; exact Ar1521.1) (State.isArrayOf_alike hZ.alike Ar1521.2.1) Ar1521.2.2 hin1521 hat1521 (g := (mkF m 220 #[vI p0, vI p1, vI p2, vI p3, vI p4, vI lenv, vR dd, vR bo, vJ (own_u0 p0), .second, vI 4, vI 1] [(.int 2), (.ref bo)])) rfl rfl (hb hby at_220) _ ?_
  refine XS.lload X1517.here hx rfl (hb hby at_221) rfl ?_
  refine XS.iconst X1517.here hx rfl (hb hby at_223) ?_
  refine XS.iload X1517.here hx rfl (hb hby at_224) rfl ?_
  exact k
 obtain ⟨_, _, ⟨T1523, L1523, k1523, n1523⟩, -, X1523, ⟨Lc1523, hQ1523, l1523, y1523, z1523⟩, st1523⟩ := Jvm.LawKit.callS X1517 hx (y := (⟨own_LC, "idByte", "(JII)B"⟩ : MethodName)) hown (mvT hZ (own_w hw 45 rfl)) (mvT hZ (own_w hw 46 rfl)) (mvT hZ (own_w hw 47 rfl)) (mvT hZ (own_w hw 48 rfl)) (by decide) (backOf (W := 1) (rm8 l Z ar0 hw [] (own_u0 p0) (2 : Int32) (4 : Int32) h0 n0 Z0) hZ (own_w hw 48 rfl) (own_w hw 47 rfl) (by decide) (by decide)) (g := (mkF m 226 #[vI p0, vI p1, vI p2, vI p3, vI p4, vI lenv, vR dd, vR bo, vJ (own_u0 p0), .second, vI 4, vI 1] [(.int 4), (.int 2), (.long (own_u0 p0)), (.int (own_m2 p0))])) rfl (by rw [hml]; rfl) (argsL := [(.long (own_u0 p0)), (.int 2), (.int 4)]) (rest := [(.int (own_m2 p0))]) (lenOf pd_4 rfl) rfl (by show 2 * 0 + _ ≤ _; exact Nat.le_of_eq rfl) (hb hby at_226) (fun _ _ => ⟨rfl, e1517, hcl, hsl⟩)
 dsimp only [Pt.U, Pt.locs, Pt.cells, Pt.slots] at X1523 l1523 y1523 z1523 st1523 hQ1523
 subst l1523 y1523 z1523
 obtain ⟨rfl, N1523q, e1523⟩ := hQ1523
 have N1523 := Fr.app N1517 N1523q
 have pre1524 : own_P p e below T1523 (mkF m 229 #[vI p0, vI p1, vI p2, vI p3, vI p4, vI lenv, vR dd, vR bo, vJ (own_u0 p0), .second, vI 4, vI 1] [(.int (f8 (own_u0 p0) (2 : Int32) (4 : Int32))), (.int (own_m2 p0))]) T0 (mkF m 151 #[vI p0, vI p1, vI p2, vI p3, vI p4, vI lenv, vR dd, vR bo, vJ (own_u0 p0), .second, vI 4, .unset] []) := fun t k => pre1522 t (st1523 t k)
 have hk1525 : (own_m2 p0) = (f8 (own_u0 p0) (2 : Int32) (4 : Int32)) := (by unfold f8; rw [if_pos (by decide), ← own_S2]; rfl)
 have pre1526 : own_P p e below T1523 (mkF m 253 #[vI p0, vI p1, vI p2, vI p3, vI p4, vI lenv, vR dd, vR bo, vJ (own_u0 p0), .second, vI 4, vI 1] [(.int 3), (.ref bo)]) T0 (mkF m 151 #[vI p0, vI p1, vI p2, vI p3, vI p4, vI lenv, vR dd, vR bo, vJ (own_u0 p0), .second, vI 4, .unset] []) := by
  intro t k
  refine pre1524 t ?_
  refine XS.icmpNo X1523.here hx rfl (hb hby at_229) rfl (teq hk1525).2 ?_
  refine XS.iconst X1523.here hx rfl (hb hby at_232) ?_
  refine XS.goto X1523.here hx rfl (pc0 := 233) (pc' := 237) rfl (hb hby at_233) (by decide) (by decide) ?_
  refine XS.istore X1523.here hx rfl (hb hby at_237) rfl (l' := #[vI p0, vI p1, vI p2, vI p3, vI p4, vI lenv, vR dd, vR bo, vJ (own_u0 p0), .second, vI 4, vI 1]) rfl ?_
  refine XS.iload X1523.here hx rfl (hb hby at_239) rfl ?_
  refine XS.iconst X1523.here hx rfl (hb hby at_241) ?_
  refine XS.icmpNo X1523.here hx rfl (hb hby at_242) rfl (tlt (by decide : (3 : Int32) < (4 : Int32))).2.2.2 ?_
  refine XS.iload X1523.here hx rfl (hb hby at_245) rfl ?_
  refine XS.ifNo X1523.here hx rfl (hb hby at_247) rfl ((if0 _ _).trans (feq (by decide : ¬ (1 : Int32) = (0 : Int32))).1) ?_
  refine XS.aload X1523.here hx rfl (hb hby at_250) rfl rfl ?_
  refine XS.iconst X1523.here hx rfl (hb hby at_252) ?_
  exact k
 obtain ⟨cl1527, Ar1527, q1527, S1527, M1527, H1527, G1527⟩ := id V
 have hin1527 : ¬ ((3 : Int32) < 0 ∨ cl1527.slots.size ≤ ((3 : Int32)).toNatClampNeg) := inb_of S1527 hb3
 have hat1527 : cl1527.slots[((3 : Int32)).toNatClampNeg]? = some (.int (own_l3 p0)) := H1527.at hin1527 hv3
 have pre1528 : own_P p e below T1523 (mkF m 259 #[vI p0, vI p1, vI p2, vI p3, vI p4, vI lenv, vR dd, vR bo, vJ (own_u0 p0), .second, vI 4, vI 1] [(.int 4), (.int 3), (.long (own_u0 p0)), (.int (own_l3 p0))]) T0 (mkF m 151 #[vI p0, vI p1, vI p2, vI p3, vI p4, vI lenv, vR dd, vR bo, vJ (own_u0 p0), .second, vI 4, .unset] []) := by
  intro t k
  refine pre1526 t ?_
  refine X1523.baloadBytes hx (j := (3 : Int32)) (v := (.int (own_l3 p0))) (by rw [e1523]; exact Ar1527.1) (State.isArrayOf_alike hZ.alike Ar1527.2.1) Ar1527.2.2 hin1527 hat1527 (g := (mkF m 253 #[vI p0, vI p1, vI p2, vI p3, vI p4, vI lenv, vR dd, vR bo, vJ (own_u0 p0), .second, vI 4, vI 1] [(.int 3), (.ref bo)])) rfl rfl (hb hby at_253) _ ?_
  refine XS.lload X1523.here hx rfl (hb hby at_254) rfl ?_
  refine XS.iconst X1523.here hx rfl (hb hby at_256) ?_
  refine XS.iload X1523.here hx rfl (hb hby at_257) rfl ?_
  exact k
 obtain ⟨_, _, ⟨T1529, L1529, k1529, n1529⟩, -, X1529, ⟨Lc1529, hQ1529, l1529, y1529, z1529⟩, st1529⟩ := Jvm.LawKit.callS X1523 hx (y := (⟨own_LC, "idByte", "(JII)B"⟩ : MethodName)) hown (mvT hZ (own_w hw 45 rfl)) (mvT hZ (own_w hw 46 rfl)) (mvT hZ (own_w hw 47 rfl)) (mvT hZ (own_w hw 48 rfl)) (by decide) (backOf (W := 1) (rm8 l Z ar0 hw [] (own_u0 p0) (3 : Int32) (4 : Int32) h0 n0 Z0) hZ (own_w hw 48 rfl) (own_w hw 47 rfl) (by decide) (by decide)) (g := (mkF m 259 #[vI p0, vI p1, vI p2, vI p3, vI p4, vI lenv, vR dd, vR bo, vJ (own_u0 p0), .second, vI 4, vI 1] [(.int 4), (.int 3), (.long (own_u0 p0)), (.int (own_l3 p0))])) rfl (by rw [hml]; rfl) (argsL := [(.long (own_u0 p0)), (.int 3), (.int 4)]) (rest := [(.int (own_l3 p0))]) (lenOf pd_4 rfl) rfl (by show 2 * 0 + _ ≤ _; exact Nat.le_of_eq rfl) (hb hby at_259) (fun _ _ => ⟨rfl, e1523, hcl, hsl⟩)
 dsimp only [Pt.U, Pt.locs, Pt.cells, Pt.slots] at X1529 l1529 y1529 z1529 st1529 hQ1529
 subst l1529 y1529 z1529
 obtain ⟨rfl, N1529q, e1529⟩ := hQ1529
 have N1529 := Fr.app N1523 N1529q
 have pre1530 : own_P p e below T1529 (mkF m 262 #[vI p0, vI p1, vI p2, vI p3, vI p4, vI lenv, vR dd, vR bo, vJ (own_u0 p0), .second, vI 4, vI 1] [(.int (f8 (own_u0 p0) (3 : Int32) (4 : Int32))), (.int (own_l3 p0))]) T0 (mkF m 151 #[vI p0, vI p1, vI p2, vI p3, vI p4, vI lenv, vR dd, vR bo, vJ (own_u0 p0), .second, vI 4, .unset] []) := fun t k => pre1528 t (st1529 t k)
 have hk1531 : (own_l3 p0) = (f8 (own_u0 p0) (3 : Int32) (4 : Int32)) := (by unfold f8; rw [if_neg (by decide), ← own_S3]; rfl)
 have pre1532 : own_P p e below T1529 (mkF m 305 #[vI p0, vI p1, vI p2, vI p3, vI p4, vI lenv, vR dd, vR bo, vJ (own_u0 p0), .second, vI 4, vI 1] []) T0 (mkF m 151 #[vI p0, vI p1, vI p2, vI p3, vI p4, vI lenv, vR dd, vR bo, vJ (own_u0 p0), .second, vI 4, .unset] []) := by
  intro t k
  refine pre1530 t ?_
  refine XS.icmpNo X1529.here hx rfl (hb hby at_262) rfl (teq hk1531).2 ?_
  refine XS.iconst X1529.here hx rfl (hb hby at_265) ?_
  refine XS.goto X1529.here hx rfl (pc0 := 266) (pc' := 270) rfl (hb hby at_266) (by decide) (by decide) ?_
  refine XS.istore X1529.here hx rfl (hb hby at_270) rfl (l' := #[vI p0, vI p1, vI p2, vI p3, vI p4, vI lenv, vR dd, vR bo, vJ (own_u0 p0), .second, vI 4, vI 1]) rfl ?_
  refine XS.iload X1529.here hx rfl (hb hby at_272) rfl ?_
  refine XS.iconst X1529.here hx rfl (hb hby at_274) ?_
  refine XS.icmpYes X1529.here hx rfl (pc0 := 275) (pc' := 305) rfl (hb hby at_275) rfl (flt (by decide : ¬ (4 : Int32) < (4 : Int32))).2.2.2 (by decide) (by decide) ?_
  exact k
 exact ⟨T1529, _, X1529, N1529, e1529, pre1532⟩
set_option maxRecDepth 65536 in
set_option maxHeartbeats 40000000 in
theorem own_id5 {p : Program} {l : Launch} {e : Env} {s : State} {m : MethodId} {args : Array Value} {below : List Frame} {meth : Method} {c : Code} {T0 : State} {locs : List Loc} {cells slots : Nat} {Z : State} {ar0 : Array Value} {h0 : Heap} {n0 : Nat} {p0 : Int32} {p1 : Int32} {p2 : Int32} {p3 : Int32} {p4 : Int32} {dd : Addr} {bo : Addr} {kk : ClassId} {nn : Int32} {vs : List Value} {lenv : Int32}
  (X0 : Stand p l e room_1 s m args below meth c T0 locs cells slots) (hx : p.tables.exec = Jvm.exec) (hZ : Z.Warmed39 s.vm) (hw : ∀ d ∈ tables_1, d.before ar0 Z = true) (hby : c.code = code) (hml : c.maxLocals = 12) (hown : s.vm.findClass own_LC = some m.cls) (e0 : T0.heap = h0) (N0 : Fr n0 locs) (Z0 : n0 ≤ h0.size) (hcl : cells ≤ room_1.cells) (hsl : slots ≤ room_1.slots) (V : Arv Z h0 bo kk .byte nn vs (.int 0)) (hb0 : ¬ (0 : Int32) < 0 ∧ (0 : Int32) < nn) (hb1 : ¬ (1 : Int32) < 0 ∧ (1 : Int32) < nn) (hb2 : ¬ (2 : Int32) < 0 ∧ (2 : Int32) < nn) (hb3 : ¬ (3 : Int32) < 0 ∧ (3 : Int32) < nn) (hb4 : ¬ (4 : Int32) < 0 ∧ (4 : Int32) < nn) (hv0 : vs.getD ((0 : Int32)).toNatClampNeg (.int 0) = (.int (own_m0 p0))) (hv1 : vs.getD ((1 : Int32)).toNatClampNeg (.int 0) = (.int (own_m1 p0))) (hv2 : vs.getD ((2 : Int32)).toNatClampNeg (.int 0) = (.int (own_m2 p0))) (hv3 : vs.getD ((3 : Int32)).toNatClampNeg (.int 0) = (.int (own_m3 p0))) (hv4 : vs.getD ((4 : Int32)).toNatClampNeg (.int 0) = (.int (own_l4 p0))) :
  ∃ (T' : State) (L' : List Loc), Stand p l e room_1 s m args below meth c T' L' cells slots ∧ Fr n0 L' ∧ T'.heap = h0 ∧ ∀ t, Steps p.tables e below (T'.setTop (mkF m 305 #[vI p0, vI p1, vI p2, vI p3, vI p4, vI lenv, vR dd, vR bo, vJ (own_u0 p0), .second, vI 5, vI 1] [])) t → Steps p.tables e below (T0.setTop (mkF m 151 #[vI p0, vI p1, vI p2, vI p3, vI p4, vI lenv, vR dd, vR bo, vJ (own_u0 p0), .second, vI 5, .unset] [])) t := by
 have pre0 : own_P p e below T0 (mkF m 151 #[vI p0, vI p1, vI p2, vI p3, vI p4, vI lenv, vR dd, vR bo, vJ (own_u0 p0), .second, vI 5, .unset] []) T0 (mkF m 151 #[vI p0, vI p1, vI p2, vI p3, vI p4, vI lenv, vR dd, vR bo, vJ (own_u0 p0), .second, vI 5, .unset] []) := fun t k => k
 have pre1533 : own_P p e below T0 (mkF m 154 #[vI p0, vI p1, vI p2, vI p3, vI p4, vI lenv, vR dd, vR bo, vJ (own_u0 p0), .second, vI 5, .unset] [(.int 0), (.ref bo)]) T0 (mkF m 151 #[vI p0, vI p1, vI p2, vI p3, vI p4, vI lenv, vR dd, vR bo, vJ (own_u0 p0), .second, vI 5, .unset] []) := by
  intro t k
  refine pre0 t ?_
  refine XS.aload X0.here hx rfl (hb hby at_151) rfl rfl ?_
  refine XS.iconst X0.here hx rfl (hb hby at_153) ?_
  exact k
 obtain ⟨cl1534, Ar1534, q1534, S1534, M1534, H1534, G1534⟩ := id V
 have hin1534 : ¬ ((0 : Int32) < 0 ∨ cl1534.slots.size ≤ ((0 : Int32)).toNatClampNeg) := inb_of S1534 hb0
 have hat1534 : cl1534.slots[((0 : Int32)).toNatClampNeg]? = some (.int (own_m0 p0)) := H1534.at hin1534 hv0
 have pre1535 : own_P p e below T0 (mkF m 160 #[vI p0, vI p1, vI p2, vI p3, vI p4, vI lenv, vR dd, vR bo, vJ (own_u0 p0), .second, vI 5, .unset] [(.int 5), (.int 0), (.long (own_u0 p0)), (.int (own_m0 p0))]) T0 (mkF m 151 #[vI p0, vI p1, vI p2, vI p3, vI p4, vI lenv, vR dd, vR bo, vJ (own_u0 p0), .second, vI 5, .unset] []) := by
  intro t k
  refine pre1533 t ?_
  refine X0.baloadBytes hx (j := (0 : Int32)) (v := (.int (own_m0 p0))) (by rw [e0]; exact Ar1534.1) (State.isArrayOf_alike hZ.alike Ar1534.2.1) Ar1534.2.2 hin1534 hat1534 (g := (mkF m 154 #[vI p0, vI p1, vI p2, vI p3, vI p4, vI lenv, vR dd, vR bo, vJ (own_u0 p0), .second, vI 5, .unset] [(.int 0), (.ref bo)])) rfl rfl (hb hby at_154) _ ?_
  refine XS.lload X0.here hx rfl (hb hby at_155) rfl ?_
  refine XS.iconst X0.here hx rfl (hb hby at_157) ?_
  refine XS.iload X0.here hx rfl (hb hby at_158) rfl ?_
  exact k
 obtain ⟨_, _, ⟨T1536, L1536, k1536, n1536⟩, -, X1536, ⟨Lc1536, hQ1536, l1536, y1536, z1536⟩, st1536⟩ := Jvm.LawKit.callS X0 hx (y := (⟨own_LC, "idByte", "(JII)B"⟩ : MethodName)) hown (mvT hZ (own_w hw 45 rfl)) (mvT hZ (own_w hw 46 rfl)) (mvT hZ (own_w hw 47 rfl)) (mvT hZ (own_w hw 48 rfl)) (by decide) (backOf (W := 1) (rm8 l Z ar0 hw [] (own_u0 p0) (0 : Int32) (5 : Int32) h0 n0 Z0) hZ (own_w hw 48 rfl) (own_w hw 47 rfl) (by decide) (by decide)) (g := (mkF m 160 #[vI p0, vI p1, vI p2, vI p3, vI p4, vI lenv, vR dd, vR bo, vJ (own_u0 p0), .second, vI 5, .unset] [(.int 5), (.int 0), (.long (own_u0 p0)), (.int (own_m0 p0))])) rfl (by rw [hml]; rfl) (argsL := [(.long (own_u0 p0)), (.int 0), (.int 5)]) (rest := [(.int (own_m0 p0))]) (lenOf pd_4 rfl) rfl (by show 2 * 0 + _ ≤ _; exact Nat.le_of_eq rfl) (hb hby at_160) (fun _ _ => ⟨rfl, e0, hcl, hsl⟩)
 dsimp only [Pt.U, Pt.locs, Pt.cells, Pt.slots] at X1536 l1536 y1536 z1536 st1536 hQ1536
 subst l1536 y1536 z1536
 obtain ⟨rfl, N1536q, e1536⟩ := hQ1536
 have N1536 := Fr.app N0 N1536q
 have pre1537 : own_P p e below T1536 (mkF m 163 #[vI p0, vI p1, vI p2, vI p3, vI p4, vI lenv, vR dd, vR bo, vJ (own_u0 p0), .second, vI 5, .unset] [(.int (f8 (own_u0 p0) (0 : Int32) (5 : Int32))), (.int (own_m0 p0))]) T0 (mkF m 151 #[vI p0, vI p1, vI p2, vI p3, vI p4, vI lenv, vR dd, vR bo, vJ (own_u0 p0), .second, vI 5, .unset] []) := fun t k => pre1535 t (st1536 t k)
 have hk1538 : (own_m0 p0) = (f8 (own_u0 p0) (0 : Int32) (5 : Int32)) := (by unfold f8; rw [if_pos (by decide), ← own_S0]; rfl)
 have pre1539 : own_P p e below T1536 (mkF m 187 #[vI p0, vI p1, vI p2, vI p3, vI p4, vI lenv, vR dd, vR bo, vJ (own_u0 p0), .second, vI 5, vI 1] [(.int 1), (.ref bo)]) T0 (mkF m 151 #[vI p0, vI p1, vI p2, vI p3, vI p4, vI lenv, vR dd, vR bo, vJ (own_u0 p0), .second, vI 5, .unset] []) := by
  intro t k
  refine pre1537 t ?_
  refine XS.icmpNo X1536.here hx rfl (hb hby at_163) rfl (teq hk1538).2 ?_
  refine XS.iconst X1536.here hx rfl (hb hby at_166) ?_
  refine XS.goto X1536.here hx rfl (pc0 := 167) (pc' := 171) rfl (hb hby at_167) (by decide) (by decide) ?_
  refine XS.istore X1536.here hx rfl (hb hby at_171) rfl (l' := #[vI p0, vI p1, vI p2, vI p3, vI p4, vI lenv, vR dd, vR bo, vJ (own_u0 p0), .second, vI 5, vI 1]) rfl ?_
  refine XS.iload X1536.here hx rfl (hb hby at_173) rfl ?_
  refine XS.iconst X1536.here hx rfl (hb hby at_175) ?_
  refine XS.icmpNo X1536.here hx rfl (hb hby at_176) rfl (tlt (by decide : (1 : Int32) < (5 : Int32))).2.2.2 ?_
  refine XS.iload X1536.here hx rfl (hb hby at_179) rfl ?_
  refine XS.ifNo X1536.here hx rfl (hb hby at_181) rfl ((if0 _ _).trans (feq (by decide : ¬ (1 : Int32) = (0 : Int32))).1) ?_
  refine XS.aload X1536.here hx rfl (hb hby at_184) rfl rfl ?_
  refine XS.iconst X1536.here hx rfl (hb hby at_186) ?_
  exact k
 obtain ⟨cl1540, Ar1540, q1540, S1540, M1540, H1540, G1540⟩ := id V
 have hin1540 : ¬ ((1 : Int32) < 0 ∨ cl1540.slots.size ≤ ((1 : Int32)).toNatClampNeg) := inb_of S1540 hb1
 have hat1540 : cl1540.slots[((1 : Int32)).toNatClampNeg]? = some (.int (own_m1 p0)) := H1540.at hin1540 hv1
 have pre1541 : own_P p e below T1536 (mkF m 193 #[vI p0, vI p1, vI p2, vI p3, vI p4, vI lenv, vR dd, vR bo, vJ (own_u0 p0), .second, vI 5, vI 1] [(.int 5), (.int 1), (.long (own_u0 p0)), (.int (own_m1 p0))]) T0 (mkF m 151 #[vI p0, vI p1, vI p2, vI p3, vI p4, vI lenv, vR dd, vR bo, vJ (own_u0 p0), .second, vI 5, .unset] []) := by
  intro t k
  refine pre1539 t ?_
  refine X1536.baloadBytes hx (j := (1 : Int32)) (v := (.int (own_m1 p0))) (by rw [e1536]; exact Ar1540.1) (State.isArrayOf_alike hZ.alike Ar1540.2.1) Ar1540.2.2 hin1540 hat1540 (g := (mkF m 187 #[vI p0, vI p1, vI p2, vI p3, vI p4, vI lenv, vR dd, vR bo, vJ (own_u0 p0), .second, vI 5, vI 1] [(.int 1), (.ref bo)])) rfl rfl (hb hby at_187) _ ?_
  refine XS.lload X1536.here hx rfl (hb hby at_188) rfl ?_
  refine XS.iconst X1536.here hx rfl (hb hby at_190) ?_
  refine XS.iload X1536.here hx rfl (hb hby at_191) rfl ?_
  exact k
 obtain ⟨_, _, ⟨T1542, L1542, k1542, n1542⟩, -, X1542, ⟨Lc1542, hQ1542, l1542, y1542, z1542⟩, st1542⟩ := Jvm.LawKit.callS X1536 hx (y := (⟨own_LC, "idByte", "(JII)B"⟩ : MethodName)) hown (mvT hZ (own_w hw 45 rfl)) (mvT hZ (own_w hw 46 rfl)) (mvT hZ (own_w hw 47 rfl)) (mvT hZ (own_w hw 48 rfl)) (by decide) (backOf (W := 1) (rm8 l Z ar0 hw [] (own_u0 p0) (1 : Int32) (5 : Int32) h0 n0 Z0) hZ (own_w hw 48 rfl) (own_w hw 47 rfl) (by decide) (by decide)) (g := (mkF m 193 #[vI p0, vI p1, vI p2, vI p3, vI p4, vI lenv, vR dd, vR bo, vJ (own_u0 p0), .second, vI 5, vI 1] [(.int 5), (.int 1), (.long (own_u0 p0)), (.int (own_m1 p0))])) rfl (by rw [hml]; rfl) (argsL := [(.long (own_u0 p0)), (.int 1), (.int 5)]) (rest := [(.int (own_m1 p0))]) (lenOf pd_4 rfl) rfl (by show 2 * 0 + _ ≤ _; exact Nat.le_of_eq rfl) (hb hby at_193) (fun _ _ => ⟨rfl, e1536, hcl, hsl⟩)
 dsimp only [Pt.U, Pt.locs, Pt.cells, Pt.slots] at X1542 l1542 y1542 z1542 st1542 hQ1542
 subst l1542 y1542 z1542
 obtain ⟨rfl, N1542q, e1542⟩ := hQ1542
 have N1542 := Fr.app N1536 N1542q
 have pre1543 : own_P p e below T1542 (mkF m 196 #[vI p0, vI p1, vI p2, vI p3, vI p4, vI lenv, vR dd, vR bo, vJ (own_u0 p0), .second, vI 5, vI 1] [(.int (f8 (own_u0 p0) (1 : Int32) (5 : Int32))), (.int (own_m1 p0))]) T0 (mkF m 151 #[vI p0, vI p1, vI p2, vI p3, vI p4, vI lenv, vR dd, vR bo, vJ (own_u0 p0), .second, vI 5, .unset] []) := fun t k => pre1541 t (st1542 t k)
 have hk1544 : (own_m1 p0) = (f8 (own_u0 p0) (1 : Int32) (5 : Int32)) := (by unfold f8; rw [if_pos (by decide), ← own_S1]; rfl)
 have pre1545 : own_P p e below T1542 (mkF m 220 #[vI p0, vI p1, vI p2, vI p3, vI p4, vI lenv, vR dd, vR bo, vJ (own_u0 p0), .second, vI 5, vI 1] [(.int 2), (.ref bo)]) T0 (mkF m 151 #[vI p0, vI p1, vI p2, vI p3, vI p4, vI lenv, vR dd, vR bo, vJ (own_u0 p0), .second, vI 5, .unset] []) := by
  intro t k
  refine pre1543 t ?_
  refine XS.icmpNo X1542.here hx rfl (hb hby at_196) rfl (teq hk1544).2 ?_
  refine XS.iconst X1542.here hx rfl (hb hby at_199) ?_
  refine XS.goto X1542.here hx rfl (pc0 := 200) (pc' := 204) rfl (hb hby at_200) (by decide) (by decide) ?_
  refine XS.istore X1542.here hx rfl (hb hby at_204) rfl (l' := #[vI p0, vI p1, vI p2, vI p3, vI p4, vI lenv, vR dd, vR bo, vJ (own_u0 p0), .second, vI 5, vI 1]) rfl ?_
  refine XS.iload X1542.here hx rfl (hb hby at_206) rfl ?_
  refine XS.iconst X1542.here hx rfl (hb hby at_208) ?_
  refine XS.icmpNo X1542.here hx rfl (hb hby at_209) rfl (tlt (by decide : (2 : Int32) < (5 : Int32))).2.2.2 ?_
  refine XS.iload X1542.here hx rfl (hb hby at_212) rfl ?_
  refine XS.ifNo X1542.here hx rfl (hb hby at_214) rfl ((if0 _ _).trans (feq (by decide : ¬ (1 : Int32) = (0 : Int32))).1) ?_
  refine XS.aload X1542.here hx rfl (hb hby at_217) rfl rfl ?_
  refine XS.iconst X1542.here hx rfl (hb hby at_219) ?_
  exact k
 obtain ⟨cl1546, Ar1546, q1546, S1546, M1546, H1546, G1546⟩ := id V
 have hin1546 : ¬ ((2 : Int32) < 0 ∨ cl1546.slots.size ≤ ((2 : Int32)).toNatClampNeg) := inb_of S1546 hb2
 have hat1546 : cl1546.slots[((2 : Int32)).toNatClampNeg]? = some (.int (own_m2 p0)) := H1546.at hin1546 hv2
 have pre1547 : own_P p e below T1542 (mkF m 226 #[vI p0, vI p1, vI p2, vI p3, vI p4, vI lenv, vR dd, vR bo, vJ (own_u0 p0), .second, vI 5, vI 1] [(.int 5), (.int 2), (.long (own_u0 p0)), (.int (own_m2 p0))]) T0 (mkF m 151 #[vI p0, vI p1, vI p2, vI p3, vI p4, vI lenv, vR dd, vR bo, vJ (own_u0 p0), .second, vI 5, .unset] []) := by
  intro t k
  refine pre1545 t ?_
  refine X1542.baloadBytes hx (j := (2 : Int32)) (v := (.int (own_m2 p0))) (by rw [e1542]; exact Ar1546.1) (State.isArrayOf_alike hZ.alike Ar1546.2.1) Ar1546.2.2 hin1546 hat1546 (g := (mkF m 220 #[vI p0, vI p1, vI p2, vI p3, vI p4, vI lenv, vR dd, vR bo, vJ (own_u0 p0), .second, vI 5, vI 1] [(.int 2), (.ref bo)])) rfl rfl (hb hby at_220) _ ?_
  refine XS.lload X1542.here hx rfl (hb hby at_221) rfl ?_
  refine XS.iconst X1542.here hx rfl (hb hby at_223) ?_
  refine XS.iload X1542.here hx rfl (hb hby at_224) rfl ?_
  exact k
 obtain ⟨_, _, ⟨T1548, L1548, k1548, n1548⟩, -, X1548, ⟨Lc1548, hQ1548, l1548, y1548, z1548⟩, st1548⟩ := Jvm.LawKit.callS X1542 hx (y := (⟨own_LC, "idByte", "(JII)B"⟩ : MethodName)) hown (mvT hZ (own_w hw 45 rfl)) (mvT hZ (own_w hw 46 rfl)) (mvT hZ (own_w hw 47 rfl)) (mvT hZ (own_w hw 48 rfl)) (by decide) (backOf (W := 1) (rm8 l Z ar0 hw [] (own_u0 p0) (2 : Int32) (5 : Int32) h0 n0 Z0) hZ (own_w hw 48 rfl) (own_w hw 47 rfl) (by decide) (by decide)) (g := (mkF m 226 #[vI p0, vI p1, vI p2, vI p3, vI p4, vI lenv, vR dd, vR bo, vJ (own_u0 p0), .second, vI 5, vI 1] [(.int 5), (.int 2), (.long (own_u0 p0)), (.int (own_m2 p0))])) rfl (by rw [hml]; rfl) (argsL := [(.long (own_u0 p0)), (.int 2), (.int 5)]) (rest := [(.int (own_m2 p0))]) (lenOf pd_4 rfl) rfl (by show 2 * 0 + _ ≤ _; exact Nat.le_of_eq rfl) (hb hby at_226) (fun _ _ => ⟨rfl, e1542, hcl, hsl⟩)
 dsimp only [Pt.U, Pt.locs, Pt.cells, Pt.slots] at X1548 l1548 y1548 z1548 st1548 hQ1548
 subst l1548 y1548 z1548
 obtain ⟨rfl, N1548q, e1548⟩ := hQ1548
 have N1548 := Fr.app N1542 N1548q
 have pre1549 : own_P p e below T1548 (mkF m 229 #[vI p0, vI p1, vI p2, vI p3, vI p4, vI lenv, vR dd, vR bo, vJ (own_u0 p0), .second, vI 5, vI 1] [(.int (f8 (own_u0 p0) (2 : Int32) (5 : Int32))), (.int (own_m2 p0))]) T0 (mkF m 151 #[vI p0, vI p1, vI p2, vI p3, vI p4, vI lenv, vR dd, vR bo, vJ (own_u0 p0), .second, vI 5, .unset] []) := fun t k => pre1547 t (st1548 t k)
 have hk1550 : (own_m2 p0) = (f8 (own_u0 p0) (2 : Int32) (5 : Int32)) := (by unfold f8; rw [if_pos (by decide), ← own_S2]; rfl)
 have pre1551 : own_P p e below T1548 (mkF m 253 #[vI p0, vI p1, vI p2, vI p3, vI p4, vI lenv, vR dd, vR bo, vJ (own_u0 p0), .second, vI 5, vI 1] [(.int 3), (.ref bo)]) T0 (mkF m 151 #[vI p0, vI p1, vI p2, vI p3, vI p4, vI lenv, vR dd, vR bo, vJ (own_u0 p0), .second, vI 5, .unset] []) := by
  intro t k
  refine pre1549 t ?_
  refine XS.icmpNo X1548.here hx rfl (hb hby at_229) rfl (teq hk1550).2 ?_
  refine XS.iconst X1548.here hx rfl (hb hby at_232) ?_
  refine XS.goto X1548.here hx rfl (pc0 := 233) (pc' := 237) rfl (hb hby at_233) (by decide) (by decide) ?_
  refine XS.istore X1548.here hx rfl (hb hby at_237) rfl (l' := #[vI p0, vI p1, vI p2, vI p3, vI p4, vI lenv, vR dd, vR bo, vJ (own_u0 p0), .second, vI 5, vI 1]) rfl ?_
  refine XS.iload X1548.here hx rfl (hb hby at_239) rfl ?_
  refine XS.iconst X1548.here hx rfl (hb hby at_241) ?_
  refine XS.icmpNo X1548.here hx rfl (hb hby at_242) rfl (tlt (by decide : (3 : Int32) < (5 : Int32))).2.2.2 ?_
  refine XS.iload X1548.here hx rfl (hb hby at_245) rfl ?_
  refine XS.ifNo X1548.here hx rfl (hb hby at_247) rfl ((if0 _ _).trans (feq (by decide : ¬ (1 : Int32) = (0 : Int32))).1) ?_
  refine XS.aload X1548.here hx rfl (hb hby at_250) rfl rfl ?_
  refine XS.iconst X1548.here hx rfl (hb hby at_252) ?_
  exact k
 obtain ⟨cl1552, Ar1552, q1552, S1552, M1552, H1552, G1552⟩ := id V
 have hin1552 : ¬ ((3 : Int32) < 0 ∨ cl1552.slots.size ≤ ((3 : Int32)).toNatClampNeg) := inb_of S1552 hb3
 have hat1552 : cl1552.slots[((3 : Int32)).toNatClampNeg]? = some (.int (own_m3 p0)) := H1552.at hin1552 hv3
 have pre1553 : own_P p e below T1548 (mkF m 259 #[vI p0, vI p1, vI p2, vI p3, vI p4, vI lenv, vR dd, vR bo, vJ (own_u0 p0), .second, vI 5, vI 1] [(.int 5), (.int 3), (.long (own_u0 p0)), (.int (own_m3 p0))]) T0 (mkF m 151 #[vI p0, vI p1, vI p2, vI p3, vI p4, vI lenv, vR dd, vR bo, vJ (own_u0 p0), .second, vI 5, .unset] []) := by
  intro t k
  refine pre1551 t ?_
  refine X1548.baloadBytes hx (j := (3 : Int32)) (v := (.int (own_m3 p0))) (by rw [e1548]; exact Ar1552.1) (State.isArrayOf_alike hZ.alike Ar1552.2.1) Ar1552.2.2 hin1552 hat1552 (g := (mkF m 253 #[vI p0, vI p1, vI p2, vI p3, vI p4, vI lenv, vR dd, vR bo, vJ (own_u0 p0), .second, vI 5, vI 1] [(.int 3), (.ref bo)])) rfl rfl (hb hby at_253) _ ?_
  refine XS.lload X1548.here hx rfl (hb hby at_254) rfl ?_
  refine XS.iconst X1548.here hx rfl (hb hby at_256) ?_
  refine XS.iload X1548.here hx rfl (hb hby at_257) rfl ?_
  exact k
 obtain ⟨_, _, ⟨T1554, L1554, k1554, n1554⟩, -, X1554, ⟨Lc1554, hQ1554, l1554, y1554, z1554⟩, st1554⟩ := Jvm.LawKit.callS X1548 hx (y := (⟨own_LC, "idByte", "(JII)B"⟩ : MethodName)) hown (mvT hZ (own_w hw 45 rfl)) (mvT hZ (own_w hw 46 rfl)) (mvT hZ (own_w hw 47 rfl)) (mvT hZ (own_w hw 48 rfl)) (by decide) (backOf (W := 1) (rm8 l Z ar0 hw [] (own_u0 p0) (3 : Int32) (5 : Int32) h0 n0 Z0) hZ (own_w hw 48 rfl) (own_w hw 47 rfl) (by decide) (by decide)) (g := (mkF m 259 #[vI p0, vI p1, vI p2, vI p3, vI p4, vI lenv, vR dd, vR bo, vJ (own_u0 p0), .second, vI 5, vI 1] [(.int 5), (.int 3), (.long (own_u0 p0)), (.int (own_m3 p0))])) rfl (by rw [hml]; rfl) (argsL := [(.long (own_u0 p0)), (.int 3), (.int 5)]) (rest := [(.int (own_m3 p0))]) (lenOf pd_4 rfl) rfl (by show 2 * 0 + _ ≤ _; exact Nat.le_of_eq rfl) (hb hby at_259) (fun _ _ => ⟨rfl, e1548, hcl, hsl⟩)
 dsimp only [Pt.U, Pt.locs, Pt.cells, Pt.slots] at X1554 l1554 y1554 z1554 st1554 hQ1554
 subst l1554 y1554 z1554
 obtain ⟨rfl, N1554q, e1554⟩ := hQ1554
 have N1554 := Fr.app N1548 N1554q
 have pre1555 : own_P p e below T1554 (mkF m 262 #[vI p0, vI p1, vI p2, vI p3, vI p4, vI lenv, vR dd, vR bo, vJ (own_u0 p0), .second, vI 5, vI 1] [(.int (f8 (own_u0 p0) (3 : Int32) (5 : Int32))), (.int (own_m3 p0))]) T0 (mkF m 151 #[vI p0, vI p1, vI p2, vI p3, vI p4, vI lenv, vR dd, vR bo, vJ (own_u0 p0), .second, vI 5, .unset] []) := fun t k => pre1553 t (st1554 t k)
 have hk1556 : (own_m3 p0) = (f8 (own_u0 p0) (3 : Int32) (5 : Int32)) := (by unfold f8; rw [if_pos (by decide), ← own_S3]; rfl)
 have pre1557 : own_P p e below T1554 (mkF m 286 #[vI p0, vI p1, vI p2, vI p3, vI p4, vI lenv, vR dd, vR bo, vJ (own_u0 p0), .second, vI 5, vI 1] [(.int 4), (.ref bo)]) T0 (mkF m 151 #[vI p0, vI p1, vI p2, vI p3, vI p4, vI lenv, vR dd, vR bo, vJ (own_u0 p0), .second, vI 5, .unset] []) := by
  intro t k
  refine pre1555 t ?_
  refine XS.icmpNo X1554.here hx rfl (hb hby at_262) rfl (teq hk1556).2 ?_
  refine XS.iconst X1554.here hx rfl (hb hby at_265) ?_
  refine XS.goto X1554.here hx rfl (pc0 := 266) (pc' := 270) rfl (hb hby at_266) (by decide) (by decide) ?_
  refine XS.istore X1554.here hx rfl (hb hby at_270) rfl (l' := #[vI p0, vI p1, vI p2, vI p3, vI p4, vI lenv, vR dd, vR bo, vJ (own_u0 p0), .second, vI 5, vI 1]) rfl ?_
  refine XS.iload X1554.here hx rfl (hb hby at_272) rfl ?_
  refine XS.iconst X1554.here hx rfl (hb hby at_274) ?_
  refine XS.icmpNo X1554.here hx rfl (hb hby at_275) rfl (tlt (by decide : (4 : Int32) < (5 : Int32))).2.2.2 ?_
  refine XS.iload X1554.here hx rfl (hb hby at_278) rfl ?_
  refine XS.ifNo X1554.here hx rfl (hb hby at_280) rfl ((if0 _ _).trans (feq (by decide : ¬ (1 : Int32) = (0 : Int32))).1) ?_
  refine XS.aload X1554.here hx rfl (hb hby at_283) rfl rfl ?_
  refine XS.iconst X1554.here hx rfl (hb hby at_285) ?_
  exact k
 obtain ⟨cl1558, Ar1558, q1558, S1558, M1558, H1558, G1558⟩ := id V
 have hin1558 : ¬ ((4 : Int32) < 0 ∨ cl1558.slots.size ≤ ((4 : Int32)).toNatClampNeg) := inb_of S1558 hb4
 have hat1558 : cl1558.slots[((4 : Int32)).toNatClampNeg]? = some (.int (own_l4 p0)) := H1558.at hin1558 hv4
 have pre1559 : own_P p e below T1554 (mkF m 292 #[vI p0, vI p1, vI p2, vI p3, vI p4, vI lenv, vR dd, vR bo, vJ (own_u0 p0), .second, vI 5, vI 1] [(.int 5), (.int 4), (.long (own_u0 p0)), (.int (own_l4 p0))]) T0 (mkF m 151 #[vI p0, vI p1, vI p2, vI p3, vI p4, vI lenv, vR dd, vR bo, vJ (own_u0 p0), .second, vI 5, .unset] []) := by
  intro t k
  refine pre1557 t ?_
  refine X1554.baloadBytes hx (j := (4 : Int32)) (v := (.int (own_l4 p0))) (by rw [e1554]; exact Ar1558.1) (State.isArrayOf_alike hZ.alike Ar1558.2.1) Ar1558.2.2 hin1558 hat1558 (g := (mkF m 286 #[vI p0, vI p1, vI p2, vI p3, vI p4, vI lenv, vR dd, vR bo, vJ (own_u0 p0), .second, vI 5, vI 1] [(.int 4), (.ref bo)])) rfl rfl (hb hby at_286) _ ?_
  refine XS.lload X1554.here hx rfl (hb hby at_287) rfl ?_
  refine XS.iconst X1554.here hx rfl (hb hby at_289) ?_
  refine XS.iload X1554.here hx rfl (hb hby at_290) rfl ?_
  exact k
 obtain ⟨_, _, ⟨T1560, L1560, k1560, n1560⟩, -, X1560, ⟨Lc1560, hQ1560, l1560, y1560, z1560⟩, st1560⟩ := Jvm.LawKit.callS X1554 hx (y := (⟨own_LC, "idByte", "(JII)B"⟩ : MethodName)) hown (mvT hZ (own_w hw 45 rfl)) (mvT hZ (own_w hw 46 rfl)) (mvT hZ (own_w hw 47 rfl)) (mvT hZ (own_w hw 48 rfl)) (by decide) (backOf (W := 1) (rm8 l Z ar0 hw [] (own_u0 p0) (4 : Int32) (5 : Int32) h0 n0 Z0) hZ (own_w hw 48 rfl) (own_w hw 47 rfl) (by decide) (by decide)) (g := (mkF m 292 #[vI p0, vI p1, vI p2, vI p3, vI p4, vI lenv, vR dd, vR bo, vJ (own_u0 p0), .second, vI 5, vI 1] [(.int 5), (.int 4), (.long (own_u0 p0)), (.int (own_l4 p0))])) rfl (by rw [hml]; rfl) (argsL := [(.long (own_u0 p0)), (.int 4), (.int 5)]) (rest := [(.int (own_l4 p0))]) (lenOf pd_4 rfl) rfl (by show 2 * 0 + _ ≤ _; exact Nat.le_of_eq rfl) (hb hby at_292) (fun _ _ => ⟨rfl, e1554, hcl, hsl⟩)
 dsimp only [Pt.U, Pt.locs, Pt.cells, Pt.slots] at X1560 l1560 y1560 z1560 st1560 hQ1560
 subst l1560 y1560 z1560
 obtain ⟨rfl, N1560q, e1560⟩ := hQ1560
 have N1560 := Fr.app N1554 N1560q
 have pre1561 : own_P p e below T1560 (mkF m 295 #[vI p0, vI p1, vI p2, vI p3, vI p4, vI lenv, vR dd, vR bo, vJ (own_u0 p0), .second, vI 5, vI 1] [(.int (f8 (own_u0 p0) (4 : Int32) (5 : Int32))), (.int (own_l4 p0))]) T0 (mkF m 151 #[vI p0, vI p1, vI p2, vI p3, vI p4, vI lenv, vR dd, vR bo, vJ (own_u0 p0), .second, vI 5, .unset] []) := fun t k => pre1559 t (st1560 t k)
 have hk1562 : (own_l4 p0) = (f8 (own_u0 p0) (4 : Int32) (5 : Int32)) := (by unfold f8; rw [if_neg (by decide), ← own_S4]; rfl)
 have pre1563 : own_P p e below T1560 (mkF m 305 #[vI p0, vI p1, vI p2, vI p3, vI p4, vI lenv, vR dd, vR bo, vJ (own_u0 p0), .second, vI 5, vI 1] []) T0 (mkF m 151 #[vI p0, vI p1, vI p2, vI p3, vI p4, vI lenv, vR dd, vR bo, vJ (own_u0 p0), .second, vI 5, .unset] []) := by
  intro t k
  refine pre1561 t ?_
  refine XS.icmpNo X1560.here hx rfl (hb hby at_295) rfl (teq hk1562).2 ?_
  refine XS.iconst X1560.here hx rfl (hb hby at_298) ?_
  refine XS.goto X1560.here hx rfl (pc0 := 299) (pc' := 303) rfl (hb hby at_299) (by decide) (by decide) ?_
  refine XS.istore X1560.here hx rfl (hb hby at_303) rfl (l' := #[vI p0, vI p1, vI p2, vI p3, vI p4, vI lenv, vR dd, vR bo, vJ (own_u0 p0), .second, vI 5, vI 1]) rfl ?_
  exact k
 exact ⟨T1560, _, X1560, N1560, e1560, pre1563⟩
set_option maxRecDepth 65536 in
set_option maxHeartbeats 40000000 in
theorem own_doc0 {p : Program} {l : Launch} {e : Env} {s : State} {m : MethodId} {args : Array Value} {below : List Frame} {meth : Method} {c : Code} {T0 : State} {locs : List Loc} {cells slots : Nat} {Z : State} {ar0 : Array Value} {h0 : Heap} {n0 : Nat} {p0 : Int32} {p1 : Int32} {p2 : Int32} {p3 : Int32} {p4 : Int32} {dd : Addr} {bo : Addr} {kk : ClassId} {nn : Int32} {vs : List Value} {nv : Int32}
  (X0 : Stand p l e room_1 s m args below meth c T0 locs cells slots) (hx : p.tables.exec = Jvm.exec) (hZ : Z.Warmed39 s.vm) (hw : ∀ d ∈ tables_1, d.before ar0 Z = true) (hby : c.code = code) (hml : c.maxLocals = 12) (hown : s.vm.findClass own_LC = some m.cls) (e0 : T0.heap = h0) (N0 : Fr n0 locs) (Z0 : n0 ≤ h0.size) (hcl : cells ≤ room_1.cells) (hsl : slots ≤ room_1.slots) (V : Arv Z h0 bo kk .byte nn vs (.int 0)) :
  ∃ (T' : State) (L' : List Loc), Stand p l e room_1 s m args below meth c T' L' cells slots ∧ Fr n0 L' ∧ T'.heap = h0 ∧ ∀ t, Steps p.tables e below (T'.setTop (mkF m 395 #[vI p0, vI p1, vI p2, vI p3, vI p4, vI 0, vR dd, vR bo, vJ (own_u0 p0), .second, vI nv, vI 1] [(.int 1)])) t → Steps p.tables e below (T0.setTop (mkF m 305 #[vI p0, vI p1, vI p2, vI p3, vI p4, vI 0, vR dd, vR bo, vJ (own_u0 p0), .second, vI nv, vI 1] [])) t := by
 have pre0 : own_P p e below T0 (mkF m 305 #[vI p0, vI p1, vI p2, vI p3, vI p4, vI 0, vR dd, vR bo, vJ (own_u0 p0), .second, vI nv, vI 1] []) T0 (mkF m 305 #[vI p0, vI p1, vI p2, vI p3, vI p4, vI 0, vR dd, vR bo, vJ (own_u0 p0), .second, vI nv, vI 1] []) := fun t k => k
 have pre1564 : own_P p e below T0 (mkF m 395 #[vI p0, vI p1, vI p2, vI p3, vI p4, vI 0, vR dd, vR bo, vJ (own_u0 p0), .second, vI nv, vI 1] [(.int 1)]) T0 (mkF m 305 #[vI p0, vI p1, vI p2, vI p3, vI p4, vI 0, vR dd, vR bo, vJ (own_u0 p0), .second, vI nv, vI 1] []) := by
  intro t k
  refine pre0 t ?_
  refine XS.iload X0.here hx rfl (hb hby at_305) rfl ?_
  refine XS.ifYes X0.here hx rfl (pc0 := 307) (pc' := 332) rfl (hb hby at_307) rfl ((if0 _ _).trans (flt (by decide : ¬ (0 : Int32) < (0 : Int32))).2.2.2) (by decide) (by decide) ?_
  refine XS.iload X0.here hx rfl (hb hby at_332) rfl ?_
  refine XS.iconst X0.here hx rfl (hb hby at_334) ?_
  refine XS.icmpYes X0.here hx rfl (pc0 := 335) (pc' := 362) rfl (hb hby at_335) rfl (flt (by decide : ¬ (1 : Int32) < (0 : Int32))).2.2.2 (by decide) (by decide) ?_
  refine XS.iload X0.here hx rfl (hb hby at_362) rfl ?_
  refine XS.iconst X0.here hx rfl (hb hby at_364) ?_
  refine XS.icmpYes X0.here hx rfl (pc0 := 365) (pc' := 393) rfl (hb hby at_365) rfl (flt (by decide : ¬ (2 : Int32) < (0 : Int32))).2.2.2 (by decide) (by decide) ?_
  refine XS.iload X0.here hx rfl (hb hby at_393) rfl ?_
  exact k
 exact ⟨T0, _, X0, N0, e0, pre1564⟩
set_option maxRecDepth 65536 in
set_option maxHeartbeats 40000000 in
theorem own_doc1 {p : Program} {l : Launch} {e : Env} {s : State} {m : MethodId} {args : Array Value} {below : List Frame} {meth : Method} {c : Code} {T0 : State} {locs : List Loc} {cells slots : Nat} {Z : State} {ar0 : Array Value} {h0 : Heap} {n0 : Nat} {p0 : Int32} {p1 : Int32} {p2 : Int32} {p3 : Int32} {p4 : Int32} {dd : Addr} {bo : Addr} {kk : ClassId} {nn : Int32} {vs : List Value} {nv : Int32}
  (X0 : Stand p l e room_1 s m args below meth c T0 locs cells slots) (hx : p.tables.exec = Jvm.exec) (hZ : Z.Warmed39 s.vm) (hw : ∀ d ∈ tables_1, d.before ar0 Z = true) (hby : c.code = code) (hml : c.maxLocals = 12) (hown : s.vm.findClass own_LC = some m.cls) (e0 : T0.heap = h0) (N0 : Fr n0 locs) (Z0 : n0 ≤ h0.size) (hcl : cells ≤ room_1.cells) (hsl : slots ≤ room_1.slots) (V : Arv Z h0 bo kk .byte nn vs (.int 0)) (hb0 : ¬ nv < 0 ∧ nv < nn) (hv0 : vs.getD (nv).toNatClampNeg (.int 0) = (.int (own_d p2))) :
  ∃ (T' : State) (L' : List Loc), Stand p l e room_1 s m args below meth c T' L' cells slots ∧ Fr n0 L' ∧ T'.heap = h0 ∧ ∀ t, Steps p.tables e below (T'.setTop (mkF m 395 #[vI p0, vI p1, vI p2, vI p3, vI p4, vI 1, vR dd, vR bo, vJ (own_u0 p0), .second, vI nv, vI 1] [(.int 1)])) t → Steps p.tables e below (T0.setTop (mkF m 305 #[vI p0, vI p1, vI p2, vI p3, vI p4, vI 1, vR dd, vR bo, vJ (own_u0 p0), .second, vI nv, vI 1] [])) t := by
 have pre0 : own_P p e below T0 (mkF m 305 #[vI p0, vI p1, vI p2, vI p3, vI p4, vI 1, vR dd, vR bo, vJ (own_u0 p0), .second, vI nv, vI 1] []) T0 (mkF m 305 #[vI p0, vI p1, vI p2, vI p3, vI p4, vI 1, vR dd, vR bo, vJ (own_u0 p0), .second, vI nv, vI 1] []) := fun t k => k
 have pre1565 : own_P p e below T0 (mkF m 319 #[vI p0, vI p1, vI p2, vI p3, vI p4, vI 1, vR dd, vR bo, vJ (own_u0 p0), .second, vI nv, vI 1] [(.int nv), (.ref bo)]) T0 (mkF m 305 #[vI p0, vI p1, vI p2, vI p3, vI p4, vI 1, vR dd, vR bo, vJ (own_u0 p0), .second, vI nv, vI 1] []) := by
  intro t k
  refine pre0 t ?_
  refine XS.iload X0.here hx rfl (hb hby at_305) rfl ?_
  refine XS.ifNo X0.here hx rfl (hb hby at_307) rfl ((if0 _ _).trans (tlt (by decide : (0 : Int32) < (1 : Int32))).2.2.2) ?_
  refine XS.iload X0.here hx rfl (hb hby at_310) rfl ?_
  refine XS.ifNo X0.here hx rfl (hb hby at_312) rfl ((if0 _ _).trans (feq (by decide : ¬ (1 : Int32) = (0 : Int32))).1) ?_
  refine XS.aload X0.here hx rfl (hb hby at_315) rfl rfl ?_
  refine XS.iload X0.here hx rfl (hb hby at_317) rfl ?_
  exact k
 obtain ⟨cl1566, Ar1566, q1566, S1566, M1566, H1566, G1566⟩ := id V
 have hin1566 : ¬ (nv < 0 ∨ cl1566.slots.size ≤ (nv).toNatClampNeg) := inb_of S1566 hb0
 have hat1566 : cl1566.slots[(nv).toNatClampNeg]? = some (.int (own_d p2)) := H1566.at hin1566 hv0
 have pre1567 : own_P p e below T0 (mkF m 322 #[vI p0, vI p1, vI p2, vI p3, vI p4, vI 1, vR dd, vR bo, vJ (own_u0 p0), .second, vI nv, vI 1] [(.int (p2.toInt8.toInt32)), (.int (own_d p2))]) T0 (mkF m 305 #[vI p0, vI p1, vI p2, vI p3, vI p4, vI 1, vR dd, vR bo, vJ (own_u0 p0), .second, vI nv, vI 1] []) := by
  intro t k
  refine pre1565 t ?_
  refine X0.baloadBytes hx (j := nv) (v := (.int (own_d p2))) (by rw [e0]; exact Ar1566.1) (State.isArrayOf_alike hZ.alike Ar1566.2.1) Ar1566.2.2 hin1566 hat1566 (g := (mkF m 319 #[vI p0, vI p1, vI p2, vI p3, vI p4, vI 1, vR dd, vR bo, vJ (own_u0 p0), .second, vI nv, vI 1] [(.int nv), (.ref bo)])) rfl rfl (hb hby at_319) _ ?_
  refine XS.iloadN X0.here hx rfl (hb hby at_320) rfl ?_
  refine XS.i2b X0.here hx rfl (hb hby at_321) rfl ?_
  exact k
 have hk1568 : (own_d p2) = (p2.toInt8.toInt32) := own_idem _
 have pre1569 : own_P p e below T0 (mkF m 395 #[vI p0, vI p1, vI p2, vI p3, vI p4, vI 1, vR dd, vR bo, vJ (own_u0 p0), .second, vI nv, vI 1] [(.int 1)]) T0 (mkF m 305 #[vI p0, vI p1, vI p2, vI p3, vI p4, vI 1, vR dd, vR bo, vJ (own_u0 p0), .second, vI nv, vI 1] []) := by
  intro t k
  refine pre1567 t ?_
  refine XS.icmpNo X0.here hx rfl (hb hby at_322) rfl (teq hk1568).2 ?_
  refine XS.iconst X0.here hx rfl (hb hby at_325) ?_
  refine XS.goto X0.here hx rfl (pc0 := 326) (pc' := 330) rfl (hb hby at_326) (by decide) (by decide) ?_
  refine XS.istore X0.here hx rfl (hb hby at_330) rfl (l' := #[vI p0, vI p1, vI p2, vI p3, vI p4, vI 1, vR dd, vR bo, vJ (own_u0 p0), .second, vI nv, vI 1]) rfl ?_
  refine XS.iload X0.here hx rfl (hb hby at_332) rfl ?_
  refine XS.iconst X0.here hx rfl (hb hby at_334) ?_
  refine XS.icmpYes X0.here hx rfl (pc0 := 335) (pc' := 362) rfl (hb hby at_335) rfl (flt (by decide : ¬ (1 : Int32) < (1 : Int32))).2.2.2 (by decide) (by decide) ?_
  refine XS.iload X0.here hx rfl (hb hby at_362) rfl ?_
  refine XS.iconst X0.here hx rfl (hb hby at_364) ?_
  refine XS.icmpYes X0.here hx rfl (pc0 := 365) (pc' := 393) rfl (hb hby at_365) rfl (flt (by decide : ¬ (2 : Int32) < (1 : Int32))).2.2.2 (by decide) (by decide) ?_
  refine XS.iload X0.here hx rfl (hb hby at_393) rfl ?_
  exact k
 exact ⟨T0, _, X0, N0, e0, pre1569⟩
set_option maxRecDepth 65536 in
set_option maxHeartbeats 40000000 in
theorem own_doc2 {p : Program} {l : Launch} {e : Env} {s : State} {m : MethodId} {args : Array Value} {below : List Frame} {meth : Method} {c : Code} {T0 : State} {locs : List Loc} {cells slots : Nat} {Z : State} {ar0 : Array Value} {h0 : Heap} {n0 : Nat} {p0 : Int32} {p1 : Int32} {p2 : Int32} {p3 : Int32} {p4 : Int32} {dd : Addr} {bo : Addr} {kk : ClassId} {nn : Int32} {vs : List Value} {nv : Int32}
  (X0 : Stand p l e room_1 s m args below meth c T0 locs cells slots) (hx : p.tables.exec = Jvm.exec) (hZ : Z.Warmed39 s.vm) (hw : ∀ d ∈ tables_1, d.before ar0 Z = true) (hby : c.code = code) (hml : c.maxLocals = 12) (hown : s.vm.findClass own_LC = some m.cls) (e0 : T0.heap = h0) (N0 : Fr n0 locs) (Z0 : n0 ≤ h0.size) (hcl : cells ≤ room_1.cells) (hsl : slots ≤ room_1.slots) (V : Arv Z h0 bo kk .byte nn vs (.int 0)) (hb0 : ¬ nv < 0 ∧ nv < nn) (hb1 : ¬ (nv + (1 : Int32)) < 0 ∧ (nv + (1 : Int32)) < nn) (hv0 : vs.getD (nv).toNatClampNeg (.int 0) = (.int (own_d p2))) (hv1 : vs.getD ((nv + (1 : Int32))).toNatClampNeg (.int 0) = (.int (own_d p3))) :
  ∃ (T' : State) (L' : List Loc), Stand p l e room_1 s m args below meth c T' L' cells slots ∧ Fr n0 L' ∧ T'.heap = h0 ∧ ∀ t, Steps p.tables e below (T'.setTop (mkF m 395 #[vI p0, vI p1, vI p2, vI p3, vI p4, vI 2, vR dd, vR bo, vJ (own_u0 p0), .second, vI nv, vI 1] [(.int 1)])) t → Steps p.tables e below (T0.setTop (mkF m 305 #[vI p0, vI p1, vI p2, vI p3, vI p4, vI 2, vR dd, vR bo, vJ (own_u0 p0), .second, vI nv, vI 1] [])) t := by
 have pre0 : own_P p e below T0 (mkF m 305 #[vI p0, vI p1, vI p2, vI p3, vI p4, vI 2, vR dd, vR bo, vJ (own_u0 p0), .second, vI nv, vI 1] []) T0 (mkF m 305 #[vI p0, vI p1, vI p2, vI p3, vI p4, vI 2, vR dd, vR bo, vJ (own_u0 p0), .second, vI nv, vI 1] []) := fun t k => k
 have pre1570 : own_P p e below T0 (mkF m 319 #[vI p0, vI p1, vI p2, vI p3, vI p4, vI 2, vR dd, vR bo, vJ (own_u0 p0), .second, vI nv, vI 1] [(.int nv), (.ref bo)]) T0 (mkF m 305 #[vI p0, vI p1, vI p2, vI p3, vI p4, vI 2, vR dd, vR bo, vJ (own_u0 p0), .second, vI nv, vI 1] []) := by
  intro t k
  refine pre0 t ?_
  refine XS.iload X0.here hx rfl (hb hby at_305) rfl ?_
  refine XS.ifNo X0.here hx rfl (hb hby at_307) rfl ((if0 _ _).trans (tlt (by decide : (0 : Int32) < (2 : Int32))).2.2.2) ?_
  refine XS.iload X0.here hx rfl (hb hby at_310) rfl ?_
  refine XS.ifNo X0.here hx rfl (hb hby at_312) rfl ((if0 _ _).trans (feq (by decide : ¬ (1 : Int32) = (0 : Int32))).1) ?_
  refine XS.aload X0.here hx rfl (hb hby at_315) rfl rfl ?_
  refine XS.iload X0.here hx rfl (hb hby at_317) rfl ?_
  exact k
 obtain ⟨cl1571, Ar1571, q1571, S1571, M1571, H1571, G1571⟩ := id V
 have hin1571 : ¬ (nv < 0 ∨ cl1571.slots.size ≤ (nv).toNatClampNeg) := inb_of S1571 hb0
 have hat1571 : cl1571.slots[(nv).toNatClampNeg]? = some (.int (own_d p2)) := H1571.at hin1571 hv0
 have pre1572 : own_P p e below T0 (mkF m 322 #[vI p0, vI p1, vI p2, vI p3, vI p4, vI 2, vR dd, vR bo, vJ (own_u0 p0), .second, vI nv, vI 1] [(.int (p2.toInt8.toInt32)), (.int (own_d p2))]) T0 (mkF m 305 #[vI p0, vI p1, vI p2, vI p3, vI p4, vI 2, vR dd, vR bo, vJ (own_u0 p0), .second, vI nv, vI 1] []) := by
  intro t k
  refine pre1570 t ?_
  refine X0.baloadBytes hx (j := nv) (v := (.int (own_d p2))) (by rw [e0]; exact Ar1571.1) (State.isArrayOf_alike hZ.alike Ar1571.2.1) Ar1571.2.2 hin1571 hat1571 (g := (mkF m 319 #[vI p0, vI p1, vI p2, vI p3, vI p4, vI 2, vR dd, vR bo, vJ (own_u0 p0), .second, vI nv, vI 1] [(.int nv), (.ref bo)])) rfl rfl (hb hby at_319) _ ?_
  refine XS.iloadN X0.here hx rfl (hb hby at_320) rfl ?_
  refine XS.i2b X0.here hx rfl (hb hby at_321) rfl ?_
  exact k
 have hk1573 : (own_d p2) = (p2.toInt8.toInt32) := own_idem _
 have pre1574 : own_P p e below T0 (mkF m 349 #[vI p0, vI p1, vI p2, vI p3, vI p4, vI 2, vR dd, vR bo, vJ (own_u0 p0), .second, vI nv, vI 1] [(.int (nv + (1 : Int32))), (.ref bo)]) T0 (mkF m 305 #[vI p0, vI p1, vI p2, vI p3, vI p4, vI 2, vR dd, vR bo, vJ (own_u0 p0), .second, vI nv, vI 1] []) := by
  intro t k
  refine pre1572 t ?_
  refine XS.icmpNo X0.here hx rfl (hb hby at_322) rfl (teq hk1573).2 ?_
  refine XS.iconst X0.here hx rfl (hb hby at_325) ?_
  refine XS.goto X0.here hx rfl (pc0 := 326) (pc' := 330) rfl (hb hby at_326) (by decide) (by decide) ?_
  refine XS.istore X0.here hx rfl (hb hby at_330) rfl (l' := #[vI p0, vI p1, vI p2, vI p3, vI p4, vI 2, vR dd, vR bo, vJ (own_u0 p0), .second, vI nv, vI 1]) rfl ?_
  refine XS.iload X0.here hx rfl (hb hby at_332) rfl ?_
  refine XS.iconst X0.here hx rfl (hb hby at_334) ?_
  refine XS.icmpNo X0.here hx rfl (hb hby at_335) rfl (tlt (by decide : (1 : Int32) < (2 : Int32))).2.2.2 ?_
  refine XS.iload X0.here hx rfl (hb hby at_338) rfl ?_
  refine XS.ifNo X0.here hx rfl (hb hby at_340) rfl ((if0 _ _).trans (feq (by decide : ¬ (1 : Int32) = (0 : Int32))).1) ?_
  refine XS.aload X0.here hx rfl (hb hby at_343) rfl rfl ?_
  refine XS.iload X0.here hx rfl (hb hby at_345) rfl ?_
  refine XS.iconst X0.here hx rfl (hb hby at_347) ?_
  refine XS.iadd X0.here hx rfl (hb hby at_348) rfl ?_
  exact k
 obtain ⟨cl1575, Ar1575, q1575, S1575, M1575, H1575, G1575⟩ := id V
 have hin1575 : ¬ ((nv + (1 : Int32)) < 0 ∨ cl1575.slots.size ≤ ((nv + (1 : Int32))).toNatClampNeg) := inb_of S1575 hb1
 have hat1575 : cl1575.slots[((nv + (1 : Int32))).toNatClampNeg]? = some (.int (own_d p3)) := H1575.at hin1575 hv1
 have pre1576 : own_P p e below T0 (mkF m 352 #[vI p0, vI p1, vI p2, vI p3, vI p4, vI 2, vR dd, vR bo, vJ (own_u0 p0), .second, vI nv, vI 1] [(.int (p3.toInt8.toInt32)), (.int (own_d p3))]) T0 (mkF m 305 #[vI p0, vI p1, vI p2, vI p3, vI p4, vI 2, vR dd, vR bo, vJ (own_u0 p0), .second, vI nv, vI 1] []) := by
  intro t k
  refine pre1574 t ?_
  refine X0.baloadBytes hx (j := (nv + (1 : Int32))) (v := (.int (own_d p3))) (by rw [e0]; exact Ar1575.1) (State.isArrayOf_alike hZ.alike Ar1575.2.1) Ar1575.2.2 hin1575 hat1575 (g := (mkF m 349 #[vI p0, vI p1, vI p2, vI p3, vI p4, vI 2, vR dd, vR bo, vJ (own_u0 p0), .second, vI nv, vI 1] [(.int (nv + (1 : Int32))), (.ref bo)])) rfl rfl (hb hby at_349) _ ?_
  refine XS.iloadN X0.here hx rfl (hb hby at_350) rfl ?_
  refine XS.i2b X0.here hx rfl (hb hby at_351) rfl ?_
  exact k
 have hk1577 : (own_d p3) = (p3.toInt8.toInt32) := own_idem _
 have pre1578 : own_P p e below T0 (mkF m 395 #[vI p0, vI p1, vI p2, vI p3, vI p4, vI 2, vR dd, vR bo, vJ (own_u0 p0), .second, vI nv, vI 1] [(.int 1)]) T0 (mkF m 305 #[vI p0, vI p1, vI p2, vI p3, vI p4, vI 2, vR dd, vR bo, vJ (own_u0 p0), .second, vI nv, vI 1] []) := by
  intro t k
  refine pre1576 t ?_
  refine XS.icmpNo X0.here hx rfl (hb hby at_352) rfl (teq hk1577).2 ?_
  refine XS.iconst X0.here hx rfl (hb hby at_355) ?_
  refine XS.goto X0.here hx rfl (pc0 := 356) (pc' := 360) rfl (hb hby at_356) (by decide) (by decide) ?_
  refine XS.istore X0.here hx rfl (hb hby at_360) rfl (l' := #[vI p0, vI p1, vI p2, vI p3, vI p4, vI 2, vR dd, vR bo, vJ (own_u0 p0), .second, vI nv, vI 1]) rfl ?_
  refine XS.iload X0.here hx rfl (hb hby at_362) rfl ?_
  refine XS.iconst X0.here hx rfl (hb hby at_364) ?_
  refine XS.icmpYes X0.here hx rfl (pc0 := 365) (pc' := 393) rfl (hb hby at_365) rfl (flt (by decide : ¬ (2 : Int32) < (2 : Int32))).2.2.2 (by decide) (by decide) ?_
  refine XS.iload X0.here hx rfl (hb hby at_393) rfl ?_
  exact k
 exact ⟨T0, _, X0, N0, e0, pre1578⟩
set_option maxRecDepth 65536 in
set_option maxHeartbeats 40000000 in
theorem own_doc3 {p : Program} {l : Launch} {e : Env} {s : State} {m : MethodId} {args : Array Value} {below : List Frame} {meth : Method} {c : Code} {T0 : State} {locs : List Loc} {cells slots : Nat} {Z : State} {ar0 : Array Value} {h0 : Heap} {n0 : Nat} {p0 : Int32} {p1 : Int32} {p2 : Int32} {p3 : Int32} {p4 : Int32} {dd : Addr} {bo : Addr} {kk : ClassId} {nn : Int32} {vs : List Value} {nv : Int32}
  (X0 : Stand p l e room_1 s m args below meth c T0 locs cells slots) (hx : p.tables.exec = Jvm.exec) (hZ : Z.Warmed39 s.vm) (hw : ∀ d ∈ tables_1, d.before ar0 Z = true) (hby : c.code = code) (hml : c.maxLocals = 12) (hown : s.vm.findClass own_LC = some m.cls) (e0 : T0.heap = h0) (N0 : Fr n0 locs) (Z0 : n0 ≤ h0.size) (hcl : cells ≤ room_1.cells) (hsl : slots ≤ room_1.slots) (V : Arv Z h0 bo kk .byte nn vs (.int 0)) (hb0 : ¬ nv < 0 ∧ nv < nn) (hb1 : ¬ (nv + (1 : Int32)) < 0 ∧ (nv + (1 : Int32)) < nn) (hb2 : ¬ (nv + (2 : Int32)) < 0 ∧ (nv + (2 : Int32)) < nn) (hv0 : vs.getD (nv).toNatClampNeg (.int 0) = (.int (own_d p2))) (hv1 : vs.getD ((nv + (1 : Int32))).toNatClampNeg (.int 0) = (.int (own_d p3))) (hv2 : vs.getD ((nv + (2 : Int32))).toNatClampNeg (.int 0) = (.int (own_d p4))) :
  ∃ (T' : State) (L' : List Loc), Stand p l e room_1 s m args below meth c T' L' cells slots ∧ Fr n0 L' ∧ T'.heap = h0 ∧ ∀ t, Steps p.tables e below (T'.setTop (mkF m 395 #[vI p0, vI p1, vI p2, vI p3, vI p4, vI 3, vR dd, vR bo, vJ (own_u0 p0), .second, vI nv, vI 1] [(.int 1)])) t → Steps p.tables e below (T0.setTop (mkF m 305 #[vI p0, vI p1, vI p2, vI p3, vI p4, vI 3, vR dd, vR bo, vJ (own_u0 p0), .second, vI nv, vI 1] [])) t := by
 have pre0 : own_P p e below T0 (mkF m 305 #[vI p0, vI p1, vI p2, vI p3, vI p4, vI 3, vR dd, vR bo, vJ (own_u0 p0), .second, vI nv, vI 1] []) T0 (mkF m 305 #[vI p0, vI p1, vI p2, vI p3, vI p4, vI 3, vR dd, vR bo, vJ (own_u0 p0), .second, vI nv, vI 1] []) := fun t k => k
 have pre1579 : own_P p e below T0 (mkF m 319 #[vI p0, vI p1, vI p2, vI p3, vI p4, vI 3, vR dd, vR bo, vJ (own_u0 p0), .second, vI nv, vI 1] [(.int nv), (.ref bo)]) T0 (mkF m 305 #[vI p0, vI p1, vI p2, vI p3, vI p4, vI 3, vR dd, vR bo, vJ (own_u0 p0), .second, vI nv, vI 1] []) := by
  intro t k
  refine pre0 t ?_
  refine XS.iload X0.here hx rfl (hb hby at_305) rfl ?_
  refine XS.ifNo X0.here hx rfl (hb hby at_307) rfl ((if0 _ _).trans (tlt (by decide : (0 : Int32) < (3 : Int32))).2.2.2) ?_
  refine XS.iload X0.here hx rfl (hb hby at_310) rfl ?_
  refine XS.ifNo X0.here hx rfl (hb hby at_312) rfl ((if0 _ _).trans (feq (by decide : ¬ (1 : Int32) = (0 : Int32))).1) ?_
  refine XS.aload X0.here hx rfl (hb hby at_315) rfl rfl ?_
  refine XS.iload X0.here hx rfl (hb hby at_317) rfl ?_
  exact k
 obtain ⟨cl1580, Ar1580, q1580, S1580, M1580, H1580, G1580⟩ := id V
 have hin1580 : ¬ (nv < 0 ∨ cl1580.slots.size ≤ (nv).toNatClampNeg) := inb_of S1580 hb0
 have hat1580 : cl1580.slots[(nv).toNatClampNeg]? = some (.int (own_d p2)) := H1580.at hin1580 hv0
 have pre1581 : own_P p e below T0 (mkF m 322 #[vI p0, vI p1, vI p2, vI p3, vI p4, vI 3, vR dd, vR bo, vJ (own_u0 p0), .second, vI nv, vI 1] [(.int (p2.toInt8.toInt32)), (.int (own_d p2))]) T0 (mkF m 305 #[vI p0, vI p1, vI p2, vI p3, vI p4, vI 3, vR dd, vR bo, vJ (own_u0 p0), .second, vI nv, vI 1] []) := by
  intro t k
  refine pre1579 t ?_
  refine X0.baloadBytes hx (j := nv) (v := (.int (own_d p2))) (by rw [e0]; exact Ar1580.1) (State.isArrayOf_alike hZ.alike Ar1580.2.1) Ar1580.2.2 hin1580 hat1580 (g := (mkF m 319 #[vI p0, vI p1, vI p2, vI p3, vI p4, vI 3, vR dd, vR bo, vJ (own_u0 p0), .second, vI nv, vI 1] [(.int nv), (.ref bo)])) rfl rfl (hb hby at_319) _ ?_
  refine XS.iloadN X0.here hx rfl (hb hby at_320) rfl ?_
  refine XS.i2b X0.here hx rfl (hb hby at_321) rfl ?_
  exact k
 have hk1582 : (own_d p2) = (p2.toInt8.toInt32) := own_idem _
 have pre1583 : own_P p e below T0 (mkF m 349 #[vI p0, vI p1, vI p2, vI p3, vI p4, vI 3, vR dd, vR bo, vJ (own_u0 p0), .second, vI nv, vI 1] [(.int (nv + (1 : Int32))), (.ref bo)]) T0 (mkF m 305 #[vI p0, vI p1, vI p2, vI p3, vI p4, vI 3, vR dd, vR bo, vJ (own_u0 p0), .second, vI nv, vI 1] []) := by
  intro t k
  refine pre1581 t ?_
  refine XS.icmpNo X0.here hx rfl (hb hby at_322) rfl (teq hk1582).2 ?_
  refine XS.iconst X0.here hx rfl (hb hby at_325) ?_
  refine XS.goto X0.here hx rfl (pc0 := 326) (pc' := 330) rfl (hb hby at_326) (by decide) (by decide) ?_
  refine XS.istore X0.here hx rfl (hb hby at_330) rfl (l' := #[vI p0, vI p1, vI p2, vI p3, vI p4, vI 3, vR dd, vR bo, vJ (own_u0 p0), .second, vI nv, vI 1]) rfl ?_
  refine XS.iload X0.here hx rfl (hb hby at_332) rfl ?_
  refine XS.iconst X0.here hx rfl (hb hby at_334) ?_
  refine XS.icmpNo X0.here hx rfl (hb hby at_335) rfl (tlt (by decide : (1 : Int32) < (3 : Int32))).2.2.2 ?_
  refine XS.iload X0.here hx rfl (hb hby at_338) rfl ?_
  refine XS.ifNo X0.here hx rfl (hb hby at_340) rfl ((if0 _ _).trans (feq (by decide : ¬ (1 : Int32) = (0 : Int32))).1) ?_
  refine XS.aload X0.here hx rfl (hb hby at_343) rfl rfl ?_
  refine XS.iload X0.here hx rfl (hb hby at_345) rfl ?_
  refine XS.iconst X0.here hx rfl (hb hby at_347) ?_
  refine XS.iadd X0.here hx rfl (hb hby at_348) rfl ?_
  exact k
 obtain ⟨cl1584, Ar1584, q1584, S1584, M1584, H1584, G1584⟩ := id V
 have hin1584 : ¬ ((nv + (1 : Int32)) < 0 ∨ cl1584.slots.size ≤ ((nv + (1 : Int32))).toNatClampNeg) := inb_of S1584 hb1
 have hat1584 : cl1584.slots[((nv + (1 : Int32))).toNatClampNeg]? = some (.int (own_d p3)) := H1584.at hin1584 hv1
 have pre1585 : own_P p e below T0 (mkF m 352 #[vI p0, vI p1, vI p2, vI p3, vI p4, vI 3, vR dd, vR bo, vJ (own_u0 p0), .second, vI nv, vI 1] [(.int (p3.toInt8.toInt32)), (.int (own_d p3))]) T0 (mkF m 305 #[vI p0, vI p1, vI p2, vI p3, vI p4, vI 3, vR dd, vR bo, vJ (own_u0 p0), .second, vI nv, vI 1] []) := by
  intro t k
  refine pre1583 t ?_
  refine X0.baloadBytes hx (j := (nv + (1 : Int32))) (v := (.int (own_d p3))) (by rw [e0]; exact Ar1584.1) (State.isArrayOf_alike hZ.alike Ar1584.2.1) Ar1584.2.2 hin1584 hat1584 (g := (mkF m 349 #[vI p0, vI p1, vI p2, vI p3, vI p4, vI 3, vR dd, vR bo, vJ (own_u0 p0), .second, vI nv, vI 1] [(.int (nv + (1 : Int32))), (.ref bo)])) rfl rfl (hb hby at_349) _ ?_
  refine XS.iloadN X0.here hx rfl (hb hby at_350) rfl ?_
  refine XS.i2b X0.here hx rfl (hb hby at_351) rfl ?_
  exact k
 have hk1586 : (own_d p3) = (p3.toInt8.toInt32) := own_idem _
 have pre1587 : own_P p e below T0 (mkF m 379 #[vI p0, vI p1, vI p2, vI p3, vI p4, vI 3, vR dd, vR bo, vJ (own_u0 p0), .second, vI nv, vI 1] [(.int (nv + (2 : Int32))), (.ref bo)]) T0 (mkF m 305 #[vI p0, vI p1, vI p2, vI p3, vI p4, vI 3, vR dd, vR bo, vJ (own_u0 p0), .second, vI nv, vI 1] []) := by
  intro t k
  refine pre1585 t ?_
  refine XS.icmpNo X0.here hx rfl (hb hby at_352) rfl (teq hk1586).2 ?_
  refine XS.iconst X0.here hx rfl (hb hby at_355) ?_
  refine XS.goto X0.here hx rfl (pc0 := 356) (pc' := 360) rfl (hb hby at_356) (by decide) (by decide) ?_
  refine XS.istore X0.here hx rfl (hb hby at_360) rfl (l' := #[vI p0, vI p1, vI p2, vI p3, vI p4, vI 3, vR dd, vR bo, vJ (own_u0 p0), .second, vI nv, vI 1]) rfl ?_
  refine XS.iload X0.here hx rfl (hb hby at_362) rfl ?_
  refine XS.iconst X0.here hx rfl (hb hby at_364) ?_
  refine XS.icmpNo X0.here hx rfl (hb hby at_365) rfl (tlt (by decide : (2 : Int32) < (3 : Int32))).2.2.2 ?_
  refine XS.iload X0.here hx rfl (hb hby at_368) rfl ?_
  refine XS.ifNo X0.here hx rfl (hb hby at_370) rfl ((if0 _ _).trans (feq (by decide : ¬ (1 : Int32) = (0 : Int32))).1) ?_
  refine XS.aload X0.here hx rfl (hb hby at_373) rfl rfl ?_
  refine XS.iload X0.here hx rfl (hb hby at_375) rfl ?_
  refine XS.iconst X0.here hx rfl (hb hby at_377) ?_
  refine XS.iadd X0.here hx rfl (hb hby at_378) rfl ?_
  exact k
 obtain ⟨cl1588, Ar1588, q1588, S1588, M1588, H1588, G1588⟩ := id V
 have hin1588 : ¬ ((nv + (2 : Int32)) < 0 ∨ cl1588.slots.size ≤ ((nv + (2 : Int32))).toNatClampNeg) := inb_of S1588 hb2
 have hat1588 : cl1588.slots[((nv + (2 : Int32))).toNatClampNeg]? = some (.int (own_d p4)) := H1588.at hin1588 hv2
 have pre1589 : own_P p e below T0 (mkF m 383 #[vI p0, vI p1, vI p2, vI p3, vI p4, vI 3, vR dd, vR bo, vJ (own_u0 p0), .second, vI nv, vI 1] [(.int (p4.toInt8.toInt32)), (.int (own_d p4))]) T0 (mkF m 305 #[vI p0, vI p1, vI p2, vI p3, vI p4, vI 3, vR dd, vR bo, vJ (own_u0 p0), .second, vI nv, vI 1] []) := by
  intro t k
  refine pre1587 t ?_
  refine X0.baloadBytes hx (j := (nv + (2 : Int32))) (v := (.int (own_d p4))) (by rw [e0]; exact Ar1588.1) (State.isArrayOf_alike hZ.alike Ar1588.2.1) Ar1588.2.2 hin1588 hat1588 (g := (mkF m 379 #[vI p0, vI p1, vI p2, vI p3, vI p4, vI 3, vR dd, vR bo, vJ (own_u0 p0), .second, vI nv, vI 1] [(.int (nv + (2 : Int32))), (.ref bo)])) rfl rfl (hb hby at_379) _ ?_
  refine XS.iload X0.here hx rfl (hb hby at_380) rfl ?_
  refine XS.i2b X0.here hx rfl (hb hby at_382) rfl ?_
  exact k
 have hk1590 : (own_d p4) = (p4.toInt8.toInt32) := own_idem _
 have pre1591 : own_P p e below T0 (mkF m 395 #[vI p0, vI p1, vI p2, vI p3, vI p4, vI 3, vR dd, vR bo, vJ (own_u0 p0), .second, vI nv, vI 1] [(.int 1)]) T0 (mkF m 305 #[vI p0, vI p1, vI p2, vI p3, vI p4, vI 3, vR dd, vR bo, vJ (own_u0 p0), .second, vI nv, vI 1] []) := by
  intro t k
  refine pre1589 t ?_
  refine XS.icmpNo X0.here hx rfl (hb hby at_383) rfl (teq hk1590).2 ?_
  refine XS.iconst X0.here hx rfl (hb hby at_386) ?_
  refine XS.goto X0.here hx rfl (pc0 := 387) (pc' := 391) rfl (hb hby at_387) (by decide) (by decide) ?_
  refine XS.istore X0.here hx rfl (hb hby at_391) rfl (l' := #[vI p0, vI p1, vI p2, vI p3, vI p4, vI 3, vR dd, vR bo, vJ (own_u0 p0), .second, vI nv, vI 1]) rfl ?_
  refine XS.iload X0.here hx rfl (hb hby at_393) rfl ?_
  exact k
 exact ⟨T0, _, X0, N0, e0, pre1591⟩
theorem pd_5 : parseMethodDescriptor "(I[B)V" = some ⟨[.int, (.array .byte)], none⟩ := by decide +kernel
theorem pd_6 : parseMethodDescriptor "()[B" = some ⟨[], some (.array .byte)⟩ := by decide +kernel
theorem ef_0 (m : MethodId) (x0 : Int32) (x1 : Int32) (x2 : Int32) (x3 : Int32) (x4 : Int32) : entryFrame m #[(.int x0), (.int x1), (.int x2), (.int x3), (.int x4)] maxLocals = mkF m 0 #[vI x0, vI x1, vI x2, vI x3, vI x4, .unset, .unset, .unset, .unset, .unset, .unset, .unset] [] := by first | (simp [entryFrame, mkF, argsToLocals, Value.category, maxLocals]; done) | rfl
def Q0 (Z : State) (p0 : Int32) (p1 : Int32) (p2 : Int32) (p3 : Int32) (p4 : Int32) (h0 : Heap) (n0 : Nat) (v : Option Value) (h : Heap) (L : List Loc) : Prop := v = some (.int 1) ∧ Fr n0 L
set_option maxRecDepth 65536 in
set_option maxHeartbeats 40000000 in
theorem rm0 (l : Launch) (Z : State) (ar0 : Array Value) (hw : ∀ d ∈ tables_1, d.before ar0 Z = true) (ws : List Jvm.Cond) (p0 : Int32) (p1 : Int32) (p2 : Int32) (p3 : Int32) (p4 : Int32) (h0 : Heap) (n0 : Nat) (Z0 : n0 ≤ h0.size) :
  MetFree l x (head1 (Jvm.Cond.code x code maxLocals ret :: ws) room_1) (fun a U => a = #[(.int p0), (.int p1), (.int p2), (.int p3), (.int p4)] ∧ Z.Warmed39 U.vm ∧ U.heap = h0) (fun _ _ _ _ _ => True) (fun _ U o U' => ∃ v L, o = .returned v ∧ Q0 Z p0 p1 p2 p3 p4 h0 n0 v U'.heap L ∧ FrameEnd U o U' L room_1.cells room_1.slots) := by
 refine MetFree.of_bodySF (plainFor_of_name pn_3) hisR ?_
 intro p e s m args below meth c s₁ Bd hml0 hP hK
 obtain ⟨rfl, hZ, hh⟩ := hP
 have hx := Bd.exec
 have hby := Bd.bytes
 have hml : c.maxLocals = 12 := hml0
 have hown : s.vm.findClass own_LC = some m.cls := by have q := findClass_of_methodNamed Bd.named; exact q
 have hnm := (name_of_methodNamed Bd.named Bd.method).1
 have X0 : Stand p l e room_1 s m #[(.int p0), (.int p1), (.int p2), (.int p3), (.int p4)] below meth c s₁ [] 0 0 := Stand.of_body Bd
 have e0 : s₁.heap = h0 := by rw [← hh, Bd.state]; rfl
 have N0 := Fr.nil n0
 have pre0 : own_P p e below s₁ (mkF m 0 #[vI p0, vI p1, vI p2, vI p3, vI p4, .unset, .unset, .unset, .unset, .unset, .unset, .unset] []) s₁ (own_E m p0 p1 p2 p3 p4) := fun t k => castTop (ef_0 m p0 p1 p2 p3 p4) k
 have pre1592 : own_P p e below s₁ (mkF m 3 #[vI p0, vI p1, vI p2, vI p3, vI p4, .unset, .unset, .unset, .unset, .unset, .unset, .unset] [(.int (p1 &&& (3 : Int32)))]) s₁ (own_E m p0 p1 p2 p3 p4) := by
  intro t k
  refine pre0 t ?_
  refine XS.iloadN X0.here hx rfl (hb hby at_0) rfl ?_
  refine XS.iconst X0.here hx rfl (hb hby at_1) ?_
  refine XS.iand X0.here hx rfl (hb hby at_2) rfl ?_
  exact k
 obtain ⟨v1593, hv1593⟩ : ∃ z : Int32, z = (p1 &&& (3 : Int32)) := ⟨_, rfl⟩
 have pre1594 : own_P p e below s₁ (mkF m 3 #[vI p0, vI p1, vI p2, vI p3, vI p4, .unset, .unset, .unset, .unset, .unset, .unset, .unset] [(.int v1593)]) s₁ (own_E m p0 p1 p2 p3 p4) := by rw [hv1593]; exact pre1592
 have pre1595 : own_P p e below s₁ (mkF m 5 #[vI p0, vI p1, vI p2, vI p3, vI p4, vI v1593, .unset, .unset, .unset, .unset, .unset, .unset] []) s₁ (own_E m p0 p1 p2 p3 p4) := by
  intro t k
  refine pre1594 t ?_
  refine XS.istore X0.here hx rfl (hb hby at_3) rfl (l' := #[vI p0, vI p1, vI p2, vI p3, vI p4, vI v1593, .unset, .unset, .unset, .unset, .unset, .unset]) rfl ?_
  exact k
 rcases own_n3 hv1593 with rfl | rfl | rfl | rfl
 ·
  have pre1596 : ∀ t, Steps p.tables e below (s₁.setTop (mkF m 7 #[vI p0, vI p1, vI p2, vI p3, vI p4, vI 0, .unset, .unset, .unset, .unset, .unset, .unset] [(.int 0)])) t → Steps p.tables e below (s₁.setTop (own_E m p0 p1 p2 p3 p4)) t := by
   intro t k
   refine pre1595 t ?_
   refine XS.iload X0.here hx rfl (hb hby at_5) rfl ?_
   exact k
  obtain ⟨T1597, h1597, k1597, X1597, e1597, E1597, A1597, C1597, st1597⟩ := newPE X0 hx hZ (own_w hw 0 rfl) e0 (g := (mkF m 7 #[vI p0, vI p1, vI p2, vI p3, vI p4, vI 0, .unset, .unset, .unset, .unset, .unset, .unset] [(.int 0)])) rfl (hb hby at_7) rfl (by decide) (cap := 0) (by decide) (by decide) (by decide) (by decide) (ad := "[B") rfl
  obtain ⟨b1597, g1597⟩ : ∃ z, z = h0.size := ⟨_, rfl⟩
  rw [← g1597] at A1597 C1597 st1597
  have g_b1597 : n0 ≤ b1597 := Nat.le_trans Z0 (Nat.le_of_eq g1597.symm)
  have sz_b1597 : h0.size ≤ b1597 := Nat.le_trans (Keep.refl h0 []).1 (Nat.le_of_eq g1597.symm)
  have Z1597 : n0 ≤ h1597.size := Nat.le_trans Z0 E1597.1
  have K1597 : Keep h0 h1597 [] := (Keep.refl h0 []).ext E1597
  have V_b1597 : Arv Z h1597 b1597 k1597 .byte (0 : Int32) [] (.int 0) := (Arv.new A1597 (by decide)).pad (pad_rep [] (.int 0) 0)
  have pre1598 : own_P p e below T1597 (mkF m 9 #[vI p0, vI p1, vI p2, vI p3, vI p4, vI 0, .unset, .unset, .unset, .unset, .unset, .unset] [(.ref b1597)]) s₁ (own_E m p0 p1 p2 p3 p4) := fun t k => pre1596 t (st1597 t k)
  have pre1599 : own_P p e below T1597 (mkF m 47 #[vI p0, vI p1, vI p2, vI p3, vI p4, vI 0, vR b1597, .unset, .unset, .unset, .unset, .unset] []) s₁ (own_E m p0 p1 p2 p3 p4) := by
   intro t k
   refine pre1598 t ?_
   refine XS.astore X1597.here hx rfl (hb hby at_9) rfl rfl (l' := #[vI p0, vI p1, vI p2, vI p3, vI p4, vI 0, vR b1597, .unset, .unset, .unset, .unset, .unset]) rfl ?_
   refine XS.iload X1597.here hx rfl (hb hby at_11) rfl ?_
   refine XS.ifYes X1597.here hx rfl (pc0 := 13) (pc' := 22) rfl (hb hby at_13) rfl ((if0 _ _).trans (flt (by decide : ¬ (0 : Int32) < (0 : Int32))).2.2.2) (by decide) (by decide) ?_
   refine XS.iload X1597.here hx rfl (hb hby at_22) rfl ?_
   refine XS.iconst X1597.here hx rfl (hb hby at_24) ?_
   refine XS.icmpYes X1597.here hx rfl (pc0 := 25) (pc' := 34) rfl (hb hby at_25) rfl (flt (by decide : ¬ (1 : Int32) < (0 : Int32))).2.2.2 (by decide) (by decide) ?_
   refine XS.iload X1597.here hx rfl (hb hby at_34) rfl ?_
   refine XS.iconst X1597.here hx rfl (hb hby at_36) ?_
   refine XS.icmpYes X1597.here hx rfl (pc0 := 37) (pc' := 47) rfl (hb hby at_37) rfl (flt (by decide : ¬ (2 : Int32) < (0 : Int32))).2.2.2 (by decide) (by decide) ?_
   exact k
  obtain ⟨T1600, h1600, X1600, e1600, E1600, A1600, D1600, -, st1600⟩ := newO X1597 hx hZ hown (own_w hw 1 rfl) (own_w hw 2 rfl) (own_w hw 3 rfl) e1597 (g := (mkF m 47 #[vI p0, vI p1, vI p2, vI p3, vI p4, vI 0, vR b1597, .unset, .unset, .unset, .unset, .unset] [])) rfl (hb hby at_47) (by decide) (by decide)
  obtain ⟨b1600, g1600⟩ : ∃ z, z = h1597.size := ⟨_, rfl⟩
  rw [← g1600] at A1600 D1600 st1600
  have ne_b1597_b1600 : b1597 ≠ b1600 := Nat.ne_of_lt (Nat.lt_of_lt_of_le (V_b1597).lt (Nat.le_of_eq g1600.symm))
  have g_b1600 : n0 ≤ b1600 := Nat.le_trans Z1597 (Nat.le_of_eq g1600.symm)
  have sz_b1600 : h0.size ≤ b1600 := Nat.le_trans K1597.1 (Nat.le_of_eq g1600.symm)
  have Z1600 : n0 ≤ h1600.size := Nat.le_trans Z1597 E1600.1
  have K1600 : Keep h0 h1600 [] := K1597.ext E1600
  have Vf1601 : Arv Z h1600 b1597 k1597 .byte (0 : Int32) [] (.int 0) := (V_b1597).ext E1600
  have Ef1602 : Exa Z h1600 b1597 "[B" := (C1597).ext E1600
  have Fcollection_b1600 : Fld Z h1600 b1600 own_CK "collection" "I" (.int 0) := D1600 (Or.inr (own_w hw 16 rfl)) (ty := .int) (by decide)
  have FdocumentKey_b1600 : Fld Z h1600 b1600 own_CK "documentKey" "[B" .null := D1600 (Or.inr (own_w hw 18 rfl)) (ty := (.array .byte)) (by decide)
  have pre1603 : own_P p e below T1600 (mkF m 50 #[vI p0, vI p1, vI p2, vI p3, vI p4, vI 0, vR b1597, .unset, .unset, .unset, .unset, .unset] [(.ref b1600)]) s₁ (own_E m p0 p1 p2 p3 p4) := fun t k => pre1599 t (st1600 t k)
  have pre1604 : own_P p e below T1600 (mkF m 54 #[vI p0, vI p1, vI p2, vI p3, vI p4, vI 0, vR b1597, .unset, .unset, .unset, .unset, .unset] [(.ref b1597), (.int p0), (.ref b1600), (.ref b1600)]) s₁ (own_E m p0 p1 p2 p3 p4) := by
   intro t k
   refine pre1603 t ?_
   refine XS.dup X1600.here hx rfl (hb hby at_50) rfl rfl ?_
   refine XS.iloadN X1600.here hx rfl (hb hby at_51) rfl ?_
   refine XS.aload X1600.here hx rfl (hb hby at_52) rfl rfl ?_
   exact k
  obtain ⟨_, _, ⟨T1605, L1605, k1605, n1605⟩, -, X1605, ⟨Lc1605, hQ1605, l1605, y1605, z1605⟩, st1605⟩ := X1600.specialBack hx (y := (⟨own_CK, "<init>", "(I[B)V"⟩ : MethodName)) rfl hown (mvT hZ (own_w hw 4 rfl)) (mvT hZ (own_w hw 5 rfl)) (mvT hZ (own_w hw 6 rfl)) (by decide) (backOf (W := 1) (rm1 l Z ar0 hw [] b1600 p0 b1597 .null (0 : Int32) h1600 n0 Z1600 FdocumentKey_b1600 A1600 Fcollection_b1600 g_b1600) hZ (own_w hw 6 rfl) (own_w hw 3 rfl) (by decide) (by decide)) (g := (mkF m 54 #[vI p0, vI p1, vI p2, vI p3, vI p4, vI 0, vR b1597, .unset, .unset, .unset, .unset, .unset] [(.ref b1597), (.int p0), (.ref b1600), (.ref b1600)])) rfl (by rw [hml]; rfl) (Steps.refl _) (a := b1600) (argsL := [(.int p0), (.ref b1597)]) (rest := [(.ref b1600)]) (lenOf pd_5 rfl) rfl (by show 2 * 0 + _ ≤ _; exact Nat.le_of_eq rfl) (hb hby at_54) (fun _ _ => ⟨rfl, e1600, (by decide : 2 + 0 ≤ _), (by decide : 2 + 0 ≤ _)⟩)
  dsimp only [Pt.U, Pt.locs, Pt.cells, Pt.slots] at X1605 l1605 y1605 z1605 st1605 hQ1605
  subst l1605 y1605 z1605
  obtain ⟨h1605, e1605⟩ : ∃ h, T1605.heap = h := ⟨_, rfl⟩
  rw [e1605] at hQ1605
  obtain ⟨rfl, N1605q, K1605q, Q1605_0, Q1605_1, Q1605_2⟩ := hQ1605
  have N1605 := Fr.app N0 N1605q
  have Z1605 : n0 ≤ h1605.size := Nat.le_trans Z1600 K1605q.1
  have K1605 : Keep h0 h1605 [] := K1600.trans K1605q (fun x hx => by cases List.mem_singleton.mp hx; exact Or.inr sz_b1600)
  have Vf1606 : Arv Z h1605 b1597 k1597 .byte (0 : Int32) [] (.int 0) := (Vf1601).keep K1605q (fun q => absurd (List.mem_singleton.mp q) ne_b1597_b1600)
  have Ef1607 : Exa Z h1605 b1597 "[B" := (Ef1602).keep K1605q
  have Ef1608 : Exa Z h1605 b1600 own_CK := (A1600).keep K1605q
  have pre1609 : own_P p e below T1605 (mkF m 57 #[vI p0, vI p1, vI p2, vI p3, vI p4, vI 0, vR b1597, .unset, .unset, .unset, .unset, .unset] [(.ref b1600)]) s₁ (own_E m p0 p1 p2 p3 p4) := fun t k => pre1604 t (st1605.trans k)
  by_cases hu0 : (own_u0 p0) < (128 : Int64)
  ·
   obtain ⟨cq1610, kq1610, q1610a, q1610b, q1610c⟩ := isOf hZ e1605 Q1605_0
   obtain ⟨_, _, ⟨T1610, L1610, k1610, n1610⟩, -, X1610, ⟨Lc1610, hQ1610, l1610, y1610, z1610⟩, st1610⟩ := X1605.virtualBack hx (y := (⟨own_CK, "write", "()[B"⟩ : MethodName)) (z := (⟨own_CK, "write", "()[B"⟩ : MethodName)) hown (mvT hZ (own_w hw 19 rfl)) (mvT hZ (own_w hw 20 rfl)) (notFace_of_selects (args := #[]) (mvT hZ (own_w hw 22 rfl))) (mvT hZ (own_w hw 22 rfl)) (mvT hZ (own_w hw 21 rfl)) (by decide) (backOf (W := 0) (rm4_1_0 l Z ar0 hw [] b1600 p0 b1597 k1597 h1605 n0 Z1605 Q1605_1 Q1605_2 Vf1606 ((own_z1 p0).2 hu0)) hZ (own_w hw 23 rfl) (own_w hw 3 rfl) (by decide) (by decide)) q1610a q1610c (g := (mkF m 57 #[vI p0, vI p1, vI p2, vI p3, vI p4, vI 0, vR b1597, .unset, .unset, .unset, .unset, .unset] [(.ref b1600)])) rfl (by rw [hml]; rfl) (Steps.refl _) (argsL := []) (rest := []) (lenOf pd_6 rfl) rfl (by show 2 * 0 + _ ≤ _; exact Nat.le_of_eq rfl) (hb hby at_57) (fun _ _ => ⟨rfl, e1605, (by decide : 2 + 2 ≤ _), (by decide : 2 + 6 ≤ _)⟩)
   dsimp only [Pt.U, Pt.locs, Pt.cells, Pt.slots] at X1610 l1610 y1610 z1610 st1610 hQ1610
   subst l1610 y1610 z1610
   obtain ⟨h1610, e1610⟩ : ∃ h, T1610.heap = h := ⟨_, rfl⟩
   rw [e1610] at hQ1610
   obtain ⟨b1610, kb1610, rfl, N1610q, K1610q, y_b1610, Ob1610_0, Ob1610_1⟩ := hQ1610
   have N1610 := Fr.app N1605 N1610q
   have ne_b1597_b1610 : b1597 ≠ b1610 := Nat.ne_of_lt (Nat.lt_of_lt_of_le (Vf1606).lt y_b1610)
   have ne_b1600_b1610 : b1600 ≠ b1610 := Nat.ne_of_lt (Nat.lt_of_lt_of_le (Q1605_0).lt y_b1610)
   have g_b1610 : n0 ≤ b1610 := Nat.le_trans Z1605 y_b1610
   have sz_b1610 : h0.size ≤ b1610 := Nat.le_trans K1605.1 y_b1610
   have Z1610 : n0 ≤ h1610.size := Nat.le_trans Z1605 K1610q.1
   have K1610 : Keep h0 h1610 [] := K1605.trans K1610q (fun x hx => absurd hx List.not_mem_nil)
   have Vf1611 : Arv Z h1610 b1597 k1597 .byte (0 : Int32) [] (.int 0) := (Vf1606).keep K1610q List.not_mem_nil
   have Ef1612 : Exa Z h1610 b1597 "[B" := (Ef1607).keep K1610q
   have Ef1613 : Exa Z h1610 b1600 own_CK := (Q1605_0).keep K1610q
   have Ff1614 : Fld Z h1610 b1600 own_CK "collection" "I" (.int p0) := (Q1605_1).keep K1610q List.not_mem_nil
   have Ff1615 : Fld Z h1610 b1600 own_CK "documentKey" "[B" (.ref b1597) := (Q1605_2).keep K1610q List.not_mem_nil
   have pre1616 : own_P p e below T1610 (mkF m 60 #[vI p0, vI p1, vI p2, vI p3, vI p4, vI 0, vR b1597, .unset, .unset, .unset, .unset, .unset] [(.ref b1610)]) s₁ (own_E m p0 p1 p2 p3 p4) := fun t k => pre1609 t (st1610.trans k)
   have pre1617 : own_P p e below T1610 (mkF m 140 #[vI p0, vI p1, vI p2, vI p3, vI p4, vI 0, vR b1597, vR b1610, vJ (own_u0 p0), .second, vI 1, .unset] [(.ref b1610)]) s₁ (own_E m p0 p1 p2 p3 p4) := by
    intro t k
    refine pre1616 t ?_
    refine XS.astore X1610.here hx rfl (hb hby at_60) rfl rfl (l' := #[vI p0, vI p1, vI p2, vI p3, vI p4, vI 0, vR b1597, vR b1610, .unset, .unset, .unset, .unset]) rfl ?_
    refine XS.iloadN X1610.here hx rfl (hb hby at_62) rfl ?_
    refine XS.i2l X1610.here hx rfl (hb hby at_63) rfl ?_
    refine X1610.ldc2Long hx hown (mvT hZ (own_w hw 43 rfl)) (g := (mkF m 64 #[vI p0, vI p1, vI p2, vI p3, vI p4, vI 0, vR b1597, vR b1610, .unset, .unset, .unset, .unset] [(.long (p0.toInt64))])) rfl (hb hby at_64) _ ?_
    refine XS.land X1610.here hx rfl (hb hby at_67) rfl ?_
    refine XS.lstore X1610.here hx rfl (hb hby at_68) rfl (l' := #[vI p0, vI p1, vI p2, vI p3, vI p4, vI 0, vR b1597, vR b1610, vJ (own_u0 p0), .second, .unset, .unset]) rfl ?_
    refine XS.lload X1610.here hx rfl (hb hby at_70) rfl ?_
    refine X1610.ldc2Long hx hown (mvT hZ (own_w hw 44 rfl)) (g := (mkF m 72 #[vI p0, vI p1, vI p2, vI p3, vI p4, vI 0, vR b1597, vR b1610, vJ (own_u0 p0), .second, .unset, .unset] [(.long (own_u0 p0))])) rfl (hb hby at_72) _ ?_
    refine XS.lcmp X1610.here hx rfl (hb hby at_75) rfl ?_
    refine XS.ifNo X1610.here hx rfl (hb hby at_76) rfl ((if0 _ _).trans (tlt (own_ltL hu0)).2.1) ?_
    refine XS.iconst X1610.here hx rfl (hb hby at_79) ?_
    refine XS.istore X1610.here hx rfl (hb hby at_80) rfl (l' := #[vI p0, vI p1, vI p2, vI p3, vI p4, vI 0, vR b1597, vR b1610, vJ (own_u0 p0), .second, vI 1, .unset]) rfl ?_
    refine XS.goto X1610.here hx rfl (pc0 := 82) (pc' := 133) rfl (hb hby at_82) (by decide) (by decide) ?_
    refine XS.aload X1610.here hx rfl (hb hby at_133) rfl rfl ?_
    refine XS.ifnullNo X1610.here hx rfl (hb hby at_135) rfl ?_
    refine XS.aload X1610.here hx rfl (hb hby at_138) rfl rfl ?_
    exact k
   obtain ⟨cl1618, Ar1618, q1618, S1618, M1618, H1618, G1618⟩ := id Ob1610_1
   have pre1619 : own_P p e below T1610 (mkF m 151 #[vI p0, vI p1, vI p2, vI p3, vI p4, vI 0, vR b1597, vR b1610, vJ (own_u0 p0), .second, vI 1, .unset] []) s₁ (own_E m p0 p1 p2 p3 p4) := by
    intro t k
    refine pre1617 t ?_
    refine X1610.arraylength hx (by rw [e1610]; exact Ar1618.1) (State.isArrayOf_alike hZ.alike Ar1618.2.1) (g := (mkF m 140 #[vI p0, vI p1, vI p2, vI p3, vI p4, vI 0, vR b1597, vR b1610, vJ (own_u0 p0), .second, vI 1, .unset] [(.ref b1610)])) rfl rfl (hb hby at_140) _ ?_
    rw [len_of S1618 M1618]
    refine XS.iload X1610.here hx rfl (hb hby at_141) rfl ?_
    refine XS.iload X1610.here hx rfl (hb hby at_143) rfl ?_
    refine XS.iadd X1610.here hx rfl (hb hby at_145) rfl ?_
    refine XS.icmpYes X1610.here hx rfl (pc0 := 146) (pc' := 151) rfl (hb hby at_146) rfl (teq (by decide : (1 : Int32) = (1 : Int32))).1 (by decide) (by decide) ?_
    exact k
   obtain ⟨T1620, L1620, X1620, N1620, e1620, st1620⟩ := own_id1 X1610 hx hZ hw hby hml hown e1610 N1610 Z1610 (by decide) (by decide) Ob1610_1 (by decide) rfl
   have pre1621 : own_P p e below T1620 (mkF m 305 #[vI p0, vI p1, vI p2, vI p3, vI p4, vI 0, vR b1597, vR b1610, vJ (own_u0 p0), .second, vI 1, vI 1] []) s₁ (own_E m p0 p1 p2 p3 p4) := fun t k => pre1619 t (st1620 t k)
   obtain ⟨T1622, L1622, X1622, N1622, e1622, st1622⟩ := own_doc0 (nv := 1) X1620 hx hZ hw hby hml hown e1620 N1620 Z1610 (by decide) (by decide) Ob1610_1
   have pre1623 : own_P p e below T1622 (mkF m 395 #[vI p0, vI p1, vI p2, vI p3, vI p4, vI 0, vR b1597, vR b1610, vJ (own_u0 p0), .second, vI 1, vI 1] [(.int 1)]) s₁ (own_E m p0 p1 p2 p3 p4) := fun t k => pre1621 t (st1622 t k)
   obtain ⟨fs, hr, hrun, hended, hW, hsame⟩ := X1622.leave (v := some (.int 1)) (fun h => by rw [Bd.returns] at h; cases h)
   refine ⟨_, _, pre1623 _ ?_, hrun, hended, _, _, rfl, ?_, ⟨_, rfl⟩, hW, hsame.mono (by decide) (by decide)⟩
   ·
    exact retN X1622 hx (t := .boolean) Bd.returns (by simp) (hb hby at_395) hr
   ·
    show Q0 Z p0 p1 p2 p3 p4 h0 n0 _ T1622.heap _
    rw [e1622]
    exact ⟨rfl, N1622⟩
  ·
   by_cases hu1 : (own_u0 p0) < (16384 : Int64)
   ·
    obtain ⟨cq1624, kq1624, q1624a, q1624b, q1624c⟩ := isOf hZ e1605 Q1605_0
    obtain ⟨_, _, ⟨T1624, L1624, k1624, n1624⟩, -, X1624, ⟨Lc1624, hQ1624, l1624, y1624, z1624⟩, st1624⟩ := X1605.virtualBack hx (y := (⟨own_CK, "write", "()[B"⟩ : MethodName)) (z := (⟨own_CK, "write", "()[B"⟩ : MethodName)) hown (mvT hZ (own_w hw 19 rfl)) (mvT hZ (own_w hw 20 rfl)) (notFace_of_selects (args := #[]) (mvT hZ (own_w hw 22 rfl))) (mvT hZ (own_w hw 22 rfl)) (mvT hZ (own_w hw 21 rfl)) (by decide) (backOf (W := 0) (rm4_2_0 l Z ar0 hw [] b1600 p0 b1597 k1597 h1605 n0 Z1605 Q1605_1 Q1605_2 Vf1606 (fun q => hu0 ((own_z1 p0).1 q)) ((own_z2 p0).2 hu1)) hZ (own_w hw 23 rfl) (own_w hw 3 rfl) (by decide) (by decide)) q1624a q1624c (g := (mkF m 57 #[vI p0, vI p1, vI p2, vI p3, vI p4, vI 0, vR b1597, .unset, .unset, .unset, .unset, .unset] [(.ref b1600)])) rfl (by rw [hml]; rfl) (Steps.refl _) (argsL := []) (rest := []) (lenOf pd_6 rfl) rfl (by show 2 * 0 + _ ≤ _; exact Nat.le_of_eq rfl) (hb hby at_57) (fun _ _ => ⟨rfl, e1605, (by decide : 2 + 2 ≤ _), (by decide : 2 + 7 ≤ _)⟩)
    dsimp only [Pt.U, Pt.locs, Pt.cells, Pt.slots] at X1624 l1624 y1624 z1624 st1624 hQ1624
    subst l1624 y1624 z1624
    obtain ⟨h1624, e1624⟩ : ∃ h, T1624.heap = h := ⟨_, rfl⟩
    rw [e1624] at hQ1624
    obtain ⟨b1624, kb1624, rfl, N1624q, K1624q, y_b1624, Ob1624_0, Ob1624_1⟩ := hQ1624
    have N1624 := Fr.app N1605 N1624q
    have ne_b1597_b1624 : b1597 ≠ b1624 := Nat.ne_of_lt (Nat.lt_of_lt_of_le (Vf1606).lt y_b1624)
    have ne_b1600_b1624 : b1600 ≠ b1624 := Nat.ne_of_lt (Nat.lt_of_lt_of_le (Q1605_0).lt y_b1624)
    have g_b1624 : n0 ≤ b1624 := Nat.le_trans Z1605 y_b1624
    have sz_b1624 : h0.size ≤ b1624 := Nat.le_trans K1605.1 y_b1624
    have Z1624 : n0 ≤ h1624.size := Nat.le_trans Z1605 K1624q.1
    have K1624 : Keep h0 h1624 [] := K1605.trans K1624q (fun x hx => absurd hx List.not_mem_nil)
    have Vf1625 : Arv Z h1624 b1597 k1597 .byte (0 : Int32) [] (.int 0) := (Vf1606).keep K1624q List.not_mem_nil
    have Ef1626 : Exa Z h1624 b1597 "[B" := (Ef1607).keep K1624q
    have Ef1627 : Exa Z h1624 b1600 own_CK := (Q1605_0).keep K1624q
    have Ff1628 : Fld Z h1624 b1600 own_CK "collection" "I" (.int p0) := (Q1605_1).keep K1624q List.not_mem_nil
    have Ff1629 : Fld Z h1624 b1600 own_CK "documentKey" "[B" (.ref b1597) := (Q1605_2).keep K1624q List.not_mem_nil
    have pre1630 : own_P p e below T1624 (mkF m 60 #[vI p0, vI p1, vI p2, vI p3, vI p4, vI 0, vR b1597, .unset, .unset, .unset, .unset, .unset] [(.ref b1624)]) s₁ (own_E m p0 p1 p2 p3 p4) := fun t k => pre1609 t (st1624.trans k)
    have pre1631 : own_P p e below T1624 (mkF m 140 #[vI p0, vI p1, vI p2, vI p3, vI p4, vI 0, vR b1597, vR b1624, vJ (own_u0 p0), .second, vI 2, .unset] [(.ref b1624)]) s₁ (own_E m p0 p1 p2 p3 p4) := by
     intro t k
     refine pre1630 t ?_
     refine XS.astore X1624.here hx rfl (hb hby at_60) rfl rfl (l' := #[vI p0, vI p1, vI p2, vI p3, vI p4, vI 0, vR b1597, vR b1624, .unset, .unset, .unset, .unset]) rfl ?_
     refine XS.iloadN X1624.here hx rfl (hb hby at_62) rfl ?_
     refine XS.i2l X1624.here hx rfl (hb hby at_63) rfl ?_
     refine X1624.ldc2Long hx hown (mvT hZ (own_w hw 43 rfl)) (g := (mkF m 64 #[vI p0, vI p1, vI p2, vI p3, vI p4, vI 0, vR b1597, vR b1624, .unset, .unset, .unset, .unset] [(.long (p0.toInt64))])) rfl (hb hby at_64) _ ?_
     refine XS.land X1624.here hx rfl (hb hby at_67) rfl ?_
     refine XS.lstore X1624.here hx rfl (hb hby at_68) rfl (l' := #[vI p0, vI p1, vI p2, vI p3, vI p4, vI 0, vR b1597, vR b1624, vJ (own_u0 p0), .second, .unset, .unset]) rfl ?_
     refine XS.lload X1624.here hx rfl (hb hby at_70) rfl ?_
     refine X1624.ldc2Long hx hown (mvT hZ (own_w hw 44 rfl)) (g := (mkF m 72 #[vI p0, vI p1, vI p2, vI p3, vI p4, vI 0, vR b1597, vR b1624, vJ (own_u0 p0), .second, .unset, .unset] [(.long (own_u0 p0))])) rfl (hb hby at_72) _ ?_
     refine XS.lcmp X1624.here hx rfl (hb hby at_75) rfl ?_
     refine XS.ifYes X1624.here hx rfl (pc0 := 76) (pc' := 85) rfl (hb hby at_76) rfl ((if0 _ _).trans (flt (own_nltL hu0)).2.1) (by decide) (by decide) ?_
     refine XS.lload X1624.here hx rfl (hb hby at_85) rfl ?_
     refine X1624.ldc2Long hx hown (mvT hZ (own_w hw 50 rfl)) (g := (mkF m 87 #[vI p0, vI p1, vI p2, vI p3, vI p4, vI 0, vR b1597, vR b1624, vJ (own_u0 p0), .second, .unset, .unset] [(.long (own_u0 p0))])) rfl (hb hby at_87) _ ?_
     refine XS.lcmp X1624.here hx rfl (hb hby at_90) rfl ?_
     refine XS.ifNo X1624.here hx rfl (hb hby at_91) rfl ((if0 _ _).trans (tlt (own_ltL hu1)).2.1) ?_
     refine XS.iconst X1624.here hx rfl (hb hby at_94) ?_
     refine XS.istore X1624.here hx rfl (hb hby at_95) rfl (l' := #[vI p0, vI p1, vI p2, vI p3, vI p4, vI 0, vR b1597, vR b1624, vJ (own_u0 p0), .second, vI 2, .unset]) rfl ?_
     refine XS.goto X1624.here hx rfl (pc0 := 97) (pc' := 133) rfl (hb hby at_97) (by decide) (by decide) ?_
     refine XS.aload X1624.here hx rfl (hb hby at_133) rfl rfl ?_
     refine XS.ifnullNo X1624.here hx rfl (hb hby at_135) rfl ?_
     refine XS.aload X1624.here hx rfl (hb hby at_138) rfl rfl ?_
     exact k
    obtain ⟨cl1632, Ar1632, q1632, S1632, M1632, H1632, G1632⟩ := id Ob1624_1
    have pre1633 : own_P p e below T1624 (mkF m 151 #[vI p0, vI p1, vI p2, vI p3, vI p4, vI 0, vR b1597, vR b1624, vJ (own_u0 p0), .second, vI 2, .unset] []) s₁ (own_E m p0 p1 p2 p3 p4) := by
     intro t k
     refine pre1631 t ?_
     refine X1624.arraylength hx (by rw [e1624]; exact Ar1632.1) (State.isArrayOf_alike hZ.alike Ar1632.2.1) (g := (mkF m 140 #[vI p0, vI p1, vI p2, vI p3, vI p4, vI 0, vR b1597, vR b1624, vJ (own_u0 p0), .second, vI 2, .unset] [(.ref b1624)])) rfl rfl (hb hby at_140) _ ?_
     rw [len_of S1632 M1632]
     refine XS.iload X1624.here hx rfl (hb hby at_141) rfl ?_
     refine XS.iload X1624.here hx rfl (hb hby at_143) rfl ?_
     refine XS.iadd X1624.here hx rfl (hb hby at_145) rfl ?_
     refine XS.icmpYes X1624.here hx rfl (pc0 := 146) (pc' := 151) rfl (hb hby at_146) rfl (teq (by decide : (2 : Int32) = (2 : Int32))).1 (by decide) (by decide) ?_
     exact k
    obtain ⟨T1634, L1634, X1634, N1634, e1634, st1634⟩ := own_id2 X1624 hx hZ hw hby hml hown e1624 N1624 Z1624 (by decide) (by decide) Ob1624_1 (by decide) (by decide) rfl rfl
    have pre1635 : own_P p e below T1634 (mkF m 305 #[vI p0, vI p1, vI p2, vI p3, vI p4, vI 0, vR b1597, vR b1624, vJ (own_u0 p0), .second, vI 2, vI 1] []) s₁ (own_E m p0 p1 p2 p3 p4) := fun t k => pre1633 t (st1634 t k)
    obtain ⟨T1636, L1636, X1636, N1636, e1636, st1636⟩ := own_doc0 (nv := 2) X1634 hx hZ hw hby hml hown e1634 N1634 Z1624 (by decide) (by decide) Ob1624_1
    have pre1637 : own_P p e below T1636 (mkF m 395 #[vI p0, vI p1, vI p2, vI p3, vI p4, vI 0, vR b1597, vR b1624, vJ (own_u0 p0), .second, vI 2, vI 1] [(.int 1)]) s₁ (own_E m p0 p1 p2 p3 p4) := fun t k => pre1635 t (st1636 t k)
    obtain ⟨fs, hr, hrun, hended, hW, hsame⟩ := X1636.leave (v := some (.int 1)) (fun h => by rw [Bd.returns] at h; cases h)
    refine ⟨_, _, pre1637 _ ?_, hrun, hended, _, _, rfl, ?_, ⟨_, rfl⟩, hW, hsame.mono (by decide) (by decide)⟩
    ·
     exact retN X1636 hx (t := .boolean) Bd.returns (by simp) (hb hby at_395) hr
    ·
     show Q0 Z p0 p1 p2 p3 p4 h0 n0 _ T1636.heap _
     rw [e1636]
     exact ⟨rfl, N1636⟩
   ·
    by_cases hu2 : (own_u0 p0) < (2097152 : Int64)
    ·
     obtain ⟨cq1638, kq1638, q1638a, q1638b, q1638c⟩ := isOf hZ e1605 Q1605_0
     obtain ⟨_, _, ⟨T1638, L1638, k1638, n1638⟩, -, X1638, ⟨Lc1638, hQ1638, l1638, y1638, z1638⟩, st1638⟩ := X1605.virtualBack hx (y := (⟨own_CK, "write", "()[B"⟩ : MethodName)) (z := (⟨own_CK, "write", "()[B"⟩ : MethodName)) hown (mvT hZ (own_w hw 19 rfl)) (mvT hZ (own_w hw 20 rfl)) (notFace_of_selects (args := #[]) (mvT hZ (own_w hw 22 rfl))) (mvT hZ (own_w hw 22 rfl)) (mvT hZ (own_w hw 21 rfl)) (by decide) (backOf (W := 0) (rm4_3_0 l Z ar0 hw [] b1600 p0 b1597 k1597 h1605 n0 Z1605 Q1605_1 Q1605_2 Vf1606 (fun q => hu0 ((own_z1 p0).1 q)) (fun q => hu1 ((own_z2 p0).1 q)) ((own_z3 p0).2 hu2)) hZ (own_w hw 23 rfl) (own_w hw 3 rfl) (by decide) (by decide)) q1638a q1638c (g := (mkF m 57 #[vI p0, vI p1, vI p2, vI p3, vI p4, vI 0, vR b1597, .unset, .unset, .unset, .unset, .unset] [(.ref b1600)])) rfl (by rw [hml]; rfl) (Steps.refl _) (argsL := []) (rest := []) (lenOf pd_6 rfl) rfl (by show 2 * 0 + _ ≤ _; exact Nat.le_of_eq rfl) (hb hby at_57) (fun _ _ => ⟨rfl, e1605, (by decide : 2 + 2 ≤ _), (by decide : 2 + 8 ≤ _)⟩)
     dsimp only [Pt.U, Pt.locs, Pt.cells, Pt.slots] at X1638 l1638 y1638 z1638 st1638 hQ1638
     subst l1638 y1638 z1638
     obtain ⟨h1638, e1638⟩ : ∃ h, T1638.heap = h := ⟨_, rfl⟩
     rw [e1638] at hQ1638
     obtain ⟨b1638, kb1638, rfl, N1638q, K1638q, y_b1638, Ob1638_0, Ob1638_1⟩ := hQ1638
     have N1638 := Fr.app N1605 N1638q
     have ne_b1597_b1638 : b1597 ≠ b1638 := Nat.ne_of_lt (Nat.lt_of_lt_of_le (Vf1606).lt y_b1638)
     have ne_b1600_b1638 : b1600 ≠ b1638 := Nat.ne_of_lt (Nat.lt_of_lt_of_le (Q1605_0).lt y_b1638)
     have g_b1638 : n0 ≤ b1638 := Nat.le_trans Z1605 y_b1638
     have sz_b1638 : h0.size ≤ b1638 := Nat.le_trans K1605.1 y_b1638
     have Z1638 : n0 ≤ h1638.size := Nat.le_trans Z1605 K1638q.1
     have K1638 : Keep h0 h1638 [] := K1605.trans K1638q (fun x hx => absurd hx List.not_mem_nil)
     have Vf1639 : Arv Z h1638 b1597 k1597 .byte (0 : Int32) [] (.int 0) := (Vf1606).keep K1638q List.not_mem_nil
     have Ef1640 : Exa Z h1638 b1597 "[B" := (Ef1607).keep K1638q
     have Ef1641 : Exa Z h1638 b1600 own_CK := (Q1605_0).keep K1638q
     have Ff1642 : Fld Z h1638 b1600 own_CK "collection" "I" (.int p0) := (Q1605_1).keep K1638q List.not_mem_nil
     have Ff1643 : Fld Z h1638 b1600 own_CK "documentKey" "[B" (.ref b1597) := (Q1605_2).keep K1638q List.not_mem_nil
     have pre1644 : own_P p e below T1638 (mkF m 60 #[vI p0, vI p1, vI p2, vI p3, vI p4, vI 0, vR b1597, .unset, .unset, .unset, .unset, .unset] [(.ref b1638)]) s₁ (own_E m p0 p1 p2 p3 p4) := fun t k => pre1609 t (st1638.trans k)
     have pre1645 : own_P p e below T1638 (mkF m 140 #[vI p0, vI p1, vI p2, vI p3, vI p4, vI 0, vR b1597, vR b1638, vJ (own_u0 p0), .second, vI 3, .unset] [(.ref b1638)]) s₁ (own_E m p0 p1 p2 p3 p4) := by
      intro t k
      refine pre1644 t ?_
      refine XS.astore X1638.here hx rfl (hb hby at_60) rfl rfl (l' := #[vI p0, vI p1, vI p2, vI p3, vI p4, vI 0, vR b1597, vR b1638, .unset, .unset, .unset, .unset]) rfl ?_
      refine XS.iloadN X1638.here hx rfl (hb hby at_62) rfl ?_
      refine XS.i2l X1638.here hx rfl (hb hby at_63) rfl ?_
      refine X1638.ldc2Long hx hown (mvT hZ (own_w hw 43 rfl)) (g := (mkF m 64 #[vI p0, vI p1, vI p2, vI p3, vI p4, vI 0, vR b1597, vR b1638, .unset, .unset, .unset, .unset] [(.long (p0.toInt64))])) rfl (hb hby at_64) _ ?_
      refine XS.land X1638.here hx rfl (hb hby at_67) rfl ?_
      refine XS.lstore X1638.here hx rfl (hb hby at_68) rfl (l' := #[vI p0, vI p1, vI p2, vI p3, vI p4, vI 0, vR b1597, vR b1638, vJ (own_u0 p0), .second, .unset, .unset]) rfl ?_
      refine XS.lload X1638.here hx rfl (hb hby at_70) rfl ?_
      refine X1638.ldc2Long hx hown (mvT hZ (own_w hw 44 rfl)) (g := (mkF m 72 #[vI p0, vI p1, vI p2, vI p3, vI p4, vI 0, vR b1597, vR b1638, vJ (own_u0 p0), .second, .unset, .unset] [(.long (own_u0 p0))])) rfl (hb hby at_72) _ ?_
      refine XS.lcmp X1638.here hx rfl (hb hby at_75) rfl ?_
      refine XS.ifYes X1638.here hx rfl (pc0 := 76) (pc' := 85) rfl (hb hby at_76) rfl ((if0 _ _).trans (flt (own_nltL hu0)).2.1) (by decide) (by decide) ?_
      refine XS.lload X1638.here hx rfl (hb hby at_85) rfl ?_
      refine X1638.ldc2Long hx hown (mvT hZ (own_w hw 50 rfl)) (g := (mkF m 87 #[vI p0, vI p1, vI p2, vI p3, vI p4, vI 0, vR b1597, vR b1638, vJ (own_u0 p0), .second, .unset, .unset] [(.long (own_u0 p0))])) rfl (hb hby at_87) _ ?_
      refine XS.lcmp X1638.here hx rfl (hb hby at_90) rfl ?_
      refine XS.ifYes X1638.here hx rfl (pc0 := 91) (pc' := 100) rfl (hb hby at_91) rfl ((if0 _ _).trans (flt (own_nltL hu1)).2.1) (by decide) (by decide) ?_
      refine XS.lload X1638.here hx rfl (hb hby at_100) rfl ?_
      refine X1638.ldc2Long hx hown (mvT hZ (own_w hw 51 rfl)) (g := (mkF m 102 #[vI p0, vI p1, vI p2, vI p3, vI p4, vI 0, vR b1597, vR b1638, vJ (own_u0 p0), .second, .unset, .unset] [(.long (own_u0 p0))])) rfl (hb hby at_102) _ ?_
      refine XS.lcmp X1638.here hx rfl (hb hby at_105) rfl ?_
      refine XS.ifNo X1638.here hx rfl (hb hby at_106) rfl ((if0 _ _).trans (tlt (own_ltL hu2)).2.1) ?_
      refine XS.iconst X1638.here hx rfl (hb hby at_109) ?_
      refine XS.istore X1638.here hx rfl (hb hby at_110) rfl (l' := #[vI p0, vI p1, vI p2, vI p3, vI p4, vI 0, vR b1597, vR b1638, vJ (own_u0 p0), .second, vI 3, .unset]) rfl ?_
      refine XS.goto X1638.here hx rfl (pc0 := 112) (pc' := 133) rfl (hb hby at_112) (by decide) (by decide) ?_
      refine XS.aload X1638.here hx rfl (hb hby at_133) rfl rfl ?_
      refine XS.ifnullNo X1638.here hx rfl (hb hby at_135) rfl ?_
      refine XS.aload X1638.here hx rfl (hb hby at_138) rfl rfl ?_
      exact k
     obtain ⟨cl1646, Ar1646, q1646, S1646, M1646, H1646, G1646⟩ := id Ob1638_1
     have pre1647 : own_P p e below T1638 (mkF m 151 #[vI p0, vI p1, vI p2, vI p3, vI p4, vI 0, vR b1597, vR b1638, vJ (own_u0 p0), .second, vI 3, .unset] []) s₁ (own_E m p0 p1 p2 p3 p4) := by
      intro t k
      refine pre1645 t ?_
      refine X1638.arraylength hx (by rw [e1638]; exact Ar1646.1) (State.isArrayOf_alike hZ.alike Ar1646.2.1) (g := (mkF m 140 #[vI p0, vI p1, vI p2, vI p3, vI p4, vI 0, vR b1597, vR b1638, vJ (own_u0 p0), .second, vI 3, .unset] [(.ref b1638)])) rfl rfl (hb hby at_140) _ ?_
      rw [len_of S1646 M1646]
      refine XS.iload X1638.here hx rfl (hb hby at_141) rfl ?_
      refine XS.iload X1638.here hx rfl (hb hby at_143) rfl ?_
      refine XS.iadd X1638.here hx rfl (hb hby at_145) rfl ?_
      refine XS.icmpYes X1638.here hx rfl (pc0 := 146) (pc' := 151) rfl (hb hby at_146) rfl (teq (by decide : (3 : Int32) = (3 : Int32))).1 (by decide) (by decide) ?_
      exact k
     obtain ⟨T1648, L1648, X1648, N1648, e1648, st1648⟩ := own_id3 X1638 hx hZ hw hby hml hown e1638 N1638 Z1638 (by decide) (by decide) Ob1638_1 (by decide) (by decide) (by decide) rfl rfl rfl
     have pre1649 : own_P p e below T1648 (mkF m 305 #[vI p0, vI p1, vI p2, vI p3, vI p4, vI 0, vR b1597, vR b1638, vJ (own_u0 p0), .second, vI 3, vI 1] []) s₁ (own_E m p0 p1 p2 p3 p4) := fun t k => pre1647 t (st1648 t k)
     obtain ⟨T1650, L1650, X1650, N1650, e1650, st1650⟩ := own_doc0 (nv := 3) X1648 hx hZ hw hby hml hown e1648 N1648 Z1638 (by decide) (by decide) Ob1638_1
     have pre1651 : own_P p e below T1650 (mkF m 395 #[vI p0, vI p1, vI p2, vI p3, vI p4, vI 0, vR b1597, vR b1638, vJ (own_u0 p0), .second, vI 3, vI 1] [(.int 1)]) s₁ (own_E m p0 p1 p2 p3 p4) := fun t k => pre1649 t (st1650 t k)
     obtain ⟨fs, hr, hrun, hended, hW, hsame⟩ := X1650.leave (v := some (.int 1)) (fun h => by rw [Bd.returns] at h; cases h)
     refine ⟨_, _, pre1651 _ ?_, hrun, hended, _, _, rfl, ?_, ⟨_, rfl⟩, hW, hsame.mono (by decide) (by decide)⟩
     ·
      exact retN X1650 hx (t := .boolean) Bd.returns (by simp) (hb hby at_395) hr
     ·
      show Q0 Z p0 p1 p2 p3 p4 h0 n0 _ T1650.heap _
      rw [e1650]
      exact ⟨rfl, N1650⟩
    ·
     by_cases hu3 : (own_u0 p0) < (268435456 : Int64)
     ·
      obtain ⟨cq1652, kq1652, q1652a, q1652b, q1652c⟩ := isOf hZ e1605 Q1605_0
      obtain ⟨_, _, ⟨T1652, L1652, k1652, n1652⟩, -, X1652, ⟨Lc1652, hQ1652, l1652, y1652, z1652⟩, st1652⟩ := X1605.virtualBack hx (y := (⟨own_CK, "write", "()[B"⟩ : MethodName)) (z := (⟨own_CK, "write", "()[B"⟩ : MethodName)) hown (mvT hZ (own_w hw 19 rfl)) (mvT hZ (own_w hw 20 rfl)) (notFace_of_selects (args := #[]) (mvT hZ (own_w hw 22 rfl))) (mvT hZ (own_w hw 22 rfl)) (mvT hZ (own_w hw 21 rfl)) (by decide) (backOf (W := 0) (rm4_4_0 l Z ar0 hw [] b1600 p0 b1597 k1597 h1605 n0 Z1605 Q1605_1 Q1605_2 Vf1606 (fun q => hu0 ((own_z1 p0).1 q)) (fun q => hu1 ((own_z2 p0).1 q)) (fun q => hu2 ((own_z3 p0).1 q)) ((own_z4 p0).2 hu3)) hZ (own_w hw 23 rfl) (own_w hw 3 rfl) (by decide) (by decide)) q1652a q1652c (g := (mkF m 57 #[vI p0, vI p1, vI p2, vI p3, vI p4, vI 0, vR b1597, .unset, .unset, .unset, .unset, .unset] [(.ref b1600)])) rfl (by rw [hml]; rfl) (Steps.refl _) (argsL := []) (rest := []) (lenOf pd_6 rfl) rfl (by show 2 * 0 + _ ≤ _; exact Nat.le_of_eq rfl) (hb hby at_57) (fun _ _ => ⟨rfl, e1605, (by decide : 2 + 2 ≤ _), (by decide : 2 + 9 ≤ _)⟩)
      dsimp only [Pt.U, Pt.locs, Pt.cells, Pt.slots] at X1652 l1652 y1652 z1652 st1652 hQ1652
      subst l1652 y1652 z1652
      obtain ⟨h1652, e1652⟩ : ∃ h, T1652.heap = h := ⟨_, rfl⟩
      rw [e1652] at hQ1652
      obtain ⟨b1652, kb1652, rfl, N1652q, K1652q, y_b1652, Ob1652_0, Ob1652_1⟩ := hQ1652
      have N1652 := Fr.app N1605 N1652q
      have ne_b1597_b1652 : b1597 ≠ b1652 := Nat.ne_of_lt (Nat.lt_of_lt_of_le (Vf1606).lt y_b1652)
      have ne_b1600_b1652 : b1600 ≠ b1652 := Nat.ne_of_lt (Nat.lt_of_lt_of_le (Q1605_0).lt y_b1652)
      have g_b1652 : n0 ≤ b1652 := Nat.le_trans Z1605 y_b1652
      have sz_b1652 : h0.size ≤ b1652 := Nat.le_trans K1605.1 y_b1652
      have Z1652 : n0 ≤ h1652.size := Nat.le_trans Z1605 K1652q.1
      have K1652 : Keep h0 h1652 [] := K1605.trans K1652q (fun x hx => absurd hx List.not_mem_nil)
      have Vf1653 : Arv Z h1652 b1597 k1597 .byte (0 : Int32) [] (.int 0) := (Vf1606).keep K1652q List.not_mem_nil
      have Ef1654 : Exa Z h1652 b1597 "[B" := (Ef1607).keep K1652q
      have Ef1655 : Exa Z h1652 b1600 own_CK := (Q1605_0).keep K1652q
      have Ff1656 : Fld Z h1652 b1600 own_CK "collection" "I" (.int p0) := (Q1605_1).keep K1652q List.not_mem_nil
      have Ff1657 : Fld Z h1652 b1600 own_CK "documentKey" "[B" (.ref b1597) := (Q1605_2).keep K1652q List.not_mem_nil
      have pre1658 : own_P p e below T1652 (mkF m 60 #[vI p0, vI p1, vI p2, vI p3, vI p4, vI 0, vR b1597, .unset, .unset, .unset, .unset, .unset] [(.ref b1652)]) s₁ (own_E m p0 p1 p2 p3 p4) := fun t k => pre1609 t (st1652.trans k)
      have pre1659 : own_P p e below T1652 (mkF m 140 #[vI p0, vI p1, vI p2, vI p3, vI p4, vI 0, vR b1597, vR b1652, vJ (own_u0 p0), .second, vI 4, .unset] [(.ref b1652)]) s₁ (own_E m p0 p1 p2 p3 p4) := by
       intro t k
       refine pre1658 t ?_
       refine XS.astore X1652.here hx rfl (hb hby at_60) rfl rfl (l' := #[vI p0, vI p1, vI p2, vI p3, vI p4, vI 0, vR b1597, vR b1652, .unset, .unset, .unset, .unset]) rfl ?_
       refine XS.iloadN X1652.here hx rfl (hb hby at_62) rfl ?_
       refine XS.i2l X1652.here hx rfl (hb hby at_63) rfl ?_
       refine X1652.ldc2Long hx hown (mvT hZ (own_w hw 43 rfl)) (g := (mkF m 64 #[vI p0, vI p1, vI p2, vI p3, vI p4, vI 0, vR b1597, vR b1652, .unset, .unset, .unset, .unset] [(.long (p0.toInt64))])) rfl (hb hby at_64) _ ?_
       refine XS.land X1652.here hx rfl (hb hby at_67) rfl ?_
       refine XS.lstore X1652.here hx rfl (hb hby at_68) rfl (l' := #[vI p0, vI p1, vI p2, vI p3, vI p4, vI 0, vR b1597, vR b1652, vJ (own_u0 p0), .second, .unset, .unset]) rfl ?_
       refine XS.lload X1652.here hx rfl (hb hby at_70) rfl ?_
       refine X1652.ldc2Long hx hown (mvT hZ (own_w hw 44 rfl)) (g := (mkF m 72 #[vI p0, vI p1, vI p2, vI p3, vI p4, vI 0, vR b1597, vR b1652, vJ (own_u0 p0), .second, .unset, .unset] [(.long (own_u0 p0))])) rfl (hb hby at_72) _ ?_
       refine XS.lcmp X1652.here hx rfl (hb hby at_75) rfl ?_
       refine XS.ifYes X1652.here hx rfl (pc0 := 76) (pc' := 85) rfl (hb hby at_76) rfl ((if0 _ _).trans (flt (own_nltL hu0)).2.1) (by decide) (by decide) ?_
       refine XS.lload X1652.here hx rfl (hb hby at_85) rfl ?_
       refine X1652.ldc2Long hx hown (mvT hZ (own_w hw 50 rfl)) (g := (mkF m 87 #[vI p0, vI p1, vI p2, vI p3, vI p4, vI 0, vR b1597, vR b1652, vJ (own_u0 p0), .second, .unset, .unset] [(.long (own_u0 p0))])) rfl (hb hby at_87) _ ?_
       refine XS.lcmp X1652.here hx rfl (hb hby at_90) rfl ?_
       refine XS.ifYes X1652.here hx rfl (pc0 := 91) (pc' := 100) rfl (hb hby at_91) rfl ((if0 _ _).trans (flt (own_nltL hu1)).2.1) (by decide) (by decide) ?_
       refine XS.lload X1652.here hx rfl (hb hby at_100) rfl ?_
       refine X1652.ldc2Long hx hown (mvT hZ (own_w hw 51 rfl)) (g := (mkF m 102 #[vI p0, vI p1, vI p2, vI p3, vI p4, vI 0, vR b1597, vR b1652, vJ (own_u0 p0), .second, .unset, .unset] [(.long (own_u0 p0))])) rfl (hb hby at_102) _ ?_
       refine XS.lcmp X1652.here hx rfl (hb hby at_105) rfl ?_
       refine XS.ifYes X1652.here hx rfl (pc0 := 106) (pc' := 115) rfl (hb hby at_106) rfl ((if0 _ _).trans (flt (own_nltL hu2)).2.1) (by decide) (by decide) ?_
       refine XS.lload X1652.here hx rfl (hb hby at_115) rfl ?_
       refine X1652.ldc2Long hx hown (mvT hZ (own_w hw 52 rfl)) (g := (mkF m 117 #[vI p0, vI p1, vI p2, vI p3, vI p4, vI 0, vR b1597, vR b1652, vJ (own_u0 p0), .second, .unset, .unset] [(.long (own_u0 p0))])) rfl (hb hby at_117) _ ?_
       refine XS.lcmp X1652.here hx rfl (hb hby at_120) rfl ?_
       refine XS.ifNo X1652.here hx rfl (hb hby at_121) rfl ((if0 _ _).trans (tlt (own_ltL hu3)).2.1) ?_
       refine XS.iconst X1652.here hx rfl (hb hby at_124) ?_
       refine XS.istore X1652.here hx rfl (hb hby at_125) rfl (l' := #[vI p0, vI p1, vI p2, vI p3, vI p4, vI 0, vR b1597, vR b1652, vJ (own_u0 p0), .second, vI 4, .unset]) rfl ?_
       refine XS.goto X1652.here hx rfl (pc0 := 127) (pc' := 133) rfl (hb hby at_127) (by decide) (by decide) ?_
       refine XS.aload X1652.here hx rfl (hb hby at_133) rfl rfl ?_
       refine XS.ifnullNo X1652.here hx rfl (hb hby at_135) rfl ?_
       refine XS.aload X1652.here hx rfl (hb hby at_138) rfl rfl ?_
       exact k
      obtain ⟨cl1660, Ar1660, q1660, S1660, M1660, H1660, G1660⟩ := id Ob1652_1
      have pre1661 : own_P p e below T1652 (mkF m 151 #[vI p0, vI p1, vI p2, vI p3, vI p4, vI 0, vR b1597, vR b1652, vJ (own_u0 p0), .second, vI 4, .unset] []) s₁ (own_E m p0 p1 p2 p3 p4) := by
       intro t k
       refine pre1659 t ?_
       refine X1652.arraylength hx (by rw [e1652]; exact Ar1660.1) (State.isArrayOf_alike hZ.alike Ar1660.2.1) (g := (mkF m 140 #[vI p0, vI p1, vI p2, vI p3, vI p4, vI 0, vR b1597, vR b1652, vJ (own_u0 p0), .second, vI 4, .unset] [(.ref b1652)])) rfl rfl (hb hby at_140) _ ?_
       rw [len_of S1660 M1660]
       refine XS.iload X1652.here hx rfl (hb hby at_141) rfl ?_
       refine XS.iload X1652.here hx rfl (hb hby at_143) rfl ?_
       refine XS.iadd X1652.here hx rfl (hb hby at_145) rfl ?_
       refine XS.icmpYes X1652.here hx rfl (pc0 := 146) (pc' := 151) rfl (hb hby at_146) rfl (teq (by decide : (4 : Int32) = (4 : Int32))).1 (by decide) (by decide) ?_
       exact k
      obtain ⟨T1662, L1662, X1662, N1662, e1662, st1662⟩ := own_id4 X1652 hx hZ hw hby hml hown e1652 N1652 Z1652 (by decide) (by decide) Ob1652_1 (by decide) (by decide) (by decide) (by decide) rfl rfl rfl rfl
      have pre1663 : own_P p e below T1662 (mkF m 305 #[vI p0, vI p1, vI p2, vI p3, vI p4, vI 0, vR b1597, vR b1652, vJ (own_u0 p0), .second, vI 4, vI 1] []) s₁ (own_E m p0 p1 p2 p3 p4) := fun t k => pre1661 t (st1662 t k)
      obtain ⟨T1664, L1664, X1664, N1664, e1664, st1664⟩ := own_doc0 (nv := 4) X1662 hx hZ hw hby hml hown e1662 N1662 Z1652 (by decide) (by decide) Ob1652_1
      have pre1665 : own_P p e below T1664 (mkF m 395 #[vI p0, vI p1, vI p2, vI p3, vI p4, vI 0, vR b1597, vR b1652, vJ (own_u0 p0), .second, vI 4, vI 1] [(.int 1)]) s₁ (own_E m p0 p1 p2 p3 p4) := fun t k => pre1663 t (st1664 t k)
      obtain ⟨fs, hr, hrun, hended, hW, hsame⟩ := X1664.leave (v := some (.int 1)) (fun h => by rw [Bd.returns] at h; cases h)
      refine ⟨_, _, pre1665 _ ?_, hrun, hended, _, _, rfl, ?_, ⟨_, rfl⟩, hW, hsame.mono (by decide) (by decide)⟩
      ·
       exact retN X1664 hx (t := .boolean) Bd.returns (by simp) (hb hby at_395) hr
      ·
       show Q0 Z p0 p1 p2 p3 p4 h0 n0 _ T1664.heap _
       rw [e1664]
       exact ⟨rfl, N1664⟩
     ·
      obtain ⟨cq1666, kq1666, q1666a, q1666b, q1666c⟩ := isOf hZ e1605 Q1605_0
      obtain ⟨_, _, ⟨T1666, L1666, k1666, n1666⟩, -, X1666, ⟨Lc1666, hQ1666, l1666, y1666, z1666⟩, st1666⟩ := X1605.virtualBack hx (y := (⟨own_CK, "write", "()[B"⟩ : MethodName)) (z := (⟨own_CK, "write", "()[B"⟩ : MethodName)) hown (mvT hZ (own_w hw 19 rfl)) (mvT hZ (own_w hw 20 rfl)) (notFace_of_selects (args := #[]) (mvT hZ (own_w hw 22 rfl))) (mvT hZ (own_w hw 22 rfl)) (mvT hZ (own_w hw 21 rfl)) (by decide) (backOf (W := 0) (rm4_5_0 l Z ar0 hw [] b1600 p0 b1597 k1597 h1605 n0 Z1605 Q1605_1 Q1605_2 Vf1606 (fun q => hu0 ((own_z1 p0).1 q)) (fun q => hu1 ((own_z2 p0).1 q)) (fun q => hu2 ((own_z3 p0).1 q)) (fun q => hu3 ((own_z4 p0).1 q)) (own_z5 p0)) hZ (own_w hw 23 rfl) (own_w hw 3 rfl) (by decide) (by decide)) q1666a q1666c (g := (mkF m 57 #[vI p0, vI p1, vI p2, vI p3, vI p4, vI 0, vR b1597, .unset, .unset, .unset, .unset, .unset] [(.ref b1600)])) rfl (by rw [hml]; rfl) (Steps.refl _) (argsL := []) (rest := []) (lenOf pd_6 rfl) rfl (by show 2 * 0 + _ ≤ _; exact Nat.le_of_eq rfl) (hb hby at_57) (fun _ _ => ⟨rfl, e1605, (by decide : 2 + 2 ≤ _), (by decide : 2 + 10 ≤ _)⟩)
      dsimp only [Pt.U, Pt.locs, Pt.cells, Pt.slots] at X1666 l1666 y1666 z1666 st1666 hQ1666
      subst l1666 y1666 z1666
      obtain ⟨h1666, e1666⟩ : ∃ h, T1666.heap = h := ⟨_, rfl⟩
      rw [e1666] at hQ1666
      obtain ⟨b1666, kb1666, rfl, N1666q, K1666q, y_b1666, Ob1666_0, Ob1666_1⟩ := hQ1666
      have N1666 := Fr.app N1605 N1666q
      have ne_b1597_b1666 : b1597 ≠ b1666 := Nat.ne_of_lt (Nat.lt_of_lt_of_le (Vf1606).lt y_b1666)
      have ne_b1600_b1666 : b1600 ≠ b1666 := Nat.ne_of_lt (Nat.lt_of_lt_of_le (Q1605_0).lt y_b1666)
      have g_b1666 : n0 ≤ b1666 := Nat.le_trans Z1605 y_b1666
      have sz_b1666 : h0.size ≤ b1666 := Nat.le_trans K1605.1 y_b1666
      have Z1666 : n0 ≤ h1666.size := Nat.le_trans Z1605 K1666q.1
      have K1666 : Keep h0 h1666 [] := K1605.trans K1666q (fun x hx => absurd hx List.not_mem_nil)
      have Vf1667 : Arv Z h1666 b1597 k1597 .byte (0 : Int32) [] (.int 0) := (Vf1606).keep K1666q List.not_mem_nil
      have Ef1668 : Exa Z h1666 b1597 "[B" := (Ef1607).keep K1666q
      have Ef1669 : Exa Z h1666 b1600 own_CK := (Q1605_0).keep K1666q
      have Ff1670 : Fld Z h1666 b1600 own_CK "collection" "I" (.int p0) := (Q1605_1).keep K1666q List.not_mem_nil
      have Ff1671 : Fld Z h1666 b1600 own_CK "documentKey" "[B" (.ref b1597) := (Q1605_2).keep K1666q List.not_mem_nil
      have pre1672 : own_P p e below T1666 (mkF m 60 #[vI p0, vI p1, vI p2, vI p3, vI p4, vI 0, vR b1597, .unset, .unset, .unset, .unset, .unset] [(.ref b1666)]) s₁ (own_E m p0 p1 p2 p3 p4) := fun t k => pre1609 t (st1666.trans k)
      have pre1673 : own_P p e below T1666 (mkF m 140 #[vI p0, vI p1, vI p2, vI p3, vI p4, vI 0, vR b1597, vR b1666, vJ (own_u0 p0), .second, vI 5, .unset] [(.ref b1666)]) s₁ (own_E m p0 p1 p2 p3 p4) := by
       intro t k
       refine pre1672 t ?_
       refine XS.astore X1666.here hx rfl (hb hby at_60) rfl rfl (l' := #[vI p0, vI p1, vI p2, vI p3, vI p4, vI 0, vR b1597, vR b1666, .unset, .unset, .unset, .unset]) rfl ?_
       refine XS.iloadN X1666.here hx rfl (hb hby at_62) rfl ?_
       refine XS.i2l X1666.here hx rfl (hb hby at_63) rfl ?_
       refine X1666.ldc2Long hx hown (mvT hZ (own_w hw 43 rfl)) (g := (mkF m 64 #[vI p0, vI p1, vI p2, vI p3, vI p4, vI 0, vR b1597, vR b1666, .unset, .unset, .unset, .unset] [(.long (p0.toInt64))])) rfl (hb hby at_64) _ ?_
       refine XS.land X1666.here hx rfl (hb hby at_67) rfl ?_
       refine XS.lstore X1666.here hx rfl (hb hby at_68) rfl (l' := #[vI p0, vI p1, vI p2, vI p3, vI p4, vI 0, vR b1597, vR b1666, vJ (own_u0 p0), .second, .unset, .unset]) rfl ?_
       refine XS.lload X1666.here hx rfl (hb hby at_70) rfl ?_
       refine X1666.ldc2Long hx hown (mvT hZ (own_w hw 44 rfl)) (g := (mkF m 72 #[vI p0, vI p1, vI p2, vI p3, vI p4, vI 0, vR b1597, vR b1666, vJ (own_u0 p0), .second, .unset, .unset] [(.long (own_u0 p0))])) rfl (hb hby at_72) _ ?_
       refine XS.lcmp X1666.here hx rfl (hb hby at_75) rfl ?_
       refine XS.ifYes X1666.here hx rfl (pc0 := 76) (pc' := 85) rfl (hb hby at_76) rfl ((if0 _ _).trans (flt (own_nltL hu0)).2.1) (by decide) (by decide) ?_
       refine XS.lload X1666.here hx rfl (hb hby at_85) rfl ?_
       refine X1666.ldc2Long hx hown (mvT hZ (own_w hw 50 rfl)) (g := (mkF m 87 #[vI p0, vI p1, vI p2, vI p3, vI p4, vI 0, vR b1597, vR b1666, vJ (own_u0 p0), .second, .unset, .unset] [(.long (own_u0 p0))])) rfl (hb hby at_87) _ ?_
       refine XS.lcmp X1666.here hx rfl (hb hby at_90) rfl ?_
       refine XS.ifYes X1666.here hx rfl (pc0 := 91) (pc' := 100) rfl (hb hby at_91) rfl ((if0 _ _).trans (flt (own_nltL hu1)).2.1) (by decide) (by decide) ?_
       refine XS.lload X1666.here hx rfl (hb hby at_100) rfl ?_
       refine X1666.ldc2Long hx hown (mvT hZ (own_w hw 51 rfl)) (g := (mkF m 102 #[vI p0, vI p1, vI p2, vI p3, vI p4, vI 0, vR b1597, vR b1666, vJ (own_u0 p0), .second, .unset, .unset] [(.long (own_u0 p0))])) rfl (hb hby at_102) _ ?_
       refine XS.lcmp X1666.here hx rfl (hb hby at_105) rfl ?_
       refine XS.ifYes X1666.here hx rfl (pc0 := 106) (pc' := 115) rfl (hb hby at_106) rfl ((if0 _ _).trans (flt (own_nltL hu2)).2.1) (by decide) (by decide) ?_
       refine XS.lload X1666.here hx rfl (hb hby at_115) rfl ?_
       refine X1666.ldc2Long hx hown (mvT hZ (own_w hw 52 rfl)) (g := (mkF m 117 #[vI p0, vI p1, vI p2, vI p3, vI p4, vI 0, vR b1597, vR b1666, vJ (own_u0 p0), .second, .unset, .unset] [(.long (own_u0 p0))])) rfl (hb hby at_117) _ ?_
       refine XS.lcmp X1666.here hx rfl (hb hby at_120) rfl ?_
       refine XS.ifYes X1666.here hx rfl (pc0 := 121) (pc' := 130) rfl (hb hby at_121) rfl ((if0 _ _).trans (flt (own_nltL hu3)).2.1) (by decide) (by decide) ?_
       refine XS.iconst X1666.here hx rfl (hb hby at_130) ?_
       refine XS.istore X1666.here hx rfl (hb hby at_131) rfl (l' := #[vI p0, vI p1, vI p2, vI p3, vI p4, vI 0, vR b1597, vR b1666, vJ (own_u0 p0), .second, vI 5, .unset]) rfl ?_
       refine XS.aload X1666.here hx rfl (hb hby at_133) rfl rfl ?_
       refine XS.ifnullNo X1666.here hx rfl (hb hby at_135) rfl ?_
       refine XS.aload X1666.here hx rfl (hb hby at_138) rfl rfl ?_
       exact k
      obtain ⟨cl1674, Ar1674, q1674, S1674, M1674, H1674, G1674⟩ := id Ob1666_1
      have pre1675 : own_P p e below T1666 (mkF m 151 #[vI p0, vI p1, vI p2, vI p3, vI p4, vI 0, vR b1597, vR b1666, vJ (own_u0 p0), .second, vI 5, .unset] []) s₁ (own_E m p0 p1 p2 p3 p4) := by
       intro t k
       refine pre1673 t ?_
       refine X1666.arraylength hx (by rw [e1666]; exact Ar1674.1) (State.isArrayOf_alike hZ.alike Ar1674.2.1) (g := (mkF m 140 #[vI p0, vI p1, vI p2, vI p3, vI p4, vI 0, vR b1597, vR b1666, vJ (own_u0 p0), .second, vI 5, .unset] [(.ref b1666)])) rfl rfl (hb hby at_140) _ ?_
       rw [len_of S1674 M1674]
       refine XS.iload X1666.here hx rfl (hb hby at_141) rfl ?_
       refine XS.iload X1666.here hx rfl (hb hby at_143) rfl ?_
       refine XS.iadd X1666.here hx rfl (hb hby at_145) rfl ?_
       refine XS.icmpYes X1666.here hx rfl (pc0 := 146) (pc' := 151) rfl (hb hby at_146) rfl (teq (by decide : (5 : Int32) = (5 : Int32))).1 (by decide) (by decide) ?_
       exact k
      obtain ⟨T1676, L1676, X1676, N1676, e1676, st1676⟩ := own_id5 X1666 hx hZ hw hby hml hown e1666 N1666 Z1666 (by decide) (by decide) Ob1666_1 (by decide) (by decide) (by decide) (by decide) (by decide) rfl rfl rfl rfl rfl
      have pre1677 : own_P p e below T1676 (mkF m 305 #[vI p0, vI p1, vI p2, vI p3, vI p4, vI 0, vR b1597, vR b1666, vJ (own_u0 p0), .second, vI 5, vI 1] []) s₁ (own_E m p0 p1 p2 p3 p4) := fun t k => pre1675 t (st1676 t k)
      obtain ⟨T1678, L1678, X1678, N1678, e1678, st1678⟩ := own_doc0 (nv := 5) X1676 hx hZ hw hby hml hown e1676 N1676 Z1666 (by decide) (by decide) Ob1666_1
      have pre1679 : own_P p e below T1678 (mkF m 395 #[vI p0, vI p1, vI p2, vI p3, vI p4, vI 0, vR b1597, vR b1666, vJ (own_u0 p0), .second, vI 5, vI 1] [(.int 1)]) s₁ (own_E m p0 p1 p2 p3 p4) := fun t k => pre1677 t (st1678 t k)
      obtain ⟨fs, hr, hrun, hended, hW, hsame⟩ := X1678.leave (v := some (.int 1)) (fun h => by rw [Bd.returns] at h; cases h)
      refine ⟨_, _, pre1679 _ ?_, hrun, hended, _, _, rfl, ?_, ⟨_, rfl⟩, hW, hsame.mono (by decide) (by decide)⟩
      ·
       exact retN X1678 hx (t := .boolean) Bd.returns (by simp) (hb hby at_395) hr
      ·
       show Q0 Z p0 p1 p2 p3 p4 h0 n0 _ T1678.heap _
       rw [e1678]
       exact ⟨rfl, N1678⟩
 ·
  have pre1680 : ∀ t, Steps p.tables e below (s₁.setTop (mkF m 7 #[vI p0, vI p1, vI p2, vI p3, vI p4, vI 1, .unset, .unset, .unset, .unset, .unset, .unset] [(.int 1)])) t → Steps p.tables e below (s₁.setTop (own_E m p0 p1 p2 p3 p4)) t := by
   intro t k
   refine pre1595 t ?_
   refine XS.iload X0.here hx rfl (hb hby at_5) rfl ?_
   exact k
  obtain ⟨T1681, h1681, k1681, X1681, e1681, E1681, A1681, C1681, st1681⟩ := newPE X0 hx hZ (own_w hw 0 rfl) e0 (g := (mkF m 7 #[vI p0, vI p1, vI p2, vI p3, vI p4, vI 1, .unset, .unset, .unset, .unset, .unset, .unset] [(.int 1)])) rfl (hb hby at_7) rfl (by decide) (cap := 1) (by decide) (by decide) (by decide) (by decide) (ad := "[B") rfl
  obtain ⟨b1681, g1681⟩ : ∃ z, z = h0.size := ⟨_, rfl⟩
  rw [← g1681] at A1681 C1681 st1681
  have g_b1681 : n0 ≤ b1681 := Nat.le_trans Z0 (Nat.le_of_eq g1681.symm)
  have sz_b1681 : h0.size ≤ b1681 := Nat.le_trans (Keep.refl h0 []).1 (Nat.le_of_eq g1681.symm)
  have Z1681 : n0 ≤ h1681.size := Nat.le_trans Z0 E1681.1
  have K1681 : Keep h0 h1681 [] := (Keep.refl h0 []).ext E1681
  have V_b1681 : Arv Z h1681 b1681 k1681 .byte (1 : Int32) [(.int 0)] (.int 0) := (Arv.new A1681 (by decide)).pad (pad_rep [] (.int 0) 1)
  have pre1682 : own_P p e below T1681 (mkF m 9 #[vI p0, vI p1, vI p2, vI p3, vI p4, vI 1, .unset, .unset, .unset, .unset, .unset, .unset] [(.ref b1681)]) s₁ (own_E m p0 p1 p2 p3 p4) := fun t k => pre1680 t (st1681 t k)
  have pre1683 : own_P p e below T1681 (mkF m 21 #[vI p0, vI p1, vI p2, vI p3, vI p4, vI 1, vR b1681, .unset, .unset, .unset, .unset, .unset] [(.int (p2.toInt8.toInt32)), (.int 0), (.ref b1681)]) s₁ (own_E m p0 p1 p2 p3 p4) := by
   intro t k
   refine pre1682 t ?_
   refine XS.astore X1681.here hx rfl (hb hby at_9) rfl rfl (l' := #[vI p0, vI p1, vI p2, vI p3, vI p4, vI 1, vR b1681, .unset, .unset, .unset, .unset, .unset]) rfl ?_
   refine XS.iload X1681.here hx rfl (hb hby at_11) rfl ?_
   refine XS.ifNo X1681.here hx rfl (hb hby at_13) rfl ((if0 _ _).trans (tlt (by decide : (0 : Int32) < (1 : Int32))).2.2.2) ?_
   refine XS.aload X1681.here hx rfl (hb hby at_16) rfl rfl ?_
   refine XS.iconst X1681.here hx rfl (hb hby at_18) ?_
   refine XS.iloadN X1681.here hx rfl (hb hby at_19) rfl ?_
   refine XS.i2b X1681.here hx rfl (hb hby at_20) rfl ?_
   exact k
  obtain ⟨cl1684, Ar1684, q1684, S1684, M1684, H1684, G1684⟩ := id V_b1681
  have hin1684 : ¬ ((0 : Int32) < 0 ∨ cl1684.slots.size ≤ ((0 : Int32)).toNatClampNeg) := inb_of S1684 ⟨by decide, by decide⟩
  obtain ⟨T1684, h1684, X1684, e1684, W1684, st1684⟩ := stB X1681 hx hZ e1681 Ar1684 (j := (0 : Int32)) hin1684 (g := (mkF m 21 #[vI p0, vI p1, vI p2, vI p3, vI p4, vI 1, vR b1681, .unset, .unset, .unset, .unset, .unset] [(.int (p2.toInt8.toInt32)), (.int 0), (.ref b1681)])) rfl rfl (hb hby at_21)
  have Z1684 : n0 ≤ h1684.size := Nat.le_trans Z1681 (Keep.of_wr W1684).1
  have K1684 : Keep h0 h1684 [] := K1681.wr W1684 (Or.inr sz_b1681)
  have N1684 := Fr.snoc X1684 N0 g_b1681
  have Ef1685 : Exa Z h1684 b1681 "[B" := (C1681).wr W1684
  have V1684 : Arv Z h1684 b1681 k1681 .byte (1 : Int32) [(.int (own_d p2))] (.int 0) := Arv.set Ar1684 q1684 S1684 M1684 H1684 G1684 (fits_nar_byte _) W1684 0 rfl (Nat.le_of_ble_eq_true rfl)
  have pre1686 : own_P p e below T1684 (mkF m 22 #[vI p0, vI p1, vI p2, vI p3, vI p4, vI 1, vR b1681, .unset, .unset, .unset, .unset, .unset] []) s₁ (own_E m p0 p1 p2 p3 p4) := fun t k => pre1683 t (st1684 t k)
  have pre1687 : own_P p e below T1684 (mkF m 47 #[vI p0, vI p1, vI p2, vI p3, vI p4, vI 1, vR b1681, .unset, .unset, .unset, .unset, .unset] []) s₁ (own_E m p0 p1 p2 p3 p4) := by
   intro t k
   refine pre1686 t ?_
   refine XS.iload X1684.here hx rfl (hb hby at_22) rfl ?_
   refine XS.iconst X1684.here hx rfl (hb hby at_24) ?_
   refine XS.icmpYes X1684.here hx rfl (pc0 := 25) (pc' := 34) rfl (hb hby at_25) rfl (flt (by decide : ¬ (1 : Int32) < (1 : Int32))).2.2.2 (by decide) (by decide) ?_
   refine XS.iload X1684.here hx rfl (hb hby at_34) rfl ?_
   refine XS.iconst X1684.here hx rfl (hb hby at_36) ?_
   refine XS.icmpYes X1684.here hx rfl (pc0 := 37) (pc' := 47) rfl (hb hby at_37) rfl (flt (by decide : ¬ (2 : Int32) < (1 : Int32))).2.2.2 (by decide) (by decide) ?_
   exact k
  obtain ⟨T1688, h1688, X1688, e1688, E1688, A1688, D1688, -, st1688⟩ := newO X1684 hx hZ hown (own_w hw 1 rfl) (own_w hw 2 rfl) (own_w hw 3 rfl) e1684 (g := (mkF m 47 #[vI p0, vI p1, vI p2, vI p3, vI p4, vI 1, vR b1681, .unset, .unset, .unset, .unset, .unset] [])) rfl (hb hby at_47) (by decide) (by decide)
  obtain ⟨b1688, g1688⟩ : ∃ z, z = h1684.size := ⟨_, rfl⟩
  rw [← g1688] at A1688 D1688 st1688
  have ne_b1681_b1688 : b1681 ≠ b1688 := Nat.ne_of_lt (Nat.lt_of_lt_of_le (Ef1685).lt (Nat.le_of_eq g1688.symm))
  have g_b1688 : n0 ≤ b1688 := Nat.le_trans Z1684 (Nat.le_of_eq g1688.symm)
  have sz_b1688 : h0.size ≤ b1688 := Nat.le_trans K1684.1 (Nat.le_of_eq g1688.symm)
  have Z1688 : n0 ≤ h1688.size := Nat.le_trans Z1684 E1688.1
  have K1688 : Keep h0 h1688 [] := K1684.ext E1688
  have Ef1689 : Exa Z h1688 b1681 "[B" := (Ef1685).ext E1688
  have Vf1690 : Arv Z h1688 b1681 k1681 .byte (1 : Int32) [(.int (own_d p2))] (.int 0) := (V1684).ext E1688
  have Fcollection_b1688 : Fld Z h1688 b1688 own_CK "collection" "I" (.int 0) := D1688 (Or.inr (own_w hw 16 rfl)) (ty := .int) (by decide)
  have FdocumentKey_b1688 : Fld Z h1688 b1688 own_CK "documentKey" "[B" .null := D1688 (Or.inr (own_w hw 18 rfl)) (ty := (.array .byte)) (by decide)
  have pre1691 : own_P p e below T1688 (mkF m 50 #[vI p0, vI p1, vI p2, vI p3, vI p4, vI 1, vR b1681, .unset, .unset, .unset, .unset, .unset] [(.ref b1688)]) s₁ (own_E m p0 p1 p2 p3 p4) := fun t k => pre1687 t (st1688 t k)
  have pre1692 : own_P p e below T1688 (mkF m 54 #[vI p0, vI p1, vI p2, vI p3, vI p4, vI 1, vR b1681, .unset, .unset, .unset, .unset, .unset] [(.ref b1681), (.int p0), (.ref b1688), (.ref b1688)]) s₁ (own_E m p0 p1 p2 p3 p4) := by
   intro t k
   refine pre1691 t ?_
   refine XS.dup X1688.here hx rfl (hb hby at_50) rfl rfl ?_
   refine XS.iloadN X1688.here hx rfl (hb hby at_51) rfl ?_
   refine XS.aload X1688.here hx rfl (hb hby at_52) rfl rfl ?_
   exact k
  obtain ⟨_, _, ⟨T1693, L1693, k1693, n1693⟩, -, X1693, ⟨Lc1693, hQ1693, l1693, y1693, z1693⟩, st1693⟩ := X1688.specialBack hx (y := (⟨own_CK, "<init>", "(I[B)V"⟩ : MethodName)) rfl hown (mvT hZ (own_w hw 4 rfl)) (mvT hZ (own_w hw 5 rfl)) (mvT hZ (own_w hw 6 rfl)) (by decide) (backOf (W := 1) (rm1 l Z ar0 hw [] b1688 p0 b1681 .null (0 : Int32) h1688 n0 Z1688 FdocumentKey_b1688 A1688 Fcollection_b1688 g_b1688) hZ (own_w hw 6 rfl) (own_w hw 3 rfl) (by decide) (by decide)) (g := (mkF m 54 #[vI p0, vI p1, vI p2, vI p3, vI p4, vI 1, vR b1681, .unset, .unset, .unset, .unset, .unset] [(.ref b1681), (.int p0), (.ref b1688), (.ref b1688)])) rfl (by rw [hml]; rfl) (Steps.refl _) (a := b1688) (argsL := [(.int p0), (.ref b1681)]) (rest := [(.ref b1688)]) (lenOf pd_5 rfl) rfl (by show 2 * 0 + _ ≤ _; exact Nat.le_of_eq rfl) (hb hby at_54) (fun _ _ => ⟨rfl, e1688, (by decide : 2 + 0 ≤ _), (by decide : 3 + 0 ≤ _)⟩)
  dsimp only [Pt.U, Pt.locs, Pt.cells, Pt.slots] at X1693 l1693 y1693 z1693 st1693 hQ1693
  subst l1693 y1693 z1693
  obtain ⟨h1693, e1693⟩ : ∃ h, T1693.heap = h := ⟨_, rfl⟩
  rw [e1693] at hQ1693
  obtain ⟨rfl, N1693q, K1693q, Q1693_0, Q1693_1, Q1693_2⟩ := hQ1693
  have N1693 := Fr.app N1684 N1693q
  have Z1693 : n0 ≤ h1693.size := Nat.le_trans Z1688 K1693q.1
  have K1693 : Keep h0 h1693 [] := K1688.trans K1693q (fun x hx => by cases List.mem_singleton.mp hx; exact Or.inr sz_b1688)
  have Ef1694 : Exa Z h1693 b1681 "[B" := (Ef1689).keep K1693q
  have Vf1695 : Arv Z h1693 b1681 k1681 .byte (1 : Int32) [(.int (own_d p2))] (.int 0) := (Vf1690).keep K1693q (fun q => absurd (List.mem_singleton.mp q) ne_b1681_b1688)
  have Ef1696 : Exa Z h1693 b1688 own_CK := (A1688).keep K1693q
  have pre1697 : own_P p e below T1693 (mkF m 57 #[vI p0, vI p1, vI p2, vI p3, vI p4, vI 1, vR b1681, .unset, .unset, .unset, .unset, .unset] [(.ref b1688)]) s₁ (own_E m p0 p1 p2 p3 p4) := fun t k => pre1692 t (st1693.trans k)
  by_cases hu0 : (own_u0 p0) < (128 : Int64)
  ·
   obtain ⟨cq1698, kq1698, q1698a, q1698b, q1698c⟩ := isOf hZ e1693 Q1693_0
   obtain ⟨_, _, ⟨T1698, L1698, k1698, n1698⟩, -, X1698, ⟨Lc1698, hQ1698, l1698, y1698, z1698⟩, st1698⟩ := X1693.virtualBack hx (y := (⟨own_CK, "write", "()[B"⟩ : MethodName)) (z := (⟨own_CK, "write", "()[B"⟩ : MethodName)) hown (mvT hZ (own_w hw 19 rfl)) (mvT hZ (own_w hw 20 rfl)) (notFace_of_selects (args := #[]) (mvT hZ (own_w hw 22 rfl))) (mvT hZ (own_w hw 22 rfl)) (mvT hZ (own_w hw 21 rfl)) (by decide) (backOf (W := 0) (rm4_1_1 l Z ar0 hw [] b1688 p0 b1681 k1681 (own_d p2) h1693 n0 Z1693 Q1693_1 Q1693_2 Vf1695 ((own_z1 p0).2 hu0)) hZ (own_w hw 23 rfl) (own_w hw 3 rfl) (by decide) (by decide)) q1698a q1698c (g := (mkF m 57 #[vI p0, vI p1, vI p2, vI p3, vI p4, vI 1, vR b1681, .unset, .unset, .unset, .unset, .unset] [(.ref b1688)])) rfl (by rw [hml]; rfl) (Steps.refl _) (argsL := []) (rest := []) (lenOf pd_6 rfl) rfl (by show 2 * 0 + _ ≤ _; exact Nat.le_of_eq rfl) (hb hby at_57) (fun _ _ => ⟨rfl, e1693, (by decide : 2 + 2 ≤ _), (by decide : 3 + 7 ≤ _)⟩)
   dsimp only [Pt.U, Pt.locs, Pt.cells, Pt.slots] at X1698 l1698 y1698 z1698 st1698 hQ1698
   subst l1698 y1698 z1698
   obtain ⟨h1698, e1698⟩ : ∃ h, T1698.heap = h := ⟨_, rfl⟩
   rw [e1698] at hQ1698
   obtain ⟨b1698, kb1698, rfl, N1698q, K1698q, y_b1698, Ob1698_0, Ob1698_1⟩ := hQ1698
   have N1698 := Fr.app N1693 N1698q
   have ne_b1681_b1698 : b1681 ≠ b1698 := Nat.ne_of_lt (Nat.lt_of_lt_of_le (Ef1694).lt y_b1698)
   have ne_b1688_b1698 : b1688 ≠ b1698 := Nat.ne_of_lt (Nat.lt_of_lt_of_le (Q1693_0).lt y_b1698)
   have g_b1698 : n0 ≤ b1698 := Nat.le_trans Z1693 y_b1698
   have sz_b1698 : h0.size ≤ b1698 := Nat.le_trans K1693.1 y_b1698
   have Z1698 : n0 ≤ h1698.size := Nat.le_trans Z1693 K1698q.1
   have K1698 : Keep h0 h1698 [] := K1693.trans K1698q (fun x hx => absurd hx List.not_mem_nil)
   have Ef1699 : Exa Z h1698 b1681 "[B" := (Ef1694).keep K1698q
   have Vf1700 : Arv Z h1698 b1681 k1681 .byte (1 : Int32) [(.int (own_d p2))] (.int 0) := (Vf1695).keep K1698q List.not_mem_nil
   have Ef1701 : Exa Z h1698 b1688 own_CK := (Q1693_0).keep K1698q
   have Ff1702 : Fld Z h1698 b1688 own_CK "collection" "I" (.int p0) := (Q1693_1).keep K1698q List.not_mem_nil
   have Ff1703 : Fld Z h1698 b1688 own_CK "documentKey" "[B" (.ref b1681) := (Q1693_2).keep K1698q List.not_mem_nil
   have pre1704 : own_P p e below T1698 (mkF m 60 #[vI p0, vI p1, vI p2, vI p3, vI p4, vI 1, vR b1681, .unset, .unset, .unset, .unset, .unset] [(.ref b1698)]) s₁ (own_E m p0 p1 p2 p3 p4) := fun t k => pre1697 t (st1698.trans k)
   have pre1705 : own_P p e below T1698 (mkF m 140 #[vI p0, vI p1, vI p2, vI p3, vI p4, vI 1, vR b1681, vR b1698, vJ (own_u0 p0), .second, vI 1, .unset] [(.ref b1698)]) s₁ (own_E m p0 p1 p2 p3 p4) := by
    intro t k
    refine pre1704 t ?_
    refine XS.astore X1698.here hx rfl (hb hby at_60) rfl rfl (l' := #[vI p0, vI p1, vI p2, vI p3, vI p4, vI 1, vR b1681, vR b1698, .unset, .unset, .unset, .unset]) rfl ?_
    refine XS.iloadN X1698.here hx rfl (hb hby at_62) rfl ?_
    refine XS.i2l X1698.here hx rfl (hb hby at_63) rfl ?_
    refine X1698.ldc2Long hx hown (mvT hZ (own_w hw 43 rfl)) (g := (mkF m 64 #[vI p0, vI p1, vI p2, vI p3, vI p4, vI 1, vR b1681, vR b1698, .unset, .unset, .unset, .unset] [(.long (p0.toInt64))])) rfl (hb hby at_64) _ ?_
    refine XS.land X1698.here hx rfl (hb hby at_67) rfl ?_
    refine XS.lstore X1698.here hx rfl (hb hby at_68) rfl (l' := #[vI p0, vI p1, vI p2, vI p3, vI p4, vI 1, vR b1681, vR b1698, vJ (own_u0 p0), .second, .unset, .unset]) rfl ?_
    refine XS.lload X1698.here hx rfl (hb hby at_70) rfl ?_
    refine X1698.ldc2Long hx hown (mvT hZ (own_w hw 44 rfl)) (g := (mkF m 72 #[vI p0, vI p1, vI p2, vI p3, vI p4, vI 1, vR b1681, vR b1698, vJ (own_u0 p0), .second, .unset, .unset] [(.long (own_u0 p0))])) rfl (hb hby at_72) _ ?_
    refine XS.lcmp X1698.here hx rfl (hb hby at_75) rfl ?_
    refine XS.ifNo X1698.here hx rfl (hb hby at_76) rfl ((if0 _ _).trans (tlt (own_ltL hu0)).2.1) ?_
    refine XS.iconst X1698.here hx rfl (hb hby at_79) ?_
    refine XS.istore X1698.here hx rfl (hb hby at_80) rfl (l' := #[vI p0, vI p1, vI p2, vI p3, vI p4, vI 1, vR b1681, vR b1698, vJ (own_u0 p0), .second, vI 1, .unset]) rfl ?_
    refine XS.goto X1698.here hx rfl (pc0 := 82) (pc' := 133) rfl (hb hby at_82) (by decide) (by decide) ?_
    refine XS.aload X1698.here hx rfl (hb hby at_133) rfl rfl ?_
    refine XS.ifnullNo X1698.here hx rfl (hb hby at_135) rfl ?_
    refine XS.aload X1698.here hx rfl (hb hby at_138) rfl rfl ?_
    exact k
   obtain ⟨cl1706, Ar1706, q1706, S1706, M1706, H1706, G1706⟩ := id Ob1698_1
   have pre1707 : own_P p e below T1698 (mkF m 151 #[vI p0, vI p1, vI p2, vI p3, vI p4, vI 1, vR b1681, vR b1698, vJ (own_u0 p0), .second, vI 1, .unset] []) s₁ (own_E m p0 p1 p2 p3 p4) := by
    intro t k
    refine pre1705 t ?_
    refine X1698.arraylength hx (by rw [e1698]; exact Ar1706.1) (State.isArrayOf_alike hZ.alike Ar1706.2.1) (g := (mkF m 140 #[vI p0, vI p1, vI p2, vI p3, vI p4, vI 1, vR b1681, vR b1698, vJ (own_u0 p0), .second, vI 1, .unset] [(.ref b1698)])) rfl rfl (hb hby at_140) _ ?_
    rw [len_of S1706 M1706]
    refine XS.iload X1698.here hx rfl (hb hby at_141) rfl ?_
    refine XS.iload X1698.here hx rfl (hb hby at_143) rfl ?_
    refine XS.iadd X1698.here hx rfl (hb hby at_145) rfl ?_
    refine XS.icmpYes X1698.here hx rfl (pc0 := 146) (pc' := 151) rfl (hb hby at_146) rfl (teq (by decide : (2 : Int32) = (2 : Int32))).1 (by decide) (by decide) ?_
    exact k
   obtain ⟨T1708, L1708, X1708, N1708, e1708, st1708⟩ := own_id1 X1698 hx hZ hw hby hml hown e1698 N1698 Z1698 (by decide) (by decide) Ob1698_1 (by decide) rfl
   have pre1709 : own_P p e below T1708 (mkF m 305 #[vI p0, vI p1, vI p2, vI p3, vI p4, vI 1, vR b1681, vR b1698, vJ (own_u0 p0), .second, vI 1, vI 1] []) s₁ (own_E m p0 p1 p2 p3 p4) := fun t k => pre1707 t (st1708 t k)
   obtain ⟨T1710, L1710, X1710, N1710, e1710, st1710⟩ := own_doc1 (nv := 1) X1708 hx hZ hw hby hml hown e1708 N1708 Z1698 (by decide) (by decide) Ob1698_1 (by decide) rfl
   have pre1711 : own_P p e below T1710 (mkF m 395 #[vI p0, vI p1, vI p2, vI p3, vI p4, vI 1, vR b1681, vR b1698, vJ (own_u0 p0), .second, vI 1, vI 1] [(.int 1)]) s₁ (own_E m p0 p1 p2 p3 p4) := fun t k => pre1709 t (st1710 t k)
   obtain ⟨fs, hr, hrun, hended, hW, hsame⟩ := X1710.leave (v := some (.int 1)) (fun h => by rw [Bd.returns] at h; cases h)
   refine ⟨_, _, pre1711 _ ?_, hrun, hended, _, _, rfl, ?_, ⟨_, rfl⟩, hW, hsame.mono (by decide) (by decide)⟩
   ·
    exact retN X1710 hx (t := .boolean) Bd.returns (by simp) (hb hby at_395) hr
   ·
    show Q0 Z p0 p1 p2 p3 p4 h0 n0 _ T1710.heap _
    rw [e1710]
    exact ⟨rfl, N1710⟩
  ·
   by_cases hu1 : (own_u0 p0) < (16384 : Int64)
   ·
    obtain ⟨cq1712, kq1712, q1712a, q1712b, q1712c⟩ := isOf hZ e1693 Q1693_0
    obtain ⟨_, _, ⟨T1712, L1712, k1712, n1712⟩, -, X1712, ⟨Lc1712, hQ1712, l1712, y1712, z1712⟩, st1712⟩ := X1693.virtualBack hx (y := (⟨own_CK, "write", "()[B"⟩ : MethodName)) (z := (⟨own_CK, "write", "()[B"⟩ : MethodName)) hown (mvT hZ (own_w hw 19 rfl)) (mvT hZ (own_w hw 20 rfl)) (notFace_of_selects (args := #[]) (mvT hZ (own_w hw 22 rfl))) (mvT hZ (own_w hw 22 rfl)) (mvT hZ (own_w hw 21 rfl)) (by decide) (backOf (W := 0) (rm4_2_1 l Z ar0 hw [] b1688 p0 b1681 k1681 (own_d p2) h1693 n0 Z1693 Q1693_1 Q1693_2 Vf1695 (fun q => hu0 ((own_z1 p0).1 q)) ((own_z2 p0).2 hu1)) hZ (own_w hw 23 rfl) (own_w hw 3 rfl) (by decide) (by decide)) q1712a q1712c (g := (mkF m 57 #[vI p0, vI p1, vI p2, vI p3, vI p4, vI 1, vR b1681, .unset, .unset, .unset, .unset, .unset] [(.ref b1688)])) rfl (by rw [hml]; rfl) (Steps.refl _) (argsL := []) (rest := []) (lenOf pd_6 rfl) rfl (by show 2 * 0 + _ ≤ _; exact Nat.le_of_eq rfl) (hb hby at_57) (fun _ _ => ⟨rfl, e1693, (by decide : 2 + 2 ≤ _), (by decide : 3 + 8 ≤ _)⟩)
    dsimp only [Pt.U, Pt.locs, Pt.cells, Pt.slots] at X1712 l1712 y1712 z1712 st1712 hQ1712
    subst l1712 y1712 z1712
    obtain ⟨h1712, e1712⟩ : ∃ h, T1712.heap = h := ⟨_, rfl⟩
    rw [e1712] at hQ1712
    obtain ⟨b1712, kb1712, rfl, N1712q, K1712q, y_b1712, Ob1712_0, Ob1712_1⟩ := hQ1712
    have N1712 := Fr.app N1693 N1712q
    have ne_b1681_b1712 : b1681 ≠ b1712 := Nat.ne_of_lt (Nat.lt_of_lt_of_le (Ef1694).lt y_b1712)
    have ne_b1688_b1712 : b1688 ≠ b1712 := Nat.ne_of_lt (Nat.lt_of_lt_of_le (Q1693_0).lt y_b1712)
    have g_b1712 : n0 ≤ b1712 := Nat.le_trans Z1693 y_b1712
    have sz_b1712 : h0.size ≤ b1712 := Nat.le_trans K1693.1 y_b1712
    have Z1712 : n0 ≤ h1712.size := Nat.le_trans Z1693 K1712q.1
    have K1712 : Keep h0 h1712 [] := K1693.trans K1712q (fun x hx => absurd hx List.not_mem_nil)
    have Ef1713 : Exa Z h1712 b1681 "[B" := (Ef1694).keep K1712q
    have Vf1714 : Arv Z h1712 b1681 k1681 .byte (1 : Int32) [(.int (own_d p2))] (.int 0) := (Vf1695).keep K1712q List.not_mem_nil
    have Ef1715 : Exa Z h1712 b1688 own_CK := (Q1693_0).keep K1712q
    have Ff1716 : Fld Z h1712 b1688 own_CK "collection" "I" (.int p0) := (Q1693_1).keep K1712q List.not_mem_nil
    have Ff1717 : Fld Z h1712 b1688 own_CK "documentKey" "[B" (.ref b1681) := (Q1693_2).keep K1712q List.not_mem_nil
    have pre1718 : own_P p e below T1712 (mkF m 60 #[vI p0, vI p1, vI p2, vI p3, vI p4, vI 1, vR b1681, .unset, .unset, .unset, .unset, .unset] [(.ref b1712)]) s₁ (own_E m p0 p1 p2 p3 p4) := fun t k => pre1697 t (st1712.trans k)
    have pre1719 : own_P p e below T1712 (mkF m 140 #[vI p0, vI p1, vI p2, vI p3, vI p4, vI 1, vR b1681, vR b1712, vJ (own_u0 p0), .second, vI 2, .unset] [(.ref b1712)]) s₁ (own_E m p0 p1 p2 p3 p4) := by
     intro t k
     refine pre1718 t ?_
     refine XS.astore X1712.here hx rfl (hb hby at_60) rfl rfl (l' := #[vI p0, vI p1, vI p2, vI p3, vI p4, vI 1, vR b1681, vR b1712, .unset, .unset, .unset, .unset]) rfl ?_
     refine XS.iloadN X1712.here hx rfl (hb hby at_62) rfl ?_
     refine XS.i2l X1712.here hx rfl (hb hby at_63) rfl ?_
     refine X1712.ldc2Long hx hown (mvT hZ (own_w hw 43 rfl)) (g := (mkF m 64 #[vI p0, vI p1, vI p2, vI p3, vI p4, vI 1, vR b1681, vR b1712, .unset, .unset, .unset, .unset] [(.long (p0.toInt64))])) rfl (hb hby at_64) _ ?_
     refine XS.land X1712.here hx rfl (hb hby at_67) rfl ?_
     refine XS.lstore X1712.here hx rfl (hb hby at_68) rfl (l' := #[vI p0, vI p1, vI p2, vI p3, vI p4, vI 1, vR b1681, vR b1712, vJ (own_u0 p0), .second, .unset, .unset]) rfl ?_
     refine XS.lload X1712.here hx rfl (hb hby at_70) rfl ?_
     refine X1712.ldc2Long hx hown (mvT hZ (own_w hw 44 rfl)) (g := (mkF m 72 #[vI p0, vI p1, vI p2, vI p3, vI p4, vI 1, vR b1681, vR b1712, vJ (own_u0 p0), .second, .unset, .unset] [(.long (own_u0 p0))])) rfl (hb hby at_72) _ ?_
     refine XS.lcmp X1712.here hx rfl (hb hby at_75) rfl ?_
     refine XS.ifYes X1712.here hx rfl (pc0 := 76) (pc' := 85) rfl (hb hby at_76) rfl ((if0 _ _).trans (flt (own_nltL hu0)).2.1) (by decide) (by decide) ?_
     refine XS.lload X1712.here hx rfl (hb hby at_85) rfl ?_
     refine X1712.ldc2Long hx hown (mvT hZ (own_w hw 50 rfl)) (g := (mkF m 87 #[vI p0, vI p1, vI p2, vI p3, vI p4, vI 1, vR b1681, vR b1712, vJ (own_u0 p0), .second, .unset, .unset] [(.long (own_u0 p0))])) rfl (hb hby at_87) _ ?_
     refine XS.lcmp X1712.here hx rfl (hb hby at_90) rfl ?_
     refine XS.ifNo X1712.here hx rfl (hb hby at_91) rfl ((if0 _ _).trans (tlt (own_ltL hu1)).2.1) ?_
     refine XS.iconst X1712.here hx rfl (hb hby at_94) ?_
     refine XS.istore X1712.here hx rfl (hb hby at_95) rfl (l' := #[vI p0, vI p1, vI p2, vI p3, vI p4, vI 1, vR b1681, vR b1712, vJ (own_u0 p0), .second, vI 2, .unset]) rfl ?_
     refine XS.goto X1712.here hx rfl (pc0 := 97) (pc' := 133) rfl (hb hby at_97) (by decide) (by decide) ?_
     refine XS.aload X1712.here hx rfl (hb hby at_133) rfl rfl ?_
     refine XS.ifnullNo X1712.here hx rfl (hb hby at_135) rfl ?_
     refine XS.aload X1712.here hx rfl (hb hby at_138) rfl rfl ?_
     exact k
    obtain ⟨cl1720, Ar1720, q1720, S1720, M1720, H1720, G1720⟩ := id Ob1712_1
    have pre1721 : own_P p e below T1712 (mkF m 151 #[vI p0, vI p1, vI p2, vI p3, vI p4, vI 1, vR b1681, vR b1712, vJ (own_u0 p0), .second, vI 2, .unset] []) s₁ (own_E m p0 p1 p2 p3 p4) := by
     intro t k
     refine pre1719 t ?_
     refine X1712.arraylength hx (by rw [e1712]; exact Ar1720.1) (State.isArrayOf_alike hZ.alike Ar1720.2.1) (g := (mkF m 140 #[vI p0, vI p1, vI p2, vI p3, vI p4, vI 1, vR b1681, vR b1712, vJ (own_u0 p0), .second, vI 2, .unset] [(.ref b1712)])) rfl rfl (hb hby at_140) _ ?_
     rw [len_of S1720 M1720]
     refine XS.iload X1712.here hx rfl (hb hby at_141) rfl ?_
     refine XS.iload X1712.here hx rfl (hb hby at_143) rfl ?_
     refine XS.iadd X1712.here hx rfl (hb hby at_145) rfl ?_
     refine XS.icmpYes X1712.here hx rfl (pc0 := 146) (pc' := 151) rfl (hb hby at_146) rfl (teq (by decide : (3 : Int32) = (3 : Int32))).1 (by decide) (by decide) ?_
     exact k
    obtain ⟨T1722, L1722, X1722, N1722, e1722, st1722⟩ := own_id2 X1712 hx hZ hw hby hml hown e1712 N1712 Z1712 (by decide) (by decide) Ob1712_1 (by decide) (by decide) rfl rfl
    have pre1723 : own_P p e below T1722 (mkF m 305 #[vI p0, vI p1, vI p2, vI p3, vI p4, vI 1, vR b1681, vR b1712, vJ (own_u0 p0), .second, vI 2, vI 1] []) s₁ (own_E m p0 p1 p2 p3 p4) := fun t k => pre1721 t (st1722 t k)
    obtain ⟨T1724, L1724, X1724, N1724, e1724, st1724⟩ := own_doc1 (nv := 2) X1722 hx hZ hw hby hml hown e1722 N1722 Z1712 (by decide) (by decide) Ob1712_1 (by decide) rfl
    have pre1725 : own_P p e below T1724 (mkF m 395 #[vI p0, vI p1, vI p2, vI p3, vI p4, vI 1, vR b1681, vR b1712, vJ (own_u0 p0), .second, vI 2, vI 1] [(.int 1)]) s₁ (own_E m p0 p1 p2 p3 p4) := fun t k => pre1723 t (st1724 t k)
    obtain ⟨fs, hr, hrun, hended, hW, hsame⟩ := X1724.leave (v := some (.int 1)) (fun h => by rw [Bd.returns] at h; cases h)
    refine ⟨_, _, pre1725 _ ?_, hrun, hended, _, _, rfl, ?_, ⟨_, rfl⟩, hW, hsame.mono (by decide) (by decide)⟩
    ·
     exact retN X1724 hx (t := .boolean) Bd.returns (by simp) (hb hby at_395) hr
    ·
     show Q0 Z p0 p1 p2 p3 p4 h0 n0 _ T1724.heap _
     rw [e1724]
     exact ⟨rfl, N1724⟩
   ·
    by_cases hu2 : (own_u0 p0) < (2097152 : Int64)
    ·
     obtain ⟨cq1726, kq1726, q1726a, q1726b, q1726c⟩ := isOf hZ e1693 Q1693_0
     obtain ⟨_, _, ⟨T1726, L1726, k1726, n1726⟩, -, X1726, ⟨Lc1726, hQ1726, l1726, y1726, z1726⟩, st1726⟩ := X1693.virtualBack hx (y := (⟨own_CK, "write", "()[B"⟩ : MethodName)) (z := (⟨own_CK, "write", "()[B"⟩ : MethodName)) hown (mvT hZ (own_w hw 19 rfl)) (mvT hZ (own_w hw 20 rfl)) (notFace_of_selects (args := #[]) (mvT hZ (own_w hw 22 rfl))) (mvT hZ (own_w hw 22 rfl)) (mvT hZ (own_w hw 21 rfl)) (by decide) (backOf (W := 0) (rm4_3_1 l Z ar0 hw [] b1688 p0 b1681 k1681 (own_d p2) h1693 n0 Z1693 Q1693_1 Q1693_2 Vf1695 (fun q => hu0 ((own_z1 p0).1 q)) (fun q => hu1 ((own_z2 p0).1 q)) ((own_z3 p0).2 hu2)) hZ (own_w hw 23 rfl) (own_w hw 3 rfl) (by decide) (by decide)) q1726a q1726c (g := (mkF m 57 #[vI p0, vI p1, vI p2, vI p3, vI p4, vI 1, vR b1681, .unset, .unset, .unset, .unset, .unset] [(.ref b1688)])) rfl (by rw [hml]; rfl) (Steps.refl _) (argsL := []) (rest := []) (lenOf pd_6 rfl) rfl (by show 2 * 0 + _ ≤ _; exact Nat.le_of_eq rfl) (hb hby at_57) (fun _ _ => ⟨rfl, e1693, (by decide : 2 + 2 ≤ _), (by decide : 3 + 9 ≤ _)⟩)
     dsimp only [Pt.U, Pt.locs, Pt.cells, Pt.slots] at X1726 l1726 y1726 z1726 st1726 hQ1726
     subst l1726 y1726 z1726
     obtain ⟨h1726, e1726⟩ : ∃ h, T1726.heap = h := ⟨_, rfl⟩
     rw [e1726] at hQ1726
     obtain ⟨b1726, kb1726, rfl, N1726q, K1726q, y_b1726, Ob1726_0, Ob1726_1⟩ := hQ1726
     have N1726 := Fr.app N1693 N1726q
     have ne_b1681_b1726 : b1681 ≠ b1726 := Nat.ne_of_lt (Nat.lt_of_lt_of_le (Ef1694).lt y_b1726)
     have ne_b1688_b1726 : b1688 ≠ b1726 := Nat.ne_of_lt (Nat.lt_of_lt_of_le (Q1693_0).lt y_b1726)
     have g_b1726 : n0 ≤ b1726 := Nat.le_trans Z1693 y_b1726
     have sz_b1726 : h0.size ≤ b1726 := Nat.le_trans K1693.1 y_b1726
     have Z1726 : n0 ≤ h1726.size := Nat.le_trans Z1693 K1726q.1
     have K1726 : Keep h0 h1726 [] := K1693.trans K1726q (fun x hx => absurd hx List.not_mem_nil)
     have Ef1727 : Exa Z h1726 b1681 "[B" := (Ef1694).keep K1726q
     have Vf1728 : Arv Z h1726 b1681 k1681 .byte (1 : Int32) [(.int (own_d p2))] (.int 0) := (Vf1695).keep K1726q List.not_mem_nil
     have Ef1729 : Exa Z h1726 b1688 own_CK := (Q1693_0).keep K1726q
     have Ff1730 : Fld Z h1726 b1688 own_CK "collection" "I" (.int p0) := (Q1693_1).keep K1726q List.not_mem_nil
     have Ff1731 : Fld Z h1726 b1688 own_CK "documentKey" "[B" (.ref b1681) := (Q1693_2).keep K1726q List.not_mem_nil
     have pre1732 : own_P p e below T1726 (mkF m 60 #[vI p0, vI p1, vI p2, vI p3, vI p4, vI 1, vR b1681, .unset, .unset, .unset, .unset, .unset] [(.ref b1726)]) s₁ (own_E m p0 p1 p2 p3 p4) := fun t k => pre1697 t (st1726.trans k)
     have pre1733 : own_P p e below T1726 (mkF m 140 #[vI p0, vI p1, vI p2, vI p3, vI p4, vI 1, vR b1681, vR b1726, vJ (own_u0 p0), .second, vI 3, .unset] [(.ref b1726)]) s₁ (own_E m p0 p1 p2 p3 p4) := by
      intro t k
      refine pre1732 t ?_
      refine XS.astore X1726.here hx rfl (hb hby at_60) rfl rfl (l' := #[vI p0, vI p1, vI p2, vI p3, vI p4, vI 1, vR b1681, vR b1726, .unset, .unset, .unset, .unset]) rfl ?_
      refine XS.iloadN X1726.here hx rfl (hb hby at_62) rfl ?_
      refine XS.i2l X1726.here hx rfl (hb hby at_63) rfl ?_
      refine X1726.ldc2Long hx hown (mvT hZ (own_w hw 43 rfl)) (g := (mkF m 64 #[vI p0, vI p1, vI p2, vI p3, vI p4, vI 1, vR b1681, vR b1726, .unset, .unset, .unset, .unset] [(.long (p0.toInt64))])) rfl (hb hby at_64) _ ?_
      refine XS.land X1726.here hx rfl (hb hby at_67) rfl ?_
      refine XS.lstore X1726.here hx rfl (hb hby at_68) rfl (l' := #[vI p0, vI p1, vI p2, vI p3, vI p4, vI 1, vR b1681, vR b1726, vJ (own_u0 p0), .second, .unset, .unset]) rfl ?_
      refine XS.lload X1726.here hx rfl (hb hby at_70) rfl ?_
      refine X1726.ldc2Long hx hown (mvT hZ (own_w hw 44 rfl)) (g := (mkF m 72 #[vI p0, vI p1, vI p2, vI p3, vI p4, vI 1, vR b1681, vR b1726, vJ (own_u0 p0), .second, .unset, .unset] [(.long (own_u0 p0))])) rfl (hb hby at_72) _ ?_
      refine XS.lcmp X1726.here hx rfl (hb hby at_75) rfl ?_
      refine XS.ifYes X1726.here hx rfl (pc0 := 76) (pc' := 85) rfl (hb hby at_76) rfl ((if0 _ _).trans (flt (own_nltL hu0)).2.1) (by decide) (by decide) ?_
      refine XS.lload X1726.here hx rfl (hb hby at_85) rfl ?_
      refine X1726.ldc2Long hx hown (mvT hZ (own_w hw 50 rfl)) (g := (mkF m 87 #[vI p0, vI p1, vI p2, vI p3, vI p4, vI 1, vR b1681, vR b1726, vJ (own_u0 p0), .second, .unset, .unset] [(.long (own_u0 p0))])) rfl (hb hby at_87) _ ?_
      refine XS.lcmp X1726.here hx rfl (hb hby at_90) rfl ?_
      refine XS.ifYes X1726.here hx rfl (pc0 := 91) (pc' := 100) rfl (hb hby at_91) rfl ((if0 _ _).trans (flt (own_nltL hu1)).2.1) (by decide) (by decide) ?_
      refine XS.lload X1726.here hx rfl (hb hby at_100) rfl ?_
      refine X1726.ldc2Long hx hown (mvT hZ (own_w hw 51 rfl)) (g := (mkF m 102 #[vI p0, vI p1, vI p2, vI p3, vI p4, vI 1, vR b1681, vR b1726, vJ (own_u0 p0), .second, .unset, .unset] [(.long (own_u0 p0))])) rfl (hb hby at_102) _ ?_
      refine XS.lcmp X1726.here hx rfl (hb hby at_105) rfl ?_
      refine XS.ifNo X1726.here hx rfl (hb hby at_106) rfl ((if0 _ _).trans (tlt (own_ltL hu2)).2.1) ?_
      refine XS.iconst X1726.here hx rfl (hb hby at_109) ?_
      refine XS.istore X1726.here hx rfl (hb hby at_110) rfl (l' := #[vI p0, vI p1, vI p2, vI p3, vI p4, vI 1, vR b1681, vR b1726, vJ (own_u0 p0), .second, vI 3, .unset]) rfl ?_
      refine XS.goto X1726.here hx rfl (pc0 := 112) (pc' := 133) rfl (hb hby at_112) (by decide) (by decide) ?_
      refine XS.aload X1726.here hx rfl (hb hby at_133) rfl rfl ?_
      refine XS.ifnullNo X1726.here hx rfl (hb hby at_135) rfl ?_
      refine XS.aload X1726.here hx rfl (hb hby at_138) rfl rfl ?_
      exact k
     obtain ⟨cl1734, Ar1734, q1734, S1734, M1734, H1734, G1734⟩ := id Ob1726_1
     have pre1735 : own_P p e below T1726 (mkF m 151 #[vI p0, vI p1, vI p2, vI p3, vI p4, vI 1, vR b1681, vR b1726, vJ (own_u0 p0), .second, vI 3, .unset] []) s₁ (own_E m p0 p1 p2 p3 p4) := by
      intro t k
      refine pre1733 t ?_
      refine X1726.arraylength hx (by rw [e1726]; exact Ar1734.1) (State.isArrayOf_alike hZ.alike Ar1734.2.1) (g := (mkF m 140 #[vI p0, vI p1, vI p2, vI p3, vI p4, vI 1, vR b1681, vR b1726, vJ (own_u0 p0), .second, vI 3, .unset] [(.ref b1726)])) rfl rfl (hb hby at_140) _ ?_
      rw [len_of S1734 M1734]
      refine XS.iload X1726.here hx rfl (hb hby at_141) rfl ?_
      refine XS.iload X1726.here hx rfl (hb hby at_143) rfl ?_
      refine XS.iadd X1726.here hx rfl (hb hby at_145) rfl ?_
      refine XS.icmpYes X1726.here hx rfl (pc0 := 146) (pc' := 151) rfl (hb hby at_146) rfl (teq (by decide : (4 : Int32) = (4 : Int32))).1 (by decide) (by decide) ?_
      exact k
     obtain ⟨T1736, L1736, X1736, N1736, e1736, st1736⟩ := own_id3 X1726 hx hZ hw hby hml hown e1726 N1726 Z1726 (by decide) (by decide) Ob1726_1 (by decide) (by decide) (by decide) rfl rfl rfl
     have pre1737 : own_P p e below T1736 (mkF m 305 #[vI p0, vI p1, vI p2, vI p3, vI p4, vI 1, vR b1681, vR b1726, vJ (own_u0 p0), .second, vI 3, vI 1] []) s₁ (own_E m p0 p1 p2 p3 p4) := fun t k => pre1735 t (st1736 t k)
     obtain ⟨T1738, L1738, X1738, N1738, e1738, st1738⟩ := own_doc1 (nv := 3) X1736 hx hZ hw hby hml hown e1736 N1736 Z1726 (by decide) (by decide) Ob1726_1 (by decide) rfl
     have pre1739 : own_P p e below T1738 (mkF m 395 #[vI p0, vI p1, vI p2, vI p3, vI p4, vI 1, vR b1681, vR b1726, vJ (own_u0 p0), .second, vI 3, vI 1] [(.int 1)]) s₁ (own_E m p0 p1 p2 p3 p4) := fun t k => pre1737 t (st1738 t k)
     obtain ⟨fs, hr, hrun, hended, hW, hsame⟩ := X1738.leave (v := some (.int 1)) (fun h => by rw [Bd.returns] at h; cases h)
     refine ⟨_, _, pre1739 _ ?_, hrun, hended, _, _, rfl, ?_, ⟨_, rfl⟩, hW, hsame.mono (by decide) (by decide)⟩
     ·
      exact retN X1738 hx (t := .boolean) Bd.returns (by simp) (hb hby at_395) hr
     ·
      show Q0 Z p0 p1 p2 p3 p4 h0 n0 _ T1738.heap _
      rw [e1738]
      exact ⟨rfl, N1738⟩
    ·
     by_cases hu3 : (own_u0 p0) < (268435456 : Int64)
     ·
      obtain ⟨cq1740, kq1740, q1740a, q1740b, q1740c⟩ := isOf hZ e1693 Q1693_0
      obtain ⟨_, _, ⟨T1740, L1740, k1740, n1740⟩, -, X1740, ⟨Lc1740, hQ1740, l1740, y1740, z1740⟩, st1740⟩ := X1693.virtualBack hx (y := (⟨own_CK, "write", "()[B"⟩ : MethodName)) (z := (⟨own_CK, "write", "()[B"⟩ : MethodName)) hown (mvT hZ (own_w hw 19 rfl)) (mvT hZ (own_w hw 20 rfl)) (notFace_of_selects (args := #[]) (mvT hZ (own_w hw 22 rfl))) (mvT hZ (own_w hw 22 rfl)) (mvT hZ (own_w hw 21 rfl)) (by decide) (backOf (W := 0) (rm4_4_1 l Z ar0 hw [] b1688 p0 b1681 k1681 (own_d p2) h1693 n0 Z1693 Q1693_1 Q1693_2 Vf1695 (fun q => hu0 ((own_z1 p0).1 q)) (fun q => hu1 ((own_z2 p0).1 q)) (fun q => hu2 ((own_z3 p0).1 q)) ((own_z4 p0).2 hu3)) hZ (own_w hw 23 rfl) (own_w hw 3 rfl) (by decide) (by decide)) q1740a q1740c (g := (mkF m 57 #[vI p0, vI p1, vI p2, vI p3, vI p4, vI 1, vR b1681, .unset, .unset, .unset, .unset, .unset] [(.ref b1688)])) rfl (by rw [hml]; rfl) (Steps.refl _) (argsL := []) (rest := []) (lenOf pd_6 rfl) rfl (by show 2 * 0 + _ ≤ _; exact Nat.le_of_eq rfl) (hb hby at_57) (fun _ _ => ⟨rfl, e1693, (by decide : 2 + 2 ≤ _), (by decide : 3 + 10 ≤ _)⟩)
      dsimp only [Pt.U, Pt.locs, Pt.cells, Pt.slots] at X1740 l1740 y1740 z1740 st1740 hQ1740
      subst l1740 y1740 z1740
      obtain ⟨h1740, e1740⟩ : ∃ h, T1740.heap = h := ⟨_, rfl⟩
      rw [e1740] at hQ1740
      obtain ⟨b1740, kb1740, rfl, N1740q, K1740q, y_b1740, Ob1740_0, Ob1740_1⟩ := hQ1740
      have N1740 := Fr.app N1693 N1740q
      have ne_b1681_b1740 : b1681 ≠ b1740 := Nat.ne_of_lt (Nat.lt_of_lt_of_le (Ef1694).lt y_b1740)
      have ne_b1688_b1740 : b1688 ≠ b1740 := Nat.ne_of_lt (Nat.lt_of_lt_of_le (Q1693_0).lt y_b1740)
      have g_b1740 : n0 ≤ b1740 := Nat.le_trans Z1693 y_b1740
      have sz_b1740 : h0.size ≤ b1740 := Nat.le_trans K1693.1 y_b1740
      have Z1740 : n0 ≤ h1740.size := Nat.le_trans Z1693 K1740q.1
      have K1740 : Keep h0 h1740 [] := K1693.trans K1740q (fun x hx => absurd hx List.not_mem_nil)
      have Ef1741 : Exa Z h1740 b1681 "[B" := (Ef1694).keep K1740q
      have Vf1742 : Arv Z h1740 b1681 k1681 .byte (1 : Int32) [(.int (own_d p2))] (.int 0) := (Vf1695).keep K1740q List.not_mem_nil
      have Ef1743 : Exa Z h1740 b1688 own_CK := (Q1693_0).keep K1740q
      have Ff1744 : Fld Z h1740 b1688 own_CK "collection" "I" (.int p0) := (Q1693_1).keep K1740q List.not_mem_nil
      have Ff1745 : Fld Z h1740 b1688 own_CK "documentKey" "[B" (.ref b1681) := (Q1693_2).keep K1740q List.not_mem_nil
      have pre1746 : own_P p e below T1740 (mkF m 60 #[vI p0, vI p1, vI p2, vI p3, vI p4, vI 1, vR b1681, .unset, .unset, .unset, .unset, .unset] [(.ref b1740)]) s₁ (own_E m p0 p1 p2 p3 p4) := fun t k => pre1697 t (st1740.trans k)
      have pre1747 : own_P p e below T1740 (mkF m 140 #[vI p0, vI p1, vI p2, vI p3, vI p4, vI 1, vR b1681, vR b1740, vJ (own_u0 p0), .second, vI 4, .unset] [(.ref b1740)]) s₁ (own_E m p0 p1 p2 p3 p4) := by
       intro t k
       refine pre1746 t ?_
       refine XS.astore X1740.here hx rfl (hb hby at_60) rfl rfl (l' := #[vI p0, vI p1, vI p2, vI p3, vI p4, vI 1, vR b1681, vR b1740, .unset, .unset, .unset, .unset]) rfl ?_
       refine XS.iloadN X1740.here hx rfl (hb hby at_62) rfl ?_
       refine XS.i2l X1740.here hx rfl (hb hby at_63) rfl ?_
       refine X1740.ldc2Long hx hown (mvT hZ (own_w hw 43 rfl)) (g := (mkF m 64 #[vI p0, vI p1, vI p2, vI p3, vI p4, vI 1, vR b1681, vR b1740, .unset, .unset, .unset, .unset] [(.long (p0.toInt64))])) rfl (hb hby at_64) _ ?_
       refine XS.land X1740.here hx rfl (hb hby at_67) rfl ?_
       refine XS.lstore X1740.here hx rfl (hb hby at_68) rfl (l' := #[vI p0, vI p1, vI p2, vI p3, vI p4, vI 1, vR b1681, vR b1740, vJ (own_u0 p0), .second, .unset, .unset]) rfl ?_
       refine XS.lload X1740.here hx rfl (hb hby at_70) rfl ?_
       refine X1740.ldc2Long hx hown (mvT hZ (own_w hw 44 rfl)) (g := (mkF m 72 #[vI p0, vI p1, vI p2, vI p3, vI p4, vI 1, vR b1681, vR b1740, vJ (own_u0 p0), .second, .unset, .unset] [(.long (own_u0 p0))])) rfl (hb hby at_72) _ ?_
       refine XS.lcmp X1740.here hx rfl (hb hby at_75) rfl ?_
       refine XS.ifYes X1740.here hx rfl (pc0 := 76) (pc' := 85) rfl (hb hby at_76) rfl ((if0 _ _).trans (flt (own_nltL hu0)).2.1) (by decide) (by decide) ?_
       refine XS.lload X1740.here hx rfl (hb hby at_85) rfl ?_
       refine X1740.ldc2Long hx hown (mvT hZ (own_w hw 50 rfl)) (g := (mkF m 87 #[vI p0, vI p1, vI p2, vI p3, vI p4, vI 1, vR b1681, vR b1740, vJ (own_u0 p0), .second, .unset, .unset] [(.long (own_u0 p0))])) rfl (hb hby at_87) _ ?_
       refine XS.lcmp X1740.here hx rfl (hb hby at_90) rfl ?_
       refine XS.ifYes X1740.here hx rfl (pc0 := 91) (pc' := 100) rfl (hb hby at_91) rfl ((if0 _ _).trans (flt (own_nltL hu1)).2.1) (by decide) (by decide) ?_
       refine XS.lload X1740.here hx rfl (hb hby at_100) rfl ?_
       refine X1740.ldc2Long hx hown (mvT hZ (own_w hw 51 rfl)) (g := (mkF m 102 #[vI p0, vI p1, vI p2, vI p3, vI p4, vI 1, vR b1681, vR b1740, vJ (own_u0 p0), .second, .unset, .unset] [(.long (own_u0 p0))])) rfl (hb hby at_102) _ ?_
       refine XS.lcmp X1740.here hx rfl (hb hby at_105) rfl ?_
       refine XS.ifYes X1740.here hx rfl (pc0 := 106) (pc' := 115) rfl (hb hby at_106) rfl ((if0 _ _).trans (flt (own_nltL hu2)).2.1) (by decide) (by decide) ?_
       refine XS.lload X1740.here hx rfl (hb hby at_115) rfl ?_
       refine X1740.ldc2Long hx hown (mvT hZ (own_w hw 52 rfl)) (g := (mkF m 117 #[vI p0, vI p1, vI p2, vI p3, vI p4, vI 1, vR b1681, vR b1740, vJ (own_u0 p0), .second, .unset, .unset] [(.long (own_u0 p0))])) rfl (hb hby at_117) _ ?_
       refine XS.lcmp X1740.here hx rfl (hb hby at_120) rfl ?_
       refine XS.ifNo X1740.here hx rfl (hb hby at_121) rfl ((if0 _ _).trans (tlt (own_ltL hu3)).2.1) ?_
       refine XS.iconst X1740.here hx rfl (hb hby at_124) ?_
       refine XS.istore X1740.here hx rfl (hb hby at_125) rfl (l' := #[vI p0, vI p1, vI p2, vI p3, vI p4, vI 1, vR b1681, vR b1740, vJ (own_u0 p0), .second, vI 4, .unset]) rfl ?_
       refine XS.goto X1740.here hx rfl (pc0 := 127) (pc' := 133) rfl (hb hby at_127) (by decide) (by decide) ?_
       refine XS.aload X1740.here hx rfl (hb hby at_133) rfl rfl ?_
       refine XS.ifnullNo X1740.here hx rfl (hb hby at_135) rfl ?_
       refine XS.aload X1740.here hx rfl (hb hby at_138) rfl rfl ?_
       exact k
      obtain ⟨cl1748, Ar1748, q1748, S1748, M1748, H1748, G1748⟩ := id Ob1740_1
      have pre1749 : own_P p e below T1740 (mkF m 151 #[vI p0, vI p1, vI p2, vI p3, vI p4, vI 1, vR b1681, vR b1740, vJ (own_u0 p0), .second, vI 4, .unset] []) s₁ (own_E m p0 p1 p2 p3 p4) := by
       intro t k
       refine pre1747 t ?_
       refine X1740.arraylength hx (by rw [e1740]; exact Ar1748.1) (State.isArrayOf_alike hZ.alike Ar1748.2.1) (g := (mkF m 140 #[vI p0, vI p1, vI p2, vI p3, vI p4, vI 1, vR b1681, vR b1740, vJ (own_u0 p0), .second, vI 4, .unset] [(.ref b1740)])) rfl rfl (hb hby at_140) _ ?_
       rw [len_of S1748 M1748]
       refine XS.iload X1740.here hx rfl (hb hby at_141) rfl ?_
       refine XS.iload X1740.here hx rfl (hb hby at_143) rfl ?_
       refine XS.iadd X1740.here hx rfl (hb hby at_145) rfl ?_
       refine XS.icmpYes X1740.here hx rfl (pc0 := 146) (pc' := 151) rfl (hb hby at_146) rfl (teq (by decide : (5 : Int32) = (5 : Int32))).1 (by decide) (by decide) ?_
       exact k
      obtain ⟨T1750, L1750, X1750, N1750, e1750, st1750⟩ := own_id4 X1740 hx hZ hw hby hml hown e1740 N1740 Z1740 (by decide) (by decide) Ob1740_1 (by decide) (by decide) (by decide) (by decide) rfl rfl rfl rfl
      have pre1751 : own_P p e below T1750 (mkF m 305 #[vI p0, vI p1, vI p2, vI p3, vI p4, vI 1, vR b1681, vR b1740, vJ (own_u0 p0), .second, vI 4, vI 1] []) s₁ (own_E m p0 p1 p2 p3 p4) := fun t k => pre1749 t (st1750 t k)
      obtain ⟨T1752, L1752, X1752, N1752, e1752, st1752⟩ := own_doc1 (nv := 4) X1750 hx hZ hw hby hml hown e1750 N1750 Z1740 (by decide) (by decide) Ob1740_1 (by decide) rfl
      have pre1753 : own_P p e below T1752 (mkF m 395 #[vI p0, vI p1, vI p2, vI p3, vI p4, vI 1, vR b1681, vR b1740, vJ (own_u0 p0), .second, vI 4, vI 1] [(.int 1)]) s₁ (own_E m p0 p1 p2 p3 p4) := fun t k => pre1751 t (st1752 t k)
      obtain ⟨fs, hr, hrun, hended, hW, hsame⟩ := X1752.leave (v := some (.int 1)) (fun h => by rw [Bd.returns] at h; cases h)
      refine ⟨_, _, pre1753 _ ?_, hrun, hended, _, _, rfl, ?_, ⟨_, rfl⟩, hW, hsame.mono (by decide) (by decide)⟩
      ·
       exact retN X1752 hx (t := .boolean) Bd.returns (by simp) (hb hby at_395) hr
      ·
       show Q0 Z p0 p1 p2 p3 p4 h0 n0 _ T1752.heap _
       rw [e1752]
       exact ⟨rfl, N1752⟩
     ·
      obtain ⟨cq1754, kq1754, q1754a, q1754b, q1754c⟩ := isOf hZ e1693 Q1693_0
      obtain ⟨_, _, ⟨T1754, L1754, k1754, n1754⟩, -, X1754, ⟨Lc1754, hQ1754, l1754, y1754, z1754⟩, st1754⟩ := X1693.virtualBack hx (y := (⟨own_CK, "write", "()[B"⟩ : MethodName)) (z := (⟨own_CK, "write", "()[B"⟩ : MethodName)) hown (mvT hZ (own_w hw 19 rfl)) (mvT hZ (own_w hw 20 rfl)) (notFace_of_selects (args := #[]) (mvT hZ (own_w hw 22 rfl))) (mvT hZ (own_w hw 22 rfl)) (mvT hZ (own_w hw 21 rfl)) (by decide) (backOf (W := 0) (rm4_5_1 l Z ar0 hw [] b1688 p0 b1681 k1681 (own_d p2) h1693 n0 Z1693 Q1693_1 Q1693_2 Vf1695 (fun q => hu0 ((own_z1 p0).1 q)) (fun q => hu1 ((own_z2 p0).1 q)) (fun q => hu2 ((own_z3 p0).1 q)) (fun q => hu3 ((own_z4 p0).1 q)) (own_z5 p0)) hZ (own_w hw 23 rfl) (own_w hw 3 rfl) (by decide) (by decide)) q1754a q1754c (g := (mkF m 57 #[vI p0, vI p1, vI p2, vI p3, vI p4, vI 1, vR b1681, .unset, .unset, .unset, .unset, .unset] [(.ref b1688)])) rfl (by rw [hml]; rfl) (Steps.refl _) (argsL := []) (rest := []) (lenOf pd_6 rfl) rfl (by show 2 * 0 + _ ≤ _; exact Nat.le_of_eq rfl) (hb hby at_57) (fun _ _ => ⟨rfl, e1693, (by decide : 2 + 2 ≤ _), (by decide : 3 + 11 ≤ _)⟩)
      dsimp only [Pt.U, Pt.locs, Pt.cells, Pt.slots] at X1754 l1754 y1754 z1754 st1754 hQ1754
      subst l1754 y1754 z1754
      obtain ⟨h1754, e1754⟩ : ∃ h, T1754.heap = h := ⟨_, rfl⟩
      rw [e1754] at hQ1754
      obtain ⟨b1754, kb1754, rfl, N1754q, K1754q, y_b1754, Ob1754_0, Ob1754_1⟩ := hQ1754
      have N1754 := Fr.app N1693 N1754q
      have ne_b1681_b1754 : b1681 ≠ b1754 := Nat.ne_of_lt (Nat.lt_of_lt_of_le (Ef1694).lt y_b1754)
      have ne_b1688_b1754 : b1688 ≠ b1754 := Nat.ne_of_lt (Nat.lt_of_lt_of_le (Q1693_0).lt y_b1754)
      have g_b1754 : n0 ≤ b1754 := Nat.le_trans Z1693 y_b1754
      have sz_b1754 : h0.size ≤ b1754 := Nat.le_trans K1693.1 y_b1754
      have Z1754 : n0 ≤ h1754.size := Nat.le_trans Z1693 K1754q.1
      have K1754 : Keep h0 h1754 [] := K1693.trans K1754q (fun x hx => absurd hx List.not_mem_nil)
      have Ef1755 : Exa Z h1754 b1681 "[B" := (Ef1694).keep K1754q
      have Vf1756 : Arv Z h1754 b1681 k1681 .byte (1 : Int32) [(.int (own_d p2))] (.int 0) := (Vf1695).keep K1754q List.not_mem_nil
      have Ef1757 : Exa Z h1754 b1688 own_CK := (Q1693_0).keep K1754q
      have Ff1758 : Fld Z h1754 b1688 own_CK "collection" "I" (.int p0) := (Q1693_1).keep K1754q List.not_mem_nil
      have Ff1759 : Fld Z h1754 b1688 own_CK "documentKey" "[B" (.ref b1681) := (Q1693_2).keep K1754q List.not_mem_nil
      have pre1760 : own_P p e below T1754 (mkF m 60 #[vI p0, vI p1, vI p2, vI p3, vI p4, vI 1, vR b1681, .unset, .unset, .unset, .unset, .unset] [(.ref b1754)]) s₁ (own_E m p0 p1 p2 p3 p4) := fun t k => pre1697 t (st1754.trans k)
      have pre1761 : own_P p e below T1754 (mkF m 140 #[vI p0, vI p1, vI p2, vI p3, vI p4, vI 1, vR b1681, vR b1754, vJ (own_u0 p0), .second, vI 5, .unset] [(.ref b1754)]) s₁ (own_E m p0 p1 p2 p3 p4) := by
       intro t k
       refine pre1760 t ?_
       refine XS.astore X1754.here hx rfl (hb hby at_60) rfl rfl (l' := #[vI p0, vI p1, vI p2, vI p3, vI p4, vI 1, vR b1681, vR b1754, .unset, .unset, .unset, .unset]) rfl ?_
       refine XS.iloadN X1754.here hx rfl (hb hby at_62) rfl ?_
       refine XS.i2l X1754.here hx rfl (hb hby at_63) rfl ?_
       refine X1754.ldc2Long hx hown (mvT hZ (own_w hw 43 rfl)) (g := (mkF m 64 #[vI p0, vI p1, vI p2, vI p3, vI p4, vI 1, vR b1681, vR b1754, .unset, .unset, .unset, .unset] [(.long (p0.toInt64))])) rfl (hb hby at_64) _ ?_
       refine XS.land X1754.here hx rfl (hb hby at_67) rfl ?_
       refine XS.lstore X1754.here hx rfl (hb hby at_68) rfl (l' := #[vI p0, vI p1, vI p2, vI p3, vI p4, vI 1, vR b1681, vR b1754, vJ (own_u0 p0), .second, .unset, .unset]) rfl ?_
       refine XS.lload X1754.here hx rfl (hb hby at_70) rfl ?_
       refine X1754.ldc2Long hx hown (mvT hZ (own_w hw 44 rfl)) (g := (mkF m 72 #[vI p0, vI p1, vI p2, vI p3, vI p4, vI 1, vR b1681, vR b1754, vJ (own_u0 p0), .second, .unset, .unset] [(.long (own_u0 p0))])) rfl (hb hby at_72) _ ?_
       refine XS.lcmp X1754.here hx rfl (hb hby at_75) rfl ?_
       refine XS.ifYes X1754.here hx rfl (pc0 := 76) (pc' := 85) rfl (hb hby at_76) rfl ((if0 _ _).trans (flt (own_nltL hu0)).2.1) (by decide) (by decide) ?_
       refine XS.lload X1754.here hx rfl (hb hby at_85) rfl ?_
       refine X1754.ldc2Long hx hown (mvT hZ (own_w hw 50 rfl)) (g := (mkF m 87 #[vI p0, vI p1, vI p2, vI p3, vI p4, vI 1, vR b1681, vR b1754, vJ (own_u0 p0), .second, .unset, .unset] [(.long (own_u0 p0))])) rfl (hb hby at_87) _ ?_
       refine XS.lcmp X1754.here hx rfl (hb hby at_90) rfl ?_
       refine XS.ifYes X1754.here hx rfl (pc0 := 91) (pc' := 100) rfl (hb hby at_91) rfl ((if0 _ _).trans (flt (own_nltL hu1)).2.1) (by decide) (by decide) ?_
       refine XS.lload X1754.here hx rfl (hb hby at_100) rfl ?_
       refine X1754.ldc2Long hx hown (mvT hZ (own_w hw 51 rfl)) (g := (mkF m 102 #[vI p0, vI p1, vI p2, vI p3, vI p4, vI 1, vR b1681, vR b1754, vJ (own_u0 p0), .second, .unset, .unset] [(.long (own_u0 p0))])) rfl (hb hby at_102) _ ?_
       refine XS.lcmp X1754.here hx rfl (hb hby at_105) rfl ?_
       refine XS.ifYes X1754.here hx rfl (pc0 := 106) (pc' := 115) rfl (hb hby at_106) rfl ((if0 _ _).trans (flt (own_nltL hu2)).2.1) (by decide) (by decide) ?_
       refine XS.lload X1754.here hx rfl (hb hby at_115) rfl ?_
       refine X1754.ldc2Long hx hown (mvT hZ (own_w hw 52 rfl)) (g := (mkF m 117 #[vI p0, vI p1, vI p2, vI p3, vI p4, vI 1, vR b1681, vR b1754, vJ (own_u0 p0), .second, .unset, .unset] [(.long (own_u0 p0))])) rfl (hb hby at_117) _ ?_
       refine XS.lcmp X1754.here hx rfl (hb hby at_120) rfl ?_
       refine XS.ifYes X1754.here hx rfl (pc0 := 121) (pc' := 130) rfl (hb hby at_121) rfl ((if0 _ _).trans (flt (own_nltL hu3)).2.1) (by decide) (by decide) ?_
       refine XS.iconst X1754.here hx rfl (hb hby at_130) ?_
       refine XS.istore X1754.here hx rfl (hb hby at_131) rfl (l' := #[vI p0, vI p1, vI p2, vI p3, vI p4, vI 1, vR b1681, vR b1754, vJ (own_u0 p0), .second, vI 5, .unset]) rfl ?_
       refine XS.aload X1754.here hx rfl (hb hby at_133) rfl rfl ?_
       refine XS.ifnullNo X1754.here hx rfl (hb hby at_135) rfl ?_
       refine XS.aload X1754.here hx rfl (hb hby at_138) rfl rfl ?_
       exact k
      obtain ⟨cl1762, Ar1762, q1762, S1762, M1762, H1762, G1762⟩ := id Ob1754_1
      have pre1763 : own_P p e below T1754 (mkF m 151 #[vI p0, vI p1, vI p2, vI p3, vI p4, vI 1, vR b1681, vR b1754, vJ (own_u0 p0), .second, vI 5, .unset] []) s₁ (own_E m p0 p1 p2 p3 p4) := by
       intro t k
       refine pre1761 t ?_
       refine X1754.arraylength hx (by rw [e1754]; exact Ar1762.1) (State.isArrayOf_alike hZ.alike Ar1762.2.1) (g := (mkF m 140 #[vI p0, vI p1, vI p2, vI p3, vI p4, vI 1, vR b1681, vR b1754, vJ (own_u0 p0), .second, vI 5, .unset] [(.ref b1754)])) rfl rfl (hb hby at_140) _ ?_
       rw [len_of S1762 M1762]
       refine XS.iload X1754.here hx rfl (hb hby at_141) rfl ?_
       refine XS.iload X1754.here hx rfl (hb hby at_143) rfl ?_
       refine XS.iadd X1754.here hx rfl (hb hby at_145) rfl ?_
       refine XS.icmpYes X1754.here hx rfl (pc0 := 146) (pc' := 151) rfl (hb hby at_146) rfl (teq (by decide : (6 : Int32) = (6 : Int32))).1 (by decide) (by decide) ?_
       exact k
      obtain ⟨T1764, L1764, X1764, N1764, e1764, st1764⟩ := own_id5 X1754 hx hZ hw hby hml hown e1754 N1754 Z1754 (by decide) (by decide) Ob1754_1 (by decide) (by decide) (by decide) (by decide) (by decide) rfl rfl rfl rfl rfl
      have pre1765 : own_P p e below T1764 (mkF m 305 #[vI p0, vI p1, vI p2, vI p3, vI p4, vI 1, vR b1681, vR b1754, vJ (own_u0 p0), .second, vI 5, vI 1] []) s₁ (own_E m p0 p1 p2 p3 p4) := fun t k => pre1763 t (st1764 t k)
      obtain ⟨T1766, L1766, X1766, N1766, e1766, st1766⟩ := own_doc1 (nv := 5) X1764 hx hZ hw hby hml hown e1764 N1764 Z1754 (by decide) (by decide) Ob1754_1 (by decide) rfl
      have pre1767 : own_P p e below T1766 (mkF m 395 #[vI p0, vI p1, vI p2, vI p3, vI p4, vI 1, vR b1681, vR b1754, vJ (own_u0 p0), .second, vI 5, vI 1] [(.int 1)]) s₁ (own_E m p0 p1 p2 p3 p4) := fun t k => pre1765 t (st1766 t k)
      obtain ⟨fs, hr, hrun, hended, hW, hsame⟩ := X1766.leave (v := some (.int 1)) (fun h => by rw [Bd.returns] at h; cases h)
      refine ⟨_, _, pre1767 _ ?_, hrun, hended, _, _, rfl, ?_, ⟨_, rfl⟩, hW, hsame.mono (by decide) (by decide)⟩
      ·
       exact retN X1766 hx (t := .boolean) Bd.returns (by simp) (hb hby at_395) hr
      ·
       show Q0 Z p0 p1 p2 p3 p4 h0 n0 _ T1766.heap _
       rw [e1766]
       exact ⟨rfl, N1766⟩
 ·
  have pre1768 : ∀ t, Steps p.tables e below (s₁.setTop (mkF m 7 #[vI p0, vI p1, vI p2, vI p3, vI p4, vI 2, .unset, .unset, .unset, .unset, .unset, .unset] [(.int 2)])) t → Steps p.tables e below (s₁.setTop (own_E m p0 p1 p2 p3 p4)) t := by
   intro t k
   refine pre1595 t ?_
   refine XS.iload X0.here hx rfl (hb hby at_5) rfl ?_
   exact k
  obtain ⟨T1769, h1769, k1769, X1769, e1769, E1769, A1769, C1769, st1769⟩ := newPE X0 hx hZ (own_w hw 0 rfl) e0 (g := (mkF m 7 #[vI p0, vI p1, vI p2, vI p3, vI p4, vI 2, .unset, .unset, .unset, .unset, .unset, .unset] [(.int 2)])) rfl (hb hby at_7) rfl (by decide) (cap := 2) (by decide) (by decide) (by decide) (by decide) (ad := "[B") rfl
  obtain ⟨b1769, g1769⟩ : ∃ z, z = h0.size := ⟨_, rfl⟩
  rw [← g1769] at A1769 C1769 st1769
  have g_b1769 : n0 ≤ b1769 := Nat.le_trans Z0 (Nat.le_of_eq g1769.symm)
  have sz_b1769 : h0.size ≤ b1769 := Nat.le_trans (Keep.refl h0 []).1 (Nat.le_of_eq g1769.symm)
  have Z1769 : n0 ≤ h1769.size := Nat.le_trans Z0 E1769.1
  have K1769 : Keep h0 h1769 [] := (Keep.refl h0 []).ext E1769
  have V_b1769 : Arv Z h1769 b1769 k1769 .byte (2 : Int32) [(.int 0), (.int 0)] (.int 0) := (Arv.new A1769 (by decide)).pad (pad_rep [] (.int 0) 2)
  have pre1770 : own_P p e below T1769 (mkF m 9 #[vI p0, vI p1, vI p2, vI p3, vI p4, vI 2, .unset, .unset, .unset, .unset, .unset, .unset] [(.ref b1769)]) s₁ (own_E m p0 p1 p2 p3 p4) := fun t k => pre1768 t (st1769 t k)
  have pre1771 : own_P p e below T1769 (mkF m 21 #[vI p0, vI p1, vI p2, vI p3, vI p4, vI 2, vR b1769, .unset, .unset, .unset, .unset, .unset] [(.int (p2.toInt8.toInt32)), (.int 0), (.ref b1769)]) s₁ (own_E m p0 p1 p2 p3 p4) := by
   intro t k
   refine pre1770 t ?_
   refine XS.astore X1769.here hx rfl (hb hby at_9) rfl rfl (l' := #[vI p0, vI p1, vI p2, vI p3, vI p4, vI 2, vR b1769, .unset, .unset, .unset, .unset, .unset]) rfl ?_
   refine XS.iload X1769.here hx rfl (hb hby at_11) rfl ?_
   refine XS.ifNo X1769.here hx rfl (hb hby at_13) rfl ((if0 _ _).trans (tlt (by decide : (0 : Int32) < (2 : Int32))).2.2.2) ?_
   refine XS.aload X1769.here hx rfl (hb hby at_16) rfl rfl ?_
   refine XS.iconst X1769.here hx rfl (hb hby at_18) ?_
   refine XS.iloadN X1769.here hx rfl (hb hby at_19) rfl ?_
   refine XS.i2b X1769.here hx rfl (hb hby at_20) rfl ?_
   exact k
  obtain ⟨cl1772, Ar1772, q1772, S1772, M1772, H1772, G1772⟩ := id V_b1769
  have hin1772 : ¬ ((0 : Int32) < 0 ∨ cl1772.slots.size ≤ ((0 : Int32)).toNatClampNeg) := inb_of S1772 ⟨by decide, by decide⟩
  obtain ⟨T1772, h1772, X1772, e1772, W1772, st1772⟩ := stB X1769 hx hZ e1769 Ar1772 (j := (0 : Int32)) hin1772 (g := (mkF m 21 #[vI p0, vI p1, vI p2, vI p3, vI p4, vI 2, vR b1769, .unset, .unset, .unset, .unset, .unset] [(.int (p2.toInt8.toInt32)), (.int 0), (.ref b1769)])) rfl rfl (hb hby at_21)
  have Z1772 : n0 ≤ h1772.size := Nat.le_trans Z1769 (Keep.of_wr W1772).1
  have K1772 : Keep h0 h1772 [] := K1769.wr W1772 (Or.inr sz_b1769)
  have N1772 := Fr.snoc X1772 N0 g_b1769
  have Ef1773 : Exa Z h1772 b1769 "[B" := (C1769).wr W1772
  have V1772 : Arv Z h1772 b1769 k1769 .byte (2 : Int32) [(.int (own_d p2)), (.int 0)] (.int 0) := Arv.set Ar1772 q1772 S1772 M1772 H1772 G1772 (fits_nar_byte _) W1772 0 rfl (Nat.le_of_ble_eq_true rfl)
  have pre1774 : own_P p e below T1772 (mkF m 22 #[vI p0, vI p1, vI p2, vI p3, vI p4, vI 2, vR b1769, .unset, .unset, .unset, .unset, .unset] []) s₁ (own_E m p0 p1 p2 p3 p4) := fun t k => pre1771 t (st1772 t k)
  have pre1775 : own_P p e below T1772 (mkF m 33 #[vI p0, vI p1, vI p2, vI p3, vI p4, vI 2, vR b1769, .unset, .unset, .unset, .unset, .unset] [(.int (p3.toInt8.toInt32)), (.int 1), (.ref b1769)]) s₁ (own_E m p0 p1 p2 p3 p4) := by
   intro t k
   refine pre1774 t ?_
   refine XS.iload X1772.here hx rfl (hb hby at_22) rfl ?_
   refine XS.iconst X1772.here hx rfl (hb hby at_24) ?_
   refine XS.icmpNo X1772.here hx rfl (hb hby at_25) rfl (tlt (by decide : (1 : Int32) < (2 : Int32))).2.2.2 ?_
   refine XS.aload X1772.here hx rfl (hb hby at_28) rfl rfl ?_
   refine XS.iconst X1772.here hx rfl (hb hby at_30) ?_
   refine XS.iloadN X1772.here hx rfl (hb hby at_31) rfl ?_
   refine XS.i2b X1772.here hx rfl (hb hby at_32) rfl ?_
   exact k
  obtain ⟨cl1776, Ar1776, q1776, S1776, M1776, H1776, G1776⟩ := id V1772
  have hin1776 : ¬ ((1 : Int32) < 0 ∨ cl1776.slots.size ≤ ((1 : Int32)).toNatClampNeg) := inb_of S1776 ⟨by decide, by decide⟩
  obtain ⟨T1776, h1776, X1776, e1776, W1776, st1776⟩ := stB X1772 hx hZ e1772 Ar1776 (j := (1 : Int32)) hin1776 (g := (mkF m 33 #[vI p0, vI p1, vI p2, vI p3, vI p4, vI 2, vR b1769, .unset, .unset, .unset, .unset, .unset] [(.int (p3.toInt8.toInt32)), (.int 1), (.ref b1769)])) rfl rfl (hb hby at_33)
  have Z1776 : n0 ≤ h1776.size := Nat.le_trans Z1772 (Keep.of_wr W1776).1
  have K1776 : Keep h0 h1776 [] := K1772.wr W1776 (Or.inr sz_b1769)
  have N1776 := Fr.snoc X1776 N1772 g_b1769
  have Ef1777 : Exa Z h1776 b1769 "[B" := (Ef1773).wr W1776
  have V1776 : Arv Z h1776 b1769 k1769 .byte (2 : Int32) [(.int (own_d p2)), (.int (own_d p3))] (.int 0) := Arv.set Ar1776 q1776 S1776 M1776 H1776 G1776 (fits_nar_byte _) W1776 1 rfl (Nat.le_of_ble_eq_true rfl)
  have pre1778 : own_P p e below T1776 (mkF m 34 #[vI p0, vI p1, vI p2, vI p3, vI p4, vI 2, vR b1769, .unset, .unset, .unset, .unset, .unset] []) s₁ (own_E m p0 p1 p2 p3 p4) := fun t k => pre1775 t (st1776 t k)
  have pre1779 : own_P p e below T1776 (mkF m 47 #[vI p0, vI p1, vI p2, vI p3, vI p4, vI 2, vR b1769, .unset, .unset, .unset, .unset, .unset] []) s₁ (own_E m p0 p1 p2 p3 p4) := by
   intro t k
   refine pre1778 t ?_
   refine XS.iload X1776.here hx rfl (hb hby at_34) rfl ?_
   refine XS.iconst X1776.here hx rfl (hb hby at_36) ?_
   refine XS.icmpYes X1776.here hx rfl (pc0 := 37) (pc' := 47) rfl (hb hby at_37) rfl (flt (by decide : ¬ (2 : Int32) < (2 : Int32))).2.2.2 (by decide) (by decide) ?_
   exact k
  obtain ⟨T1780, h1780, X1780, e1780, E1780, A1780, D1780, -, st1780⟩ := newO X1776 hx hZ hown (own_w hw 1 rfl) (own_w hw 2 rfl) (own_w hw 3 rfl) e1776 (g := (mkF m 47 #[vI p0, vI p1, vI p2, vI p3, vI p4, vI 2, vR b1769, .unset, .unset, .unset, .unset, .unset] [])) rfl (hb hby at_47) (by decide) (by decide)
  obtain ⟨b1780, g1780⟩ : ∃ z, z = h1776.size := ⟨_, rfl⟩
  rw [← g1780] at A1780 D1780 st1780
  have ne_b1769_b1780 : b1769 ≠ b1780 := Nat.ne_of_lt (Nat.lt_of_lt_of_le (Ef1777).lt (Nat.le_of_eq g1780.symm))
  have g_b1780 : n0 ≤ b1780 := Nat.le_trans Z1776 (Nat.le_of_eq g1780.symm)
  have sz_b1780 : h0.size ≤ b1780 := Nat.le_trans K1776.1 (Nat.le_of_eq g1780.symm)
  have Z1780 : n0 ≤ h1780.size := Nat.le_trans Z1776 E1780.1
  have K1780 : Keep h0 h1780 [] := K1776.ext E1780
  have Ef1781 : Exa Z h1780 b1769 "[B" := (Ef1777).ext E1780
  have Vf1782 : Arv Z h1780 b1769 k1769 .byte (2 : Int32) [(.int (own_d p2)), (.int (own_d p3))] (.int 0) := (V1776).ext E1780
  have Fcollection_b1780 : Fld Z h1780 b1780 own_CK "collection" "I" (.int 0) := D1780 (Or.inr (own_w hw 16 rfl)) (ty := .int) (by decide)
  have FdocumentKey_b1780 : Fld Z h1780 b1780 own_CK "documentKey" "[B" .null := D1780 (Or.inr (own_w hw 18 rfl)) (ty := (.array .byte)) (by decide)
  have pre1783 : own_P p e below T1780 (mkF m 50 #[vI p0, vI p1, vI p2, vI p3, vI p4, vI 2, vR b1769, .unset, .unset, .unset, .unset, .unset] [(.ref b1780)]) s₁ (own_E m p0 p1 p2 p3 p4) := fun t k => pre1779 t (st1780 t k)
  have pre1784 : own_P p e below T1780 (mkF m 54 #[vI p0, vI p1, vI p2, vI p3, vI p4, vI 2, vR b1769, .unset, .unset, .unset, .unset, .unset] [(.ref b1769), (.int p0), (.ref b1780), (.ref b1780)]) s₁ (own_E m p0 p1 p2 p3 p4) := by
   intro t k
   refine pre1783 t ?_
   refine XS.dup X1780.here hx rfl (hb hby at_50) rfl rfl ?_
   refine XS.iloadN X1780.here hx rfl (hb hby at_51) rfl ?_
   refine XS.aload X1780.here hx rfl (hb hby at_52) rfl rfl ?_
   exact k
  obtain ⟨_, _, ⟨T1785, L1785, k1785, n1785⟩, -, X1785, ⟨Lc1785, hQ1785, l1785, y1785, z1785⟩, st1785⟩ := X1780.specialBack hx (y := (⟨own_CK, "<init>", "(I[B)V"⟩ : MethodName)) rfl hown (mvT hZ (own_w hw 4 rfl)) (mvT hZ (own_w hw 5 rfl)) (mvT hZ (own_w hw 6 rfl)) (by decide) (backOf (W := 1) (rm1 l Z ar0 hw [] b1780 p0 b1769 .null (0 : Int32) h1780 n0 Z1780 FdocumentKey_b1780 A1780 Fcollection_b1780 g_b1780) hZ (own_w hw 6 rfl) (own_w hw 3 rfl) (by decide) (by decide)) (g := (mkF m 54 #[vI p0, vI p1, vI p2, vI p3, vI p4, vI 2, vR b1769, .unset, .unset, .unset, .unset, .unset] [(.ref b1769), (.int p0), (.ref b1780), (.ref b1780)])) rfl (by rw [hml]; rfl) (Steps.refl _) (a := b1780) (argsL := [(.int p0), (.ref b1769)]) (rest := [(.ref b1780)]) (lenOf pd_5 rfl) rfl (by show 2 * 0 + _ ≤ _; exact Nat.le_of_eq rfl) (hb hby at_54) (fun _ _ => ⟨rfl, e1780, (by decide : 2 + 0 ≤ _), (by decide : 4 + 0 ≤ _)⟩)
  dsimp only [Pt.U, Pt.locs, Pt.cells, Pt.slots] at X1785 l1785 y1785 z1785 st1785 hQ1785
  subst l1785 y1785 z1785
  obtain ⟨h1785, e1785⟩ : ∃ h, T1785.heap = h := ⟨_, rfl⟩
  rw [e1785] at hQ1785
  obtain ⟨rfl, N1785q, K1785q, Q1785_0, Q1785_1, Q1785_2⟩ := hQ1785
  have N1785 := Fr.app N1776 N1785q
  have Z1785 : n0 ≤ h1785.size := Nat.le_trans Z1780 K1785q.1
  have K1785 : Keep h0 h1785 [] := K1780.trans K1785q (fun x hx => by cases List.mem_singleton.mp hx; exact Or.inr sz_b1780)
  have Ef1786 : Exa Z h1785 b1769 "[B" := (Ef1781).keep K1785q
  have Vf1787 : Arv Z h1785 b1769 k1769 .byte (2 : Int32) [(.int (own_d p2)), (.int (own_d p3))] (.int 0) := (Vf1782).keep K1785q (fun q => absurd (List.mem_singleton.mp q) ne_b1769_b1780)
  have Ef1788 : Exa Z h1785 b1780 own_CK := (A1780).keep K1785q
  have pre1789 : own_P p e below T1785 (mkF m 57 #[vI p0, vI p1, vI p2, vI p3, vI p4, vI 2, vR b1769, .unset, .unset, .unset, .unset, .unset] [(.ref b1780)]) s₁ (own_E m p0 p1 p2 p3 p4) := fun t k => pre1784 t (st1785.trans k)
  by_cases hu0 : (own_u0 p0) < (128 : Int64)
  ·
   obtain ⟨cq1790, kq1790, q1790a, q1790b, q1790c⟩ := isOf hZ e1785 Q1785_0
   obtain ⟨_, _, ⟨T1790, L1790, k1790, n1790⟩, -, X1790, ⟨Lc1790, hQ1790, l1790, y1790, z1790⟩, st1790⟩ := X1785.virtualBack hx (y := (⟨own_CK, "write", "()[B"⟩ : MethodName)) (z := (⟨own_CK, "write", "()[B"⟩ : MethodName)) hown (mvT hZ (own_w hw 19 rfl)) (mvT hZ (own_w hw 20 rfl)) (notFace_of_selects (args := #[]) (mvT hZ (own_w hw 22 rfl))) (mvT hZ (own_w hw 22 rfl)) (mvT hZ (own_w hw 21 rfl)) (by decide) (backOf (W := 0) (rm4_1_2 l Z ar0 hw [] b1780 p0 b1769 k1769 (own_d p2) (own_d p3) h1785 n0 Z1785 Q1785_1 Q1785_2 Vf1787 ((own_z1 p0).2 hu0)) hZ (own_w hw 23 rfl) (own_w hw 3 rfl) (by decide) (by decide)) q1790a q1790c (g := (mkF m 57 #[vI p0, vI p1, vI p2, vI p3, vI p4, vI 2, vR b1769, .unset, .unset, .unset, .unset, .unset] [(.ref b1780)])) rfl (by rw [hml]; rfl) (Steps.refl _) (argsL := []) (rest := []) (lenOf pd_6 rfl) rfl (by show 2 * 0 + _ ≤ _; exact Nat.le_of_eq rfl) (hb hby at_57) (fun _ _ => ⟨rfl, e1785, (by decide : 2 + 2 ≤ _), (by decide : 4 + 8 ≤ _)⟩)
   dsimp only [Pt.U, Pt.locs, Pt.cells, Pt.slots] at X1790 l1790 y1790 z1790 st1790 hQ1790
   subst l1790 y1790 z1790
   obtain ⟨h1790, e1790⟩ : ∃ h, T1790.heap = h := ⟨_, rfl⟩
   rw [e1790] at hQ1790
   obtain ⟨b1790, kb1790, rfl, N1790q, K1790q, y_b1790, Ob1790_0, Ob1790_1⟩ := hQ1790
   have N1790 := Fr.app N1785 N1790q
   have ne_b1769_b1790 : b1769 ≠ b1790 := Nat.ne_of_lt (Nat.lt_of_lt_of_le (Ef1786).lt y_b1790)
   have ne_b1780_b1790 : b1780 ≠ b1790 := Nat.ne_of_lt (Nat.lt_of_lt_of_le (Q1785_0).lt y_b1790)
   have g_b1790 : n0 ≤ b1790 := Nat.le_trans Z1785 y_b1790
   have sz_b1790 : h0.size ≤ b1790 := Nat.le_trans K1785.1 y_b1790
   have Z1790 : n0 ≤ h1790.size := Nat.le_trans Z1785 K1790q.1
   have K1790 : Keep h0 h1790 [] := K1785.trans K1790q (fun x hx => absurd hx List.not_mem_nil)
   have Ef1791 : Exa Z h1790 b1769 "[B" := (Ef1786).keep K1790q
   have Vf1792 : Arv Z h1790 b1769 k1769 .byte (2 : Int32) [(.int (own_d p2)), (.int (own_d p3))] (.int 0) := (Vf1787).keep K1790q List.not_mem_nil
   have Ef1793 : Exa Z h1790 b1780 own_CK := (Q1785_0).keep K1790q
   have Ff1794 : Fld Z h1790 b1780 own_CK "collection" "I" (.int p0) := (Q1785_1).keep K1790q List.not_mem_nil
   have Ff1795 : Fld Z h1790 b1780 own_CK "documentKey" "[B" (.ref b1769) := (Q1785_2).keep K1790q List.not_mem_nil
   have pre1796 : own_P p e below T1790 (mkF m 60 #[vI p0, vI p1, vI p2, vI p3, vI p4, vI 2, vR b1769, .unset, .unset, .unset, .unset, .unset] [(.ref b1790)]) s₁ (own_E m p0 p1 p2 p3 p4) := fun t k => pre1789 t (st1790.trans k)
   have pre1797 : own_P p e below T1790 (mkF m 140 #[vI p0, vI p1, vI p2, vI p3, vI p4, vI 2, vR b1769, vR b1790, vJ (own_u0 p0), .second, vI 1, .unset] [(.ref b1790)]) s₁ (own_E m p0 p1 p2 p3 p4) := by
    intro t k
    refine pre1796 t ?_
    refine XS.astore X1790.here hx rfl (hb hby at_60) rfl rfl (l' := #[vI p0, vI p1, vI p2, vI p3, vI p4, vI 2, vR b1769, vR b1790, .unset, .unset, .unset, .unset]) rfl ?_
    refine XS.iloadN X1790.here hx rfl (hb hby at_62) rfl ?_
    refine XS.i2l X1790.here hx rfl (hb hby at_63) rfl ?_
    refine X1790.ldc2Long hx hown (mvT hZ (own_w hw 43 rfl)) (g := (mkF m 64 #[vI p0, vI p1, vI p2, vI p3, vI p4, vI 2, vR b1769, vR b1790, .unset, .unset, .unset, .unset] [(.long (p0.toInt64))])) rfl (hb hby at_64) _ ?_
    refine XS.land X1790.here hx rfl (hb hby at_67) rfl ?_
    refine XS.lstore X1790.here hx rfl (hb hby at_68) rfl (l' := #[vI p0, vI p1, vI p2, vI p3, vI p4, vI 2, vR b1769, vR b1790, vJ (own_u0 p0), .second, .unset, .unset]) rfl ?_
    refine XS.lload X1790.here hx rfl (hb hby at_70) rfl ?_
    refine X1790.ldc2Long hx hown (mvT hZ (own_w hw 44 rfl)) (g := (mkF m 72 #[vI p0, vI p1, vI p2, vI p3, vI p4, vI 2, vR b1769, vR b1790, vJ (own_u0 p0), .second, .unset, .unset] [(.long (own_u0 p0))])) rfl (hb hby at_72) _ ?_
    refine XS.lcmp X1790.here hx rfl (hb hby at_75) rfl ?_
    refine XS.ifNo X1790.here hx rfl (hb hby at_76) rfl ((if0 _ _).trans (tlt (own_ltL hu0)).2.1) ?_
    refine XS.iconst X1790.here hx rfl (hb hby at_79) ?_
    refine XS.istore X1790.here hx rfl (hb hby at_80) rfl (l' := #[vI p0, vI p1, vI p2, vI p3, vI p4, vI 2, vR b1769, vR b1790, vJ (own_u0 p0), .second, vI 1, .unset]) rfl ?_
    refine XS.goto X1790.here hx rfl (pc0 := 82) (pc' := 133) rfl (hb hby at_82) (by decide) (by decide) ?_
    refine XS.aload X1790.here hx rfl (hb hby at_133) rfl rfl ?_
    refine XS.ifnullNo X1790.here hx rfl (hb hby at_135) rfl ?_
    refine XS.aload X1790.here hx rfl (hb hby at_138) rfl rfl ?_
    exact k
   obtain ⟨cl1798, Ar1798, q1798, S1798, M1798, H1798, G1798⟩ := id Ob1790_1
   have pre1799 : own_P p e below T1790 (mkF m 151 #[vI p0, vI p1, vI p2, vI p3, vI p4, vI 2, vR b1769, vR b1790, vJ (own_u0 p0), .second, vI 1, .unset] []) s₁ (own_E m p0 p1 p2 p3 p4) := by
    intro t k
    refine pre1797 t ?_
    refine X1790.arraylength hx (by rw [e1790]; exact Ar1798.1) (State.isArrayOf_alike hZ.alike Ar1798.2.1) (g := (mkF m 140 #[vI p0, vI p1, vI p2, vI p3, vI p4, vI 2, vR b1769, vR b1790, vJ (own_u0 p0), .second, vI 1, .unset] [(.ref b1790)])) rfl rfl (hb hby at_140) _ ?_
    rw [len_of S1798 M1798]
    refine XS.iload X1790.here hx rfl (hb hby at_141) rfl ?_
    refine XS.iload X1790.here hx rfl (hb hby at_143) rfl ?_
    refine XS.iadd X1790.here hx rfl (hb hby at_145) rfl ?_
    refine XS.icmpYes X1790.here hx rfl (pc0 := 146) (pc' := 151) rfl (hb hby at_146) rfl (teq (by decide : (3 : Int32) = (3 : Int32))).1 (by decide) (by decide) ?_
    exact k
   obtain ⟨T1800, L1800, X1800, N1800, e1800, st1800⟩ := own_id1 X1790 hx hZ hw hby hml hown e1790 N1790 Z1790 (by decide) (by decide) Ob1790_1 (by decide) rfl
   have pre1801 : own_P p e below T1800 (mkF m 305 #[vI p0, vI p1, vI p2, vI p3, vI p4, vI 2, vR b1769, vR b1790, vJ (own_u0 p0), .second, vI 1, vI 1] []) s₁ (own_E m p0 p1 p2 p3 p4) := fun t k => pre1799 t (st1800 t k)
   obtain ⟨T1802, L1802, X1802, N1802, e1802, st1802⟩ := own_doc2 (nv := 1) X1800 hx hZ hw hby hml hown e1800 N1800 Z1790 (by decide) (by decide) Ob1790_1 (by decide) (by decide) rfl rfl
   have pre1803 : own_P p e below T1802 (mkF m 395 #[vI p0, vI p1, vI p2, vI p3, vI p4, vI 2, vR b1769, vR b1790, vJ (own_u0 p0), .second, vI 1, vI 1] [(.int 1)]) s₁ (own_E m p0 p1 p2 p3 p4) := fun t k => pre1801 t (st1802 t k)
   obtain ⟨fs, hr, hrun, hended, hW, hsame⟩ := X1802.leave (v := some (.int 1)) (fun h => by rw [Bd.returns] at h; cases h)
   refine ⟨_, _, pre1803 _ ?_, hrun, hended, _, _, rfl, ?_, ⟨_, rfl⟩, hW, hsame.mono (by decide) (by decide)⟩
   ·
    exact retN X1802 hx (t := .boolean) Bd.returns (by simp) (hb hby at_395) hr
   ·
    show Q0 Z p0 p1 p2 p3 p4 h0 n0 _ T1802.heap _
    rw [e1802]
    exact ⟨rfl, N1802⟩
  ·
   by_cases hu1 : (own_u0 p0) < (16384 : Int64)
   ·
    obtain ⟨cq1804, kq1804, q1804a, q1804b, q1804c⟩ := isOf hZ e1785 Q1785_0
    obtain ⟨_, _, ⟨T1804, L1804, k1804, n1804⟩, -, X1804, ⟨Lc1804, hQ1804, l1804, y1804, z1804⟩, st1804⟩ := X1785.virtualBack hx (y := (⟨own_CK, "write", "()[B"⟩ : MethodName)) (z := (⟨own_CK, "write", "()[B"⟩ : MethodName)) hown (mvT hZ (own_w hw 19 rfl)) (mvT hZ (own_w hw 20 rfl)) (notFace_of_selects (args := #[]) (mvT hZ (own_w hw 22 rfl))) (mvT hZ (own_w hw 22 rfl)) (mvT hZ (own_w hw 21 rfl)) (by decide) (backOf (W := 0) (rm4_2_2 l Z ar0 hw [] b1780 p0 b1769 k1769 (own_d p2) (own_d p3) h1785 n0 Z1785 Q1785_1 Q1785_2 Vf1787 (fun q => hu0 ((own_z1 p0).1 q)) ((own_z2 p0).2 hu1)) hZ (own_w hw 23 rfl) (own_w hw 3 rfl) (by decide) (by decide)) q1804a q1804c (g := (mkF m 57 #[vI p0, vI p1, vI p2, vI p3, vI p4, vI 2, vR b1769, .unset, .unset, .unset, .unset, .unset] [(.ref b1780)])) rfl (by rw [hml]; rfl) (Steps.refl _) (argsL := []) (rest := []) (lenOf pd_6 rfl) rfl (by show 2 * 0 + _ ≤ _; exact Nat.le_of_eq rfl) (hb hby at_57) (fun _ _ => ⟨rfl, e1785, (by decide : 2 + 2 ≤ _), (by decide : 4 + 9 ≤ _)⟩)
    dsimp only [Pt.U, Pt.locs, Pt.cells, Pt.slots] at X1804 l1804 y1804 z1804 st1804 hQ1804
    subst l1804 y1804 z1804
    obtain ⟨h1804, e1804⟩ : ∃ h, T1804.heap = h := ⟨_, rfl⟩
    rw [e1804] at hQ1804
    obtain ⟨b1804, kb1804, rfl, N1804q, K1804q, y_b1804, Ob1804_0, Ob1804_1⟩ := hQ1804
    have N1804 := Fr.app N1785 N1804q
    have ne_b1769_b1804 : b1769 ≠ b1804 := Nat.ne_of_lt (Nat.lt_of_lt_of_le (Ef1786).lt y_b1804)
    have ne_b1780_b1804 : b1780 ≠ b1804 := Nat.ne_of_lt (Nat.lt_of_lt_of_le (Q1785_0).lt y_b1804)
    have g_b1804 : n0 ≤ b1804 := Nat.le_trans Z1785 y_b1804
    have sz_b1804 : h0.size ≤ b1804 := Nat.le_trans K1785.1 y_b1804
    have Z1804 : n0 ≤ h1804.size := Nat.le_trans Z1785 K1804q.1
    have K1804 : Keep h0 h1804 [] := K1785.trans K1804q (fun x hx => absurd hx List.not_mem_nil)
    have Ef1805 : Exa Z h1804 b1769 "[B" := (Ef1786).keep K1804q
    have Vf1806 : Arv Z h1804 b1769 k1769 .byte (2 : Int32) [(.int (own_d p2)), (.int (own_d p3))] (.int 0) := (Vf1787).keep K1804q List.not_mem_nil
    have Ef1807 : Exa Z h1804 b1780 own_CK := (Q1785_0).keep K1804q
    have Ff1808 : Fld Z h1804 b1780 own_CK "collection" "I" (.int p0) := (Q1785_1).keep K1804q List.not_mem_nil
    have Ff1809 : Fld Z h1804 b1780 own_CK "documentKey" "[B" (.ref b1769) := (Q1785_2).keep K1804q List.not_mem_nil
    have pre1810 : own_P p e below T1804 (mkF m 60 #[vI p0, vI p1, vI p2, vI p3, vI p4, vI 2, vR b1769, .unset, .unset, .unset, .unset, .unset] [(.ref b1804)]) s₁ (own_E m p0 p1 p2 p3 p4) := fun t k => pre1789 t (st1804.trans k)
    have pre1811 : own_P p e below T1804 (mkF m 140 #[vI p0, vI p1, vI p2, vI p3, vI p4, vI 2, vR b1769, vR b1804, vJ (own_u0 p0), .second, vI 2, .unset] [(.ref b1804)]) s₁ (own_E m p0 p1 p2 p3 p4) := by
     intro t k
     refine pre1810 t ?_
     refine XS.astore X1804.here hx rfl (hb hby at_60) rfl rfl (l' := #[vI p0, vI p1, vI p2, vI p3, vI p4, vI 2, vR b1769, vR b1804, .unset, .unset, .unset, .unset]) rfl ?_
     refine XS.iloadN X1804.here hx rfl (hb hby at_62) rfl ?_
     refine XS.i2l X1804.here hx rfl (hb hby at_63) rfl ?_
     refine X1804.ldc2Long hx hown (mvT hZ (own_w hw 43 rfl)) (g := (mkF m 64 #[vI p0, vI p1, vI p2, vI p3, vI p4, vI 2, vR b1769, vR b1804, .unset, .unset, .unset, .unset] [(.long (p0.toInt64))])) rfl (hb hby at_64) _ ?_
     refine XS.land X1804.here hx rfl (hb hby at_67) rfl ?_
     refine XS.lstore X1804.here hx rfl (hb hby at_68) rfl (l' := #[vI p0, vI p1, vI p2, vI p3, vI p4, vI 2, vR b1769, vR b1804, vJ (own_u0 p0), .second, .unset, .unset]) rfl ?_
     refine XS.lload X1804.here hx rfl (hb hby at_70) rfl ?_
     refine X1804.ldc2Long hx hown (mvT hZ (own_w hw 44 rfl)) (g := (mkF m 72 #[vI p0, vI p1, vI p2, vI p3, vI p4, vI 2, vR b1769, vR b1804, vJ (own_u0 p0), .second, .unset, .unset] [(.long (own_u0 p0))])) rfl (hb hby at_72) _ ?_
     refine XS.lcmp X1804.here hx rfl (hb hby at_75) rfl ?_
     refine XS.ifYes X1804.here hx rfl (pc0 := 76) (pc' := 85) rfl (hb hby at_76) rfl ((if0 _ _).trans (flt (own_nltL hu0)).2.1) (by decide) (by decide) ?_
     refine XS.lload X1804.here hx rfl (hb hby at_85) rfl ?_
     refine X1804.ldc2Long hx hown (mvT hZ (own_w hw 50 rfl)) (g := (mkF m 87 #[vI p0, vI p1, vI p2, vI p3, vI p4, vI 2, vR b1769, vR b1804, vJ (own_u0 p0), .second, .unset, .unset] [(.long (own_u0 p0))])) rfl (hb hby at_87) _ ?_
     refine XS.lcmp X1804.here hx rfl (hb hby at_90) rfl ?_
     refine XS.ifNo X1804.here hx rfl (hb hby at_91) rfl ((if0 _ _).trans (tlt (own_ltL hu1)).2.1) ?_
     refine XS.iconst X1804.here hx rfl (hb hby at_94) ?_
     refine XS.istore X1804.here hx rfl (hb hby at_95) rfl (l' := #[vI p0, vI p1, vI p2, vI p3, vI p4, vI 2, vR b1769, vR b1804, vJ (own_u0 p0), .second, vI 2, .unset]) rfl ?_
     refine XS.goto X1804.here hx rfl (pc0 := 97) (pc' := 133) rfl (hb hby at_97) (by decide) (by decide) ?_
     refine XS.aload X1804.here hx rfl (hb hby at_133) rfl rfl ?_
     refine XS.ifnullNo X1804.here hx rfl (hb hby at_135) rfl ?_
     refine XS.aload X1804.here hx rfl (hb hby at_138) rfl rfl ?_
     exact k
    obtain ⟨cl1812, Ar1812, q1812, S1812, M1812, H1812, G1812⟩ := id Ob1804_1
    have pre1813 : own_P p e below T1804 (mkF m 151 #[vI p0, vI p1, vI p2, vI p3, vI p4, vI 2, vR b1769, vR b1804, vJ (own_u0 p0), .second, vI 2, .unset] []) s₁ (own_E m p0 p1 p2 p3 p4) := by
     intro t k
     refine pre1811 t ?_
     refine X1804.arraylength hx (by rw [e1804]; exact Ar1812.1) (State.isArrayOf_alike hZ.alike Ar1812.2.1) (g := (mkF m 140 #[vI p0, vI p1, vI p2, vI p3, vI p4, vI 2, vR b1769, vR b1804, vJ (own_u0 p0), .second, vI 2, .unset] [(.ref b1804)])) rfl rfl (hb hby at_140) _ ?_
     rw [len_of S1812 M1812]
     refine XS.iload X1804.here hx rfl (hb hby at_141) rfl ?_
     refine XS.iload X1804.here hx rfl (hb hby at_143) rfl ?_
     refine XS.iadd X1804.here hx rfl (hb hby at_145) rfl ?_
     refine XS.icmpYes X1804.here hx rfl (pc0 := 146) (pc' := 151) rfl (hb hby at_146) rfl (teq (by decide : (4 : Int32) = (4 : Int32))).1 (by decide) (by decide) ?_
     exact k
    obtain ⟨T1814, L1814, X1814, N1814, e1814, st1814⟩ := own_id2 X1804 hx hZ hw hby hml hown e1804 N1804 Z1804 (by decide) (by decide) Ob1804_1 (by decide) (by decide) rfl rfl
    have pre1815 : own_P p e below T1814 (mkF m 305 #[vI p0, vI p1, vI p2, vI p3, vI p4, vI 2, vR b1769, vR b1804, vJ (own_u0 p0), .second, vI 2, vI 1] []) s₁ (own_E m p0 p1 p2 p3 p4) := fun t k => pre1813 t (st1814 t k)
    obtain ⟨T1816, L1816, X1816, N1816, e1816, st1816⟩ := own_doc2 (nv := 2) X1814 hx hZ hw hby hml hown e1814 N1814 Z1804 (by decide) (by decide) Ob1804_1 (by decide) (by decide) rfl rfl
    have pre1817 : own_P p e below T1816 (mkF m 395 #[vI p0, vI p1, vI p2, vI p3, vI p4, vI 2, vR b1769, vR b1804, vJ (own_u0 p0), .second, vI 2, vI 1] [(.int 1)]) s₁ (own_E m p0 p1 p2 p3 p4) := fun t k => pre1815 t (st1816 t k)
    obtain ⟨fs, hr, hrun, hended, hW, hsame⟩ := X1816.leave (v := some (.int 1)) (fun h => by rw [Bd.returns] at h; cases h)
    refine ⟨_, _, pre1817 _ ?_, hrun, hended, _, _, rfl, ?_, ⟨_, rfl⟩, hW, hsame.mono (by decide) (by decide)⟩
    ·
     exact retN X1816 hx (t := .boolean) Bd.returns (by simp) (hb hby at_395) hr
    ·
     show Q0 Z p0 p1 p2 p3 p4 h0 n0 _ T1816.heap _
     rw [e1816]
     exact ⟨rfl, N1816⟩
   ·
    by_cases hu2 : (own_u0 p0) < (2097152 : Int64)
    ·
     obtain ⟨cq1818, kq1818, q1818a, q1818b, q1818c⟩ := isOf hZ e1785 Q1785_0
     obtain ⟨_, _, ⟨T1818, L1818, k1818, n1818⟩, -, X1818, ⟨Lc1818, hQ1818, l1818, y1818, z1818⟩, st1818⟩ := X1785.virtualBack hx (y := (⟨own_CK, "write", "()[B"⟩ : MethodName)) (z := (⟨own_CK, "write", "()[B"⟩ : MethodName)) hown (mvT hZ (own_w hw 19 rfl)) (mvT hZ (own_w hw 20 rfl)) (notFace_of_selects (args := #[]) (mvT hZ (own_w hw 22 rfl))) (mvT hZ (own_w hw 22 rfl)) (mvT hZ (own_w hw 21 rfl)) (by decide) (backOf (W := 0) (rm4_3_2 l Z ar0 hw [] b1780 p0 b1769 k1769 (own_d p2) (own_d p3) h1785 n0 Z1785 Q1785_1 Q1785_2 Vf1787 (fun q => hu0 ((own_z1 p0).1 q)) (fun q => hu1 ((own_z2 p0).1 q)) ((own_z3 p0).2 hu2)) hZ (own_w hw 23 rfl) (own_w hw 3 rfl) (by decide) (by decide)) q1818a q1818c (g := (mkF m 57 #[vI p0, vI p1, vI p2, vI p3, vI p4, vI 2, vR b1769, .unset, .unset, .unset, .unset, .unset] [(.ref b1780)])) rfl (by rw [hml]; rfl) (Steps.refl _) (argsL := []) (rest := []) (lenOf pd_6 rfl) rfl (by show 2 * 0 + _ ≤ _; exact Nat.le_of_eq rfl) (hb hby at_57) (fun _ _ => ⟨rfl, e1785, (by decide : 2 + 2 ≤ _), (by decide : 4 + 10 ≤ _)⟩)
     dsimp only [Pt.U, Pt.locs, Pt.cells, Pt.slots] at X1818 l1818 y1818 z1818 st1818 hQ1818
     subst l1818 y1818 z1818
     obtain ⟨h1818, e1818⟩ : ∃ h, T1818.heap = h := ⟨_, rfl⟩
     rw [e1818] at hQ1818
     obtain ⟨b1818, kb1818, rfl, N1818q, K1818q, y_b1818, Ob1818_0, Ob1818_1⟩ := hQ1818
     have N1818 := Fr.app N1785 N1818q
     have ne_b1769_b1818 : b1769 ≠ b1818 := Nat.ne_of_lt (Nat.lt_of_lt_of_le (Ef1786).lt y_b1818)
     have ne_b1780_b1818 : b1780 ≠ b1818 := Nat.ne_of_lt (Nat.lt_of_lt_of_le (Q1785_0).lt y_b1818)
     have g_b1818 : n0 ≤ b1818 := Nat.le_trans Z1785 y_b1818
     have sz_b1818 : h0.size ≤ b1818 := Nat.le_trans K1785.1 y_b1818
     have Z1818 : n0 ≤ h1818.size := Nat.le_trans Z1785 K1818q.1
     have K1818 : Keep h0 h1818 [] := K1785.trans K1818q (fun x hx => absurd hx List.not_mem_nil)
     have Ef1819 : Exa Z h1818 b1769 "[B" := (Ef1786).keep K1818q
     have Vf1820 : Arv Z h1818 b1769 k1769 .byte (2 : Int32) [(.int (own_d p2)), (.int (own_d p3))] (.int 0) := (Vf1787).keep K1818q List.not_mem_nil
     have Ef1821 : Exa Z h1818 b1780 own_CK := (Q1785_0).keep K1818q
     have Ff1822 : Fld Z h1818 b1780 own_CK "collection" "I" (.int p0) := (Q1785_1).keep K1818q List.not_mem_nil
     have Ff1823 : Fld Z h1818 b1780 own_CK "documentKey" "[B" (.ref b1769) := (Q1785_2).keep K1818q List.not_mem_nil
     have pre1824 : own_P p e below T1818 (mkF m 60 #[vI p0, vI p1, vI p2, vI p3, vI p4, vI 2, vR b1769, .unset, .unset, .unset, .unset, .unset] [(.ref b1818)]) s₁ (own_E m p0 p1 p2 p3 p4) := fun t k => pre1789 t (st1818.trans k)
     have pre1825 : own_P p e below T1818 (mkF m 140 #[vI p0, vI p1, vI p2, vI p3, vI p4, vI 2, vR b1769, vR b1818, vJ (own_u0 p0), .second, vI 3, .unset] [(.ref b1818)]) s₁ (own_E m p0 p1 p2 p3 p4) := by
      intro t k
      refine pre1824 t ?_
      refine XS.astore X1818.here hx rfl (hb hby at_60) rfl rfl (l' := #[vI p0, vI p1, vI p2, vI p3, vI p4, vI 2, vR b1769, vR b1818, .unset, .unset, .unset, .unset]) rfl ?_
      refine XS.iloadN X1818.here hx rfl (hb hby at_62) rfl ?_
      refine XS.i2l X1818.here hx rfl (hb hby at_63) rfl ?_
      refine X1818.ldc2Long hx hown (mvT hZ (own_w hw 43 rfl)) (g := (mkF m 64 #[vI p0, vI p1, vI p2, vI p3, vI p4, vI 2, vR b1769, vR b1818, .unset, .unset, .unset, .unset] [(.long (p0.toInt64))])) rfl (hb hby at_64) _ ?_
      refine XS.land X1818.here hx rfl (hb hby at_67) rfl ?_
      refine XS.lstore X1818.here hx rfl (hb hby at_68) rfl (l' := #[vI p0, vI p1, vI p2, vI p3, vI p4, vI 2, vR b1769, vR b1818, vJ (own_u0 p0), .second, .unset, .unset]) rfl ?_
      refine XS.lload X1818.here hx rfl (hb hby at_70) rfl ?_
      refine X1818.ldc2Long hx hown (mvT hZ (own_w hw 44 rfl)) (g := (mkF m 72 #[vI p0, vI p1, vI p2, vI p3, vI p4, vI 2, vR b1769, vR b1818, vJ (own_u0 p0), .second, .unset, .unset] [(.long (own_u0 p0))])) rfl (hb hby at_72) _ ?_
      refine XS.lcmp X1818.here hx rfl (hb hby at_75) rfl ?_
      refine XS.ifYes X1818.here hx rfl (pc0 := 76) (pc' := 85) rfl (hb hby at_76) rfl ((if0 _ _).trans (flt (own_nltL hu0)).2.1) (by decide) (by decide) ?_
      refine XS.lload X1818.here hx rfl (hb hby at_85) rfl ?_
      refine X1818.ldc2Long hx hown (mvT hZ (own_w hw 50 rfl)) (g := (mkF m 87 #[vI p0, vI p1, vI p2, vI p3, vI p4, vI 2, vR b1769, vR b1818, vJ (own_u0 p0), .second, .unset, .unset] [(.long (own_u0 p0))])) rfl (hb hby at_87) _ ?_
      refine XS.lcmp X1818.here hx rfl (hb hby at_90) rfl ?_
      refine XS.ifYes X1818.here hx rfl (pc0 := 91) (pc' := 100) rfl (hb hby at_91) rfl ((if0 _ _).trans (flt (own_nltL hu1)).2.1) (by decide) (by decide) ?_
      refine XS.lload X1818.here hx rfl (hb hby at_100) rfl ?_
      refine X1818.ldc2Long hx hown (mvT hZ (own_w hw 51 rfl)) (g := (mkF m 102 #[vI p0, vI p1, vI p2, vI p3, vI p4, vI 2, vR b1769, vR b1818, vJ (own_u0 p0), .second, .unset, .unset] [(.long (own_u0 p0))])) rfl (hb hby at_102) _ ?_
      refine XS.lcmp X1818.here hx rfl (hb hby at_105) rfl ?_
      refine XS.ifNo X1818.here hx rfl (hb hby at_106) rfl ((if0 _ _).trans (tlt (own_ltL hu2)).2.1) ?_
      refine XS.iconst X1818.here hx rfl (hb hby at_109) ?_
      refine XS.istore X1818.here hx rfl (hb hby at_110) rfl (l' := #[vI p0, vI p1, vI p2, vI p3, vI p4, vI 2, vR b1769, vR b1818, vJ (own_u0 p0), .second, vI 3, .unset]) rfl ?_
      refine XS.goto X1818.here hx rfl (pc0 := 112) (pc' := 133) rfl (hb hby at_112) (by decide) (by decide) ?_
      refine XS.aload X1818.here hx rfl (hb hby at_133) rfl rfl ?_
      refine XS.ifnullNo X1818.here hx rfl (hb hby at_135) rfl ?_
      refine XS.aload X1818.here hx rfl (hb hby at_138) rfl rfl ?_
      exact k
     obtain ⟨cl1826, Ar1826, q1826, S1826, M1826, H1826, G1826⟩ := id Ob1818_1
     have pre1827 : own_P p e below T1818 (mkF m 151 #[vI p0, vI p1, vI p2, vI p3, vI p4, vI 2, vR b1769, vR b1818, vJ (own_u0 p0), .second, vI 3, .unset] []) s₁ (own_E m p0 p1 p2 p3 p4) := by
      intro t k
      refine pre1825 t ?_
      refine X1818.arraylength hx (by rw [e1818]; exact Ar1826.1) (State.isArrayOf_alike hZ.alike Ar1826.2.1) (g := (mkF m 140 #[vI p0, vI p1, vI p2, vI p3, vI p4, vI 2, vR b1769, vR b1818, vJ (own_u0 p0), .second, vI 3, .unset] [(.ref b1818)])) rfl rfl (hb hby at_140) _ ?_
      rw [len_of S1826 M1826]
      refine XS.iload X1818.here hx rfl (hb hby at_141) rfl ?_
      refine XS.iload X1818.here hx rfl (hb hby at_143) rfl ?_
      refine XS.iadd X1818.here hx rfl (hb hby at_145) rfl ?_
      refine XS.icmpYes X1818.here hx rfl (pc0 := 146) (pc' := 151) rfl (hb hby at_146) rfl (teq (by decide : (5 : Int32) = (5 : Int32))).1 (by decide) (by decide) ?_
      exact k
     obtain ⟨T1828, L1828, X1828, N1828, e1828, st1828⟩ := own_id3 X1818 hx hZ hw hby hml hown e1818 N1818 Z1818 (by decide) (by decide) Ob1818_1 (by decide) (by decide) (by decide) rfl rfl rfl
     have pre1829 : own_P p e below T1828 (mkF m 305 #[vI p0, vI p1, vI p2, vI p3, vI p4, vI 2, vR b1769, vR b1818, vJ (own_u0 p0), .second, vI 3, vI 1] []) s₁ (own_E m p0 p1 p2 p3 p4) := fun t k => pre1827 t (st1828 t k)
     obtain ⟨T1830, L1830, X1830, N1830, e1830, st1830⟩ := own_doc2 (nv := 3) X1828 hx hZ hw hby hml hown e1828 N1828 Z1818 (by decide) (by decide) Ob1818_1 (by decide) (by decide) rfl rfl
     have pre1831 : own_P p e below T1830 (mkF m 395 #[vI p0, vI p1, vI p2, vI p3, vI p4, vI 2, vR b1769, vR b1818, vJ (own_u0 p0), .second, vI 3, vI 1] [(.int 1)]) s₁ (own_E m p0 p1 p2 p3 p4) := fun t k => pre1829 t (st1830 t k)
     obtain ⟨fs, hr, hrun, hended, hW, hsame⟩ := X1830.leave (v := some (.int 1)) (fun h => by rw [Bd.returns] at h; cases h)
     refine ⟨_, _, pre1831 _ ?_, hrun, hended, _, _, rfl, ?_, ⟨_, rfl⟩, hW, hsame.mono (by decide) (by decide)⟩
     ·
      exact retN X1830 hx (t := .boolean) Bd.returns (by simp) (hb hby at_395) hr
     ·
      show Q0 Z p0 p1 p2 p3 p4 h0 n0 _ T1830.heap _
      rw [e1830]
      exact ⟨rfl, N1830⟩
    ·
     by_cases hu3 : (own_u0 p0) < (268435456 : Int64)
     ·
      obtain ⟨cq1832, kq1832, q1832a, q1832b, q1832c⟩ := isOf hZ e1785 Q1785_0
      obtain ⟨_, _, ⟨T1832, L1832, k1832, n1832⟩, -, X1832, ⟨Lc1832, hQ1832, l1832, y1832, z1832⟩, st1832⟩ := X1785.virtualBack hx (y := (⟨own_CK, "write", "()[B"⟩ : MethodName)) (z := (⟨own_CK, "write", "()[B"⟩ : MethodName)) hown (mvT hZ (own_w hw 19 rfl)) (mvT hZ (own_w hw 20 rfl)) (notFace_of_selects (args := #[]) (mvT hZ (own_w hw 22 rfl))) (mvT hZ (own_w hw 22 rfl)) (mvT hZ (own_w hw 21 rfl)) (by decide) (backOf (W := 0) (rm4_4_2 l Z ar0 hw [] b1780 p0 b1769 k1769 (own_d p2) (own_d p3) h1785 n0 Z1785 Q1785_1 Q1785_2 Vf1787 (fun q => hu0 ((own_z1 p0).1 q)) (fun q => hu1 ((own_z2 p0).1 q)) (fun q => hu2 ((own_z3 p0).1 q)) ((own_z4 p0).2 hu3)) hZ (own_w hw 23 rfl) (own_w hw 3 rfl) (by decide) (by decide)) q1832a q1832c (g := (mkF m 57 #[vI p0, vI p1, vI p2, vI p3, vI p4, vI 2, vR b1769, .unset, .unset, .unset, .unset, .unset] [(.ref b1780)])) rfl (by rw [hml]; rfl) (Steps.refl _) (argsL := []) (rest := []) (lenOf pd_6 rfl) rfl (by show 2 * 0 + _ ≤ _; exact Nat.le_of_eq rfl) (hb hby at_57) (fun _ _ => ⟨rfl, e1785, (by decide : 2 + 2 ≤ _), (by decide : 4 + 11 ≤ _)⟩)
      dsimp only [Pt.U, Pt.locs, Pt.cells, Pt.slots] at X1832 l1832 y1832 z1832 st1832 hQ1832
      subst l1832 y1832 z1832
      obtain ⟨h1832, e1832⟩ : ∃ h, T1832.heap = h := ⟨_, rfl⟩
      rw [e1832] at hQ1832
      obtain ⟨b1832, kb1832, rfl, N1832q, K1832q, y_b1832, Ob1832_0, Ob1832_1⟩ := hQ1832
      have N1832 := Fr.app N1785 N1832q
      have ne_b1769_b1832 : b1769 ≠ b1832 := Nat.ne_of_lt (Nat.lt_of_lt_of_le (Ef1786).lt y_b1832)
      have ne_b1780_b1832 : b1780 ≠ b1832 := Nat.ne_of_lt (Nat.lt_of_lt_of_le (Q1785_0).lt y_b1832)
      have g_b1832 : n0 ≤ b1832 := Nat.le_trans Z1785 y_b1832
      have sz_b1832 : h0.size ≤ b1832 := Nat.le_trans K1785.1 y_b1832
      have Z1832 : n0 ≤ h1832.size := Nat.le_trans Z1785 K1832q.1
      have K1832 : Keep h0 h1832 [] := K1785.trans K1832q (fun x hx => absurd hx List.not_mem_nil)
      have Ef1833 : Exa Z h1832 b1769 "[B" := (Ef1786).keep K1832q
      have Vf1834 : Arv Z h1832 b1769 k1769 .byte (2 : Int32) [(.int (own_d p2)), (.int (own_d p3))] (.int 0) := (Vf1787).keep K1832q List.not_mem_nil
      have Ef1835 : Exa Z h1832 b1780 own_CK := (Q1785_0).keep K1832q
      have Ff1836 : Fld Z h1832 b1780 own_CK "collection" "I" (.int p0) := (Q1785_1).keep K1832q List.not_mem_nil
      have Ff1837 : Fld Z h1832 b1780 own_CK "documentKey" "[B" (.ref b1769) := (Q1785_2).keep K1832q List.not_mem_nil
      have pre1838 : own_P p e below T1832 (mkF m 60 #[vI p0, vI p1, vI p2, vI p3, vI p4, vI 2, vR b1769, .unset, .unset, .unset, .unset, .unset] [(.ref b1832)]) s₁ (own_E m p0 p1 p2 p3 p4) := fun t k => pre1789 t (st1832.trans k)
      have pre1839 : own_P p e below T1832 (mkF m 140 #[vI p0, vI p1, vI p2, vI p3, vI p4, vI 2, vR b1769, vR b1832, vJ (own_u0 p0), .second, vI 4, .unset] [(.ref b1832)]) s₁ (own_E m p0 p1 p2 p3 p4) := by
       intro t k
       refine pre1838 t ?_
       refine XS.astore X1832.here hx rfl (hb hby at_60) rfl rfl (l' := #[vI p0, vI p1, vI p2, vI p3, vI p4, vI 2, vR b1769, vR b1832, .unset, .unset, .unset, .unset]) rfl ?_
       refine XS.iloadN X1832.here hx rfl (hb hby at_62) rfl ?_
       refine XS.i2l X1832.here hx rfl (hb hby at_63) rfl ?_
       refine X1832.ldc2Long hx hown (mvT hZ (own_w hw 43 rfl)) (g := (mkF m 64 #[vI p0, vI p1, vI p2, vI p3, vI p4, vI 2, vR b1769, vR b1832, .unset, .unset, .unset, .unset] [(.long (p0.toInt64))])) rfl (hb hby at_64) _ ?_
       refine XS.land X1832.here hx rfl (hb hby at_67) rfl ?_
       refine XS.lstore X1832.here hx rfl (hb hby at_68) rfl (l' := #[vI p0, vI p1, vI p2, vI p3, vI p4, vI 2, vR b1769, vR b1832, vJ (own_u0 p0), .second, .unset, .unset]) rfl ?_
       refine XS.lload X1832.here hx rfl (hb hby at_70) rfl ?_
       refine X1832.ldc2Long hx hown (mvT hZ (own_w hw 44 rfl)) (g := (mkF m 72 #[vI p0, vI p1, vI p2, vI p3, vI p4, vI 2, vR b1769, vR b1832, vJ (own_u0 p0), .second, .unset, .unset] [(.long (own_u0 p0))])) rfl (hb hby at_72) _ ?_
       refine XS.lcmp X1832.here hx rfl (hb hby at_75) rfl ?_
       refine XS.ifYes X1832.here hx rfl (pc0 := 76) (pc' := 85) rfl (hb hby at_76) rfl ((if0 _ _).trans (flt (own_nltL hu0)).2.1) (by decide) (by decide) ?_
       refine XS.lload X1832.here hx rfl (hb hby at_85) rfl ?_
       refine X1832.ldc2Long hx hown (mvT hZ (own_w hw 50 rfl)) (g := (mkF m 87 #[vI p0, vI p1, vI p2, vI p3, vI p4, vI 2, vR b1769, vR b1832, vJ (own_u0 p0), .second, .unset, .unset] [(.long (own_u0 p0))])) rfl (hb hby at_87) _ ?_
       refine XS.lcmp X1832.here hx rfl (hb hby at_90) rfl ?_
       refine XS.ifYes X1832.here hx rfl (pc0 := 91) (pc' := 100) rfl (hb hby at_91) rfl ((if0 _ _).trans (flt (own_nltL hu1)).2.1) (by decide) (by decide) ?_
       refine XS.lload X1832.here hx rfl (hb hby at_100) rfl ?_
       refine X1832.ldc2Long hx hown (mvT hZ (own_w hw 51 rfl)) (g := (mkF m 102 #[vI p0, vI p1, vI p2, vI p3, vI p4, vI 2, vR b1769, vR b1832, vJ (own_u0 p0), .second, .unset, .unset] [(.long (own_u0 p0))])) rfl (hb hby at_102) _ ?_
       refine XS.lcmp X1832.here hx rfl (hb hby at_105) rfl ?_
       refine XS.ifYes X1832.here hx rfl (pc0 := 106) (pc' := 115) rfl (hb hby at_106) rfl ((if0 _ _).trans (flt (own_nltL hu2)).2.1) (by decide) (by decide) ?_
       refine XS.lload X1832.here hx rfl (hb hby at_115) rfl ?_
       refine X1832.ldc2Long hx hown (mvT hZ (own_w hw 52 rfl)) (g := (mkF m 117 #[vI p0, vI p1, vI p2, vI p3, vI p4, vI 2, vR b1769, vR b1832, vJ (own_u0 p0), .second, .unset, .unset] [(.long (own_u0 p0))])) rfl (hb hby at_117) _ ?_
       refine XS.lcmp X1832.here hx rfl (hb hby at_120) rfl ?_
       refine XS.ifNo X1832.here hx rfl (hb hby at_121) rfl ((if0 _ _).trans (tlt (own_ltL hu3)).2.1) ?_
       refine XS.iconst X1832.here hx rfl (hb hby at_124) ?_
       refine XS.istore X1832.here hx rfl (hb hby at_125) rfl (l' := #[vI p0, vI p1, vI p2, vI p3, vI p4, vI 2, vR b1769, vR b1832, vJ (own_u0 p0), .second, vI 4, .unset]) rfl ?_
       refine XS.goto X1832.here hx rfl (pc0 := 127) (pc' := 133) rfl (hb hby at_127) (by decide) (by decide) ?_
       refine XS.aload X1832.here hx rfl (hb hby at_133) rfl rfl ?_
       refine XS.ifnullNo X1832.here hx rfl (hb hby at_135) rfl ?_
       refine XS.aload X1832.here hx rfl (hb hby at_138) rfl rfl ?_
       exact k
      obtain ⟨cl1840, Ar1840, q1840, S1840, M1840, H1840, G1840⟩ := id Ob1832_1
      have pre1841 : own_P p e below T1832 (mkF m 151 #[vI p0, vI p1, vI p2, vI p3, vI p4, vI 2, vR b1769, vR b1832, vJ (own_u0 p0), .second, vI 4, .unset] []) s₁ (own_E m p0 p1 p2 p3 p4) := by
       intro t k
       refine pre1839 t ?_
       refine X1832.arraylength hx (by rw [e1832]; exact Ar1840.1) (State.isArrayOf_alike hZ.alike Ar1840.2.1) (g := (mkF m 140 #[vI p0, vI p1, vI p2, vI p3, vI p4, vI 2, vR b1769, vR b1832, vJ (own_u0 p0), .second, vI 4, .unset] [(.ref b1832)])) rfl rfl (hb hby at_140) _ ?_
       rw [len_of S1840 M1840]
       refine XS.iload X1832.here hx rfl (hb hby at_141) rfl ?_
       refine XS.iload X1832.here hx rfl (hb hby at_143) rfl ?_
       refine XS.iadd X1832.here hx rfl (hb hby at_145) rfl ?_
       refine XS.icmpYes X1832.here hx rfl (pc0 := 146) (pc' := 151) rfl (hb hby at_146) rfl (teq (by decide : (6 : Int32) = (6 : Int32))).1 (by decide) (by decide) ?_
       exact k
      obtain ⟨T1842, L1842, X1842, N1842, e1842, st1842⟩ := own_id4 X1832 hx hZ hw hby hml hown e1832 N1832 Z1832 (by decide) (by decide) Ob1832_1 (by decide) (by decide) (by decide) (by decide) rfl rfl rfl rfl
      have pre1843 : own_P p e below T1842 (mkF m 305 #[vI p0, vI p1, vI p2, vI p3, vI p4, vI 2, vR b1769, vR b1832, vJ (own_u0 p0), .second, vI 4, vI 1] []) s₁ (own_E m p0 p1 p2 p3 p4) := fun t k => pre1841 t (st1842 t k)
      obtain ⟨T1844, L1844, X1844, N1844, e1844, st1844⟩ := own_doc2 (nv := 4) X1842 hx hZ hw hby hml hown e1842 N1842 Z1832 (by decide) (by decide) Ob1832_1 (by decide) (by decide) rfl rfl
      have pre1845 : own_P p e below T1844 (mkF m 395 #[vI p0, vI p1, vI p2, vI p3, vI p4, vI 2, vR b1769, vR b1832, vJ (own_u0 p0), .second, vI 4, vI 1] [(.int 1)]) s₁ (own_E m p0 p1 p2 p3 p4) := fun t k => pre1843 t (st1844 t k)
      obtain ⟨fs, hr, hrun, hended, hW, hsame⟩ := X1844.leave (v := some (.int 1)) (fun h => by rw [Bd.returns] at h; cases h)
      refine ⟨_, _, pre1845 _ ?_, hrun, hended, _, _, rfl, ?_, ⟨_, rfl⟩, hW, hsame.mono (by decide) (by decide)⟩
      ·
       exact retN X1844 hx (t := .boolean) Bd.returns (by simp) (hb hby at_395) hr
      ·
       show Q0 Z p0 p1 p2 p3 p4 h0 n0 _ T1844.heap _
       rw [e1844]
       exact ⟨rfl, N1844⟩
     ·
      obtain ⟨cq1846, kq1846, q1846a, q1846b, q1846c⟩ := isOf hZ e1785 Q1785_0
      obtain ⟨_, _, ⟨T1846, L1846, k1846, n1846⟩, -, X1846, ⟨Lc1846, hQ1846, l1846, y1846, z1846⟩, st1846⟩ := X1785.virtualBack hx (y := (⟨own_CK, "write", "()[B"⟩ : MethodName)) (z := (⟨own_CK, "write", "()[B"⟩ : MethodName)) hown (mvT hZ (own_w hw 19 rfl)) (mvT hZ (own_w hw 20 rfl)) (notFace_of_selects (args := #[]) (mvT hZ (own_w hw 22 rfl))) (mvT hZ (own_w hw 22 rfl)) (mvT hZ (own_w hw 21 rfl)) (by decide) (backOf (W := 0) (rm4_5_2 l Z ar0 hw [] b1780 p0 b1769 k1769 (own_d p2) (own_d p3) h1785 n0 Z1785 Q1785_1 Q1785_2 Vf1787 (fun q => hu0 ((own_z1 p0).1 q)) (fun q => hu1 ((own_z2 p0).1 q)) (fun q => hu2 ((own_z3 p0).1 q)) (fun q => hu3 ((own_z4 p0).1 q)) (own_z5 p0)) hZ (own_w hw 23 rfl) (own_w hw 3 rfl) (by decide) (by decide)) q1846a q1846c (g := (mkF m 57 #[vI p0, vI p1, vI p2, vI p3, vI p4, vI 2, vR b1769, .unset, .unset, .unset, .unset, .unset] [(.ref b1780)])) rfl (by rw [hml]; rfl) (Steps.refl _) (argsL := []) (rest := []) (lenOf pd_6 rfl) rfl (by show 2 * 0 + _ ≤ _; exact Nat.le_of_eq rfl) (hb hby at_57) (fun _ _ => ⟨rfl, e1785, (by decide : 2 + 2 ≤ _), (by decide : 4 + 12 ≤ _)⟩)
      dsimp only [Pt.U, Pt.locs, Pt.cells, Pt.slots] at X1846 l1846 y1846 z1846 st1846 hQ1846
      subst l1846 y1846 z1846
      obtain ⟨h1846, e1846⟩ : ∃ h, T1846.heap = h := ⟨_, rfl⟩
      rw [e1846] at hQ1846
      obtain ⟨b1846, kb1846, rfl, N1846q, K1846q, y_b1846, Ob1846_0, Ob1846_1⟩ := hQ1846
      have N1846 := Fr.app N1785 N1846q
      have ne_b1769_b1846 : b1769 ≠ b1846 := Nat.ne_of_lt (Nat.lt_of_lt_of_le (Ef1786).lt y_b1846)
      have ne_b1780_b1846 : b1780 ≠ b1846 := Nat.ne_of_lt (Nat.lt_of_lt_of_le (Q1785_0).lt y_b1846)
      have g_b1846 : n0 ≤ b1846 := Nat.le_trans Z1785 y_b1846
      have sz_b1846 : h0.size ≤ b1846 := Nat.le_trans K1785.1 y_b1846
      have Z1846 : n0 ≤ h1846.size := Nat.le_trans Z1785 K1846q.1
      have K1846 : Keep h0 h1846 [] := K1785.trans K1846q (fun x hx => absurd hx List.not_mem_nil)
      have Ef1847 : Exa Z h1846 b1769 "[B" := (Ef1786).keep K1846q
      have Vf1848 : Arv Z h1846 b1769 k1769 .byte (2 : Int32) [(.int (own_d p2)), (.int (own_d p3))] (.int 0) := (Vf1787).keep K1846q List.not_mem_nil
      have Ef1849 : Exa Z h1846 b1780 own_CK := (Q1785_0).keep K1846q
      have Ff1850 : Fld Z h1846 b1780 own_CK "collection" "I" (.int p0) := (Q1785_1).keep K1846q List.not_mem_nil
      have Ff1851 : Fld Z h1846 b1780 own_CK "documentKey" "[B" (.ref b1769) := (Q1785_2).keep K1846q List.not_mem_nil
      have pre1852 : own_P p e below T1846 (mkF m 60 #[vI p0, vI p1, vI p2, vI p3, vI p4, vI 2, vR b1769, .unset, .unset, .unset, .unset, .unset] [(.ref b1846)]) s₁ (own_E m p0 p1 p2 p3 p4) := fun t k => pre1789 t (st1846.trans k)
      have pre1853 : own_P p e below T1846 (mkF m 140 #[vI p0, vI p1, vI p2, vI p3, vI p4, vI 2, vR b1769, vR b1846, vJ (own_u0 p0), .second, vI 5, .unset] [(.ref b1846)]) s₁ (own_E m p0 p1 p2 p3 p4) := by
       intro t k
       refine pre1852 t ?_
       refine XS.astore X1846.here hx rfl (hb hby at_60) rfl rfl (l' := #[vI p0, vI p1, vI p2, vI p3, vI p4, vI 2, vR b1769, vR b1846, .unset, .unset, .unset, .unset]) rfl ?_
       refine XS.iloadN X1846.here hx rfl (hb hby at_62) rfl ?_
       refine XS.i2l X1846.here hx rfl (hb hby at_63) rfl ?_
       refine X1846.ldc2Long hx hown (mvT hZ (own_w hw 43 rfl)) (g := (mkF m 64 #[vI p0, vI p1, vI p2, vI p3, vI p4, vI 2, vR b1769, vR b1846, .unset, .unset, .unset, .unset] [(.long (p0.toInt64))])) rfl (hb hby at_64) _ ?_
       refine XS.land X1846.here hx rfl (hb hby at_67) rfl ?_
       refine XS.lstore X1846.here hx rfl (hb hby at_68) rfl (l' := #[vI p0, vI p1, vI p2, vI p3, vI p4, vI 2, vR b1769, vR b1846, vJ (own_u0 p0), .second, .unset, .unset]) rfl ?_
       refine XS.lload X1846.here hx rfl (hb hby at_70) rfl ?_
       refine X1846.ldc2Long hx hown (mvT hZ (own_w hw 44 rfl)) (g := (mkF m 72 #[vI p0, vI p1, vI p2, vI p3, vI p4, vI 2, vR b1769, vR b1846, vJ (own_u0 p0), .second, .unset, .unset] [(.long (own_u0 p0))])) rfl (hb hby at_72) _ ?_
       refine XS.lcmp X1846.here hx rfl (hb hby at_75) rfl ?_
       refine XS.ifYes X1846.here hx rfl (pc0 := 76) (pc' := 85) rfl (hb hby at_76) rfl ((if0 _ _).trans (flt (own_nltL hu0)).2.1) (by decide) (by decide) ?_
       refine XS.lload X1846.here hx rfl (hb hby at_85) rfl ?_
       refine X1846.ldc2Long hx hown (mvT hZ (own_w hw 50 rfl)) (g := (mkF m 87 #[vI p0, vI p1, vI p2, vI p3, vI p4, vI 2, vR b1769, vR b1846, vJ (own_u0 p0), .second, .unset, .unset] [(.long (own_u0 p0))])) rfl (hb hby at_87) _ ?_
       refine XS.lcmp X1846.here hx rfl (hb hby at_90) rfl ?_
       refine XS.ifYes X1846.here hx rfl (pc0 := 91) (pc' := 100) rfl (hb hby at_91) rfl ((if0 _ _).trans (flt (own_nltL hu1)).2.1) (by decide) (by decide) ?_
       refine XS.lload X1846.here hx rfl (hb hby at_100) rfl ?_
       refine X1846.ldc2Long hx hown (mvT hZ (own_w hw 51 rfl)) (g := (mkF m 102 #[vI p0, vI p1, vI p2, vI p3, vI p4, vI 2, vR b1769, vR b1846, vJ (own_u0 p0), .second, .unset, .unset] [(.long (own_u0 p0))])) rfl (hb hby at_102) _ ?_
       refine XS.lcmp X1846.here hx rfl (hb hby at_105) rfl ?_
       refine XS.ifYes X1846.here hx rfl (pc0 := 106) (pc' := 115) rfl (hb hby at_106) rfl ((if0 _ _).trans (flt (own_nltL hu2)).2.1) (by decide) (by decide) ?_
       refine XS.lload X1846.here hx rfl (hb hby at_115) rfl ?_
       refine X1846.ldc2Long hx hown (mvT hZ (own_w hw 52 rfl)) (g := (mkF m 117 #[vI p0, vI p1, vI p2, vI p3, vI p4, vI 2, vR b1769, vR b1846, vJ (own_u0 p0), .second, .unset, .unset] [(.long (own_u0 p0))])) rfl (hb hby at_117) _ ?_
       refine XS.lcmp X1846.here hx rfl (hb hby at_120) rfl ?_
       refine XS.ifYes X1846.here hx rfl (pc0 := 121) (pc' := 130) rfl (hb hby at_121) rfl ((if0 _ _).trans (flt (own_nltL hu3)).2.1) (by decide) (by decide) ?_
       refine XS.iconst X1846.here hx rfl (hb hby at_130) ?_
       refine XS.istore X1846.here hx rfl (hb hby at_131) rfl (l' := #[vI p0, vI p1, vI p2, vI p3, vI p4, vI 2, vR b1769, vR b1846, vJ (own_u0 p0), .second, vI 5, .unset]) rfl ?_
       refine XS.aload X1846.here hx rfl (hb hby at_133) rfl rfl ?_
       refine XS.ifnullNo X1846.here hx rfl (hb hby at_135) rfl ?_
       refine XS.aload X1846.here hx rfl (hb hby at_138) rfl rfl ?_
       exact k
      obtain ⟨cl1854, Ar1854, q1854, S1854, M1854, H1854, G1854⟩ := id Ob1846_1
      have pre1855 : own_P p e below T1846 (mkF m 151 #[vI p0, vI p1, vI p2, vI p3, vI p4, vI 2, vR b1769, vR b1846, vJ (own_u0 p0), .second, vI 5, .unset] []) s₁ (own_E m p0 p1 p2 p3 p4) := by
       intro t k
       refine pre1853 t ?_
       refine X1846.arraylength hx (by rw [e1846]; exact Ar1854.1) (State.isArrayOf_alike hZ.alike Ar1854.2.1) (g := (mkF m 140 #[vI p0, vI p1, vI p2, vI p3, vI p4, vI 2, vR b1769, vR b1846, vJ (own_u0 p0), .second, vI 5, .unset] [(.ref b1846)])) rfl rfl (hb hby at_140) _ ?_
       rw [len_of S1854 M1854]
       refine XS.iload X1846.here hx rfl (hb hby at_141) rfl ?_
       refine XS.iload X1846.here hx rfl (hb hby at_143) rfl ?_
       refine XS.iadd X1846.here hx rfl (hb hby at_145) rfl ?_
       refine XS.icmpYes X1846.here hx rfl (pc0 := 146) (pc' := 151) rfl (hb hby at_146) rfl (teq (by decide : (7 : Int32) = (7 : Int32))).1 (by decide) (by decide) ?_
       exact k
      obtain ⟨T1856, L1856, X1856, N1856, e1856, st1856⟩ := own_id5 X1846 hx hZ hw hby hml hown e1846 N1846 Z1846 (by decide) (by decide) Ob1846_1 (by decide) (by decide) (by decide) (by decide) (by decide) rfl rfl rfl rfl rfl
      have pre1857 : own_P p e below T1856 (mkF m 305 #[vI p0, vI p1, vI p2, vI p3, vI p4, vI 2, vR b1769, vR b1846, vJ (own_u0 p0), .second, vI 5, vI 1] []) s₁ (own_E m p0 p1 p2 p3 p4) := fun t k => pre1855 t (st1856 t k)
      obtain ⟨T1858, L1858, X1858, N1858, e1858, st1858⟩ := own_doc2 (nv := 5) X1856 hx hZ hw hby hml hown e1856 N1856 Z1846 (by decide) (by decide) Ob1846_1 (by decide) (by decide) rfl rfl
      have pre1859 : own_P p e below T1858 (mkF m 395 #[vI p0, vI p1, vI p2, vI p3, vI p4, vI 2, vR b1769, vR b1846, vJ (own_u0 p0), .second, vI 5, vI 1] [(.int 1)]) s₁ (own_E m p0 p1 p2 p3 p4) := fun t k => pre1857 t (st1858 t k)
      obtain ⟨fs, hr, hrun, hended, hW, hsame⟩ := X1858.leave (v := some (.int 1)) (fun h => by rw [Bd.returns] at h; cases h)
      refine ⟨_, _, pre1859 _ ?_, hrun, hended, _, _, rfl, ?_, ⟨_, rfl⟩, hW, hsame.mono (by decide) (by decide)⟩
      ·
       exact retN X1858 hx (t := .boolean) Bd.returns (by simp) (hb hby at_395) hr
      ·
       show Q0 Z p0 p1 p2 p3 p4 h0 n0 _ T1858.heap _
       rw [e1858]
       exact ⟨rfl, N1858⟩
 ·
  have pre1860 : ∀ t, Steps p.tables e below (s₁.setTop (mkF m 7 #[vI p0, vI p1, vI p2, vI p3, vI p4, vI 3, .unset, .unset, .unset, .unset, .unset, .unset] [(.int 3)])) t → Steps p.tables e below (s₁.setTop (own_E m p0 p1 p2 p3 p4)) t := by
   intro t k
   refine pre1595 t ?_
   refine XS.iload X0.here hx rfl (hb hby at_5) rfl ?_
   exact k
  obtain ⟨T1861, h1861, k1861, X1861, e1861, E1861, A1861, C1861, st1861⟩ := newPE X0 hx hZ (own_w hw 0 rfl) e0 (g := (mkF m 7 #[vI p0, vI p1, vI p2, vI p3, vI p4, vI 3, .unset, .unset, .unset, .unset, .unset, .unset] [(.int 3)])) rfl (hb hby at_7) rfl (by decide) (cap := 3) (by decide) (by decide) (by decide) (by decide) (ad := "[B") rfl
  obtain ⟨b1861, g1861⟩ : ∃ z, z = h0.size := ⟨_, rfl⟩
  rw [← g1861] at A1861 C1861 st1861
  have g_b1861 : n0 ≤ b1861 := Nat.le_trans Z0 (Nat.le_of_eq g1861.symm)
  have sz_b1861 : h0.size ≤ b1861 := Nat.le_trans (Keep.refl h0 []).1 (Nat.le_of_eq g1861.symm)
  have Z1861 : n0 ≤ h1861.size := Nat.le_trans Z0 E1861.1
  have K1861 : Keep h0 h1861 [] := (Keep.refl h0 []).ext E1861
  have V_b1861 : Arv Z h1861 b1861 k1861 .byte (3 : Int32) [(.int 0), (.int 0), (.int 0)] (.int 0) := (Arv.new A1861 (by decide)).pad (pad_rep [] (.int 0) 3)
  have pre1862 : own_P p e below T1861 (mkF m 9 #[vI p0, vI p1, vI p2, vI p3, vI p4, vI 3, .unset, .unset, .unset, .unset, .unset, .unset] [(.ref b1861)]) s₁ (own_E m p0 p1 p2 p3 p4) := fun t k => pre1860 t (st1861 t k)
  have pre1863 : own_P p e below T1861 (mkF m 21 #[vI p0, vI p1, vI p2, vI p3, vI p4, vI 3, vR b1861, .unset, .unset, .unset, .unset, .unset] [(.int (p2.toInt8.toInt32)), (.int 0), (.ref b1861)]) s₁ (own_E m p0 p1 p2 p3 p4) := by
   intro t k
   refine pre1862 t ?_
   refine XS.astore X1861.here hx rfl (hb hby at_9) rfl rfl (l' := #[vI p0, vI p1, vI p2, vI p3, vI p4, vI 3, vR b1861, .unset, .unset, .unset, .unset, .unset]) rfl ?_
   refine XS.iload X1861.here hx rfl (hb hby at_11) rfl ?_
   refine XS.ifNo X1861.here hx rfl (hb hby at_13) rfl ((if0 _ _).trans (tlt (by decide : (0 : Int32) < (3 : Int32))).2.2.2) ?_
   refine XS.aload X1861.here hx rfl (hb hby at_16) rfl rfl ?_
   refine XS.iconst X1861.here hx rfl (hb hby at_18) ?_
   refine XS.iloadN X1861.here hx rfl (hb hby at_19) rfl ?_
   refine XS.i2b X1861.here hx rfl (hb hby at_20) rfl ?_
   exact k
  obtain ⟨cl1864, Ar1864, q1864, S1864, M1864, H1864, G1864⟩ := id V_b1861
  have hin1864 : ¬ ((0 : Int32) < 0 ∨ cl1864.slots.size ≤ ((0 : Int32)).toNatClampNeg) := inb_of S1864 ⟨by decide, by decide⟩
  obtain ⟨T1864, h1864, X1864, e1864, W1864, st1864⟩ := stB X1861 hx hZ e1861 Ar1864 (j := (0 : Int32)) hin1864 (g := (mkF m 21 #[vI p0, vI p1, vI p2, vI p3, vI p4, vI 3, vR b1861, .unset, .unset, .unset, .unset, .unset] [(.int (p2.toInt8.toInt32)), (.int 0), (.ref b1861)])) rfl rfl (hb hby at_21)
  have Z1864 : n0 ≤ h1864.size := Nat.le_trans Z1861 (Keep.of_wr W1864).1
  have K1864 : Keep h0 h1864 [] := K1861.wr W1864 (Or.inr sz_b1861)
  have N1864 := Fr.snoc X1864 N0 g_b1861
  have Ef1865 : Exa Z h1864 b1861 "[B" := (C1861).wr W1864
  have V1864 : Arv Z h1864 b1861 k1861 .byte (3 : Int32) [(.int (own_d p2)), (.int 0), (.int 0)] (.int 0) := Arv.set Ar1864 q1864 S1864 M1864 H1864 G1864 (fits_nar_byte _) W1864 0 rfl (Nat.le_of_ble_eq_true rfl)
  have pre1866 : own_P p e below T1864 (mkF m 22 #[vI p0, vI p1, vI p2, vI p3, vI p4, vI 3, vR b1861, .unset, .unset, .unset, .unset, .unset] []) s₁ (own_E m p0 p1 p2 p3 p4) := fun t k => pre1863 t (st1864 t k)
  have pre1867 : own_P p e below T1864 (mkF m 33 #[vI p0, vI p1, vI p2, vI p3, vI p4, vI 3, vR b1861, .unset, .unset, .unset, .unset, .unset] [(.int (p3.toInt8.toInt32)), (.int 1), (.ref b1861)]) s₁ (own_E m p0 p1 p2 p3 p4) := by
   intro t k
   refine pre1866 t ?_
   refine XS.iload X1864.here hx rfl (hb hby at_22) rfl ?_
   refine XS.iconst X1864.here hx rfl (hb hby at_24) ?_
   refine XS.icmpNo X1864.here hx rfl (hb hby at_25) rfl (tlt (by decide : (1 : Int32) < (3 : Int32))).2.2.2 ?_
   refine XS.aload X1864.here hx rfl (hb hby at_28) rfl rfl ?_
   refine XS.iconst X1864.here hx rfl (hb hby at_30) ?_
   refine XS.iloadN X1864.here hx rfl (hb hby at_31) rfl ?_
   refine XS.i2b X1864.here hx rfl (hb hby at_32) rfl ?_
   exact k
  obtain ⟨cl1868, Ar1868, q1868, S1868, M1868, H1868, G1868⟩ := id V1864
  have hin1868 : ¬ ((1 : Int32) < 0 ∨ cl1868.slots.size ≤ ((1 : Int32)).toNatClampNeg) := inb_of S1868 ⟨by decide, by decide⟩
  obtain ⟨T1868, h1868, X1868, e1868, W1868, st1868⟩ := stB X1864 hx hZ e1864 Ar1868 (j := (1 : Int32)) hin1868 (g := (mkF m 33 #[vI p0, vI p1, vI p2, vI p3, vI p4, vI 3, vR b1861, .unset, .unset, .unset, .unset, .unset] [(.int (p3.toInt8.toInt32)), (.int 1), (.ref b1861)])) rfl rfl (hb hby at_33)
  have Z1868 : n0 ≤ h1868.size := Nat.le_trans Z1864 (Keep.of_wr W1868).1
  have K1868 : Keep h0 h1868 [] := K1864.wr W1868 (Or.inr sz_b1861)
  have N1868 := Fr.snoc X1868 N1864 g_b1861
  have Ef1869 : Exa Z h1868 b1861 "[B" := (Ef1865).wr W1868
  have V1868 : Arv Z h1868 b1861 k1861 .byte (3 : Int32) [(.int (own_d p2)), (.int (own_d p3)), (.int 0)] (.int 0) := Arv.set Ar1868 q1868 S1868 M1868 H1868 G1868 (fits_nar_byte _) W1868 1 rfl (Nat.le_of_ble_eq_true rfl)
  have pre1870 : own_P p e below T1868 (mkF m 34 #[vI p0, vI p1, vI p2, vI p3, vI p4, vI 3, vR b1861, .unset, .unset, .unset, .unset, .unset] []) s₁ (own_E m p0 p1 p2 p3 p4) := fun t k => pre1867 t (st1868 t k)
  have pre1871 : own_P p e below T1868 (mkF m 46 #[vI p0, vI p1, vI p2, vI p3, vI p4, vI 3, vR b1861, .unset, .unset, .unset, .unset, .unset] [(.int (p4.toInt8.toInt32)), (.int 2), (.ref b1861)]) s₁ (own_E m p0 p1 p2 p3 p4) := by
   intro t k
   refine pre1870 t ?_
   refine XS.iload X1868.here hx rfl (hb hby at_34) rfl ?_
   refine XS.iconst X1868.here hx rfl (hb hby at_36) ?_
   refine XS.icmpNo X1868.here hx rfl (hb hby at_37) rfl (tlt (by decide : (2 : Int32) < (3 : Int32))).2.2.2 ?_
   refine XS.aload X1868.here hx rfl (hb hby at_40) rfl rfl ?_
   refine XS.iconst X1868.here hx rfl (hb hby at_42) ?_
   refine XS.iload X1868.here hx rfl (hb hby at_43) rfl ?_
   refine XS.i2b X1868.here hx rfl (hb hby at_45) rfl ?_
   exact k
  obtain ⟨cl1872, Ar1872, q1872, S1872, M1872, H1872, G1872⟩ := id V1868
  have hin1872 : ¬ ((2 : Int32) < 0 ∨ cl1872.slots.size ≤ ((2 : Int32)).toNatClampNeg) := inb_of S1872 ⟨by decide, by decide⟩
  obtain ⟨T1872, h1872, X1872, e1872, W1872, st1872⟩ := stB X1868 hx hZ e1868 Ar1872 (j := (2 : Int32)) hin1872 (g := (mkF m 46 #[vI p0, vI p1, vI p2, vI p3, vI p4, vI 3, vR b1861, .unset, .unset, .unset, .unset, .unset] [(.int (p4.toInt8.toInt32)), (.int 2), (.ref b1861)])) rfl rfl (hb hby at_46)
  have Z1872 : n0 ≤ h1872.size := Nat.le_trans Z1868 (Keep.of_wr W1872).1
  have K1872 : Keep h0 h1872 [] := K1868.wr W1872 (Or.inr sz_b1861)
  have N1872 := Fr.snoc X1872 N1868 g_b1861
  have Ef1873 : Exa Z h1872 b1861 "[B" := (Ef1869).wr W1872
  have V1872 : Arv Z h1872 b1861 k1861 .byte (3 : Int32) [(.int (own_d p2)), (.int (own_d p3)), (.int (own_d p4))] (.int 0) := Arv.set Ar1872 q1872 S1872 M1872 H1872 G1872 (fits_nar_byte _) W1872 2 rfl (Nat.le_of_ble_eq_true rfl)
  have pre1874 : own_P p e below T1872 (mkF m 47 #[vI p0, vI p1, vI p2, vI p3, vI p4, vI 3, vR b1861, .unset, .unset, .unset, .unset, .unset] []) s₁ (own_E m p0 p1 p2 p3 p4) := fun t k => pre1871 t (st1872 t k)
  obtain ⟨T1875, h1875, X1875, e1875, E1875, A1875, D1875, -, st1875⟩ := newO X1872 hx hZ hown (own_w hw 1 rfl) (own_w hw 2 rfl) (own_w hw 3 rfl) e1872 (g := (mkF m 47 #[vI p0, vI p1, vI p2, vI p3, vI p4, vI 3, vR b1861, .unset, .unset, .unset, .unset, .unset] [])) rfl (hb hby at_47) (by decide) (by decide)
  obtain ⟨b1875, g1875⟩ : ∃ z, z = h1872.size := ⟨_, rfl⟩
  rw [← g1875] at A1875 D1875 st1875
  have ne_b1861_b1875 : b1861 ≠ b1875 := Nat.ne_of_lt (Nat.lt_of_lt_of_le (Ef1873).lt (Nat.le_of_eq g1875.symm))
  have g_b1875 : n0 ≤ b1875 := Nat.le_trans Z1872 (Nat.le_of_eq g1875.symm)
  have sz_b1875 : h0.size ≤ b1875 := Nat.le_trans K1872.1 (Nat.le_of_eq g1875.symm)
  have Z1875 : n0 ≤ h1875.size := Nat.le_trans Z1872 E1875.1
  have K1875 : Keep h0 h1875 [] := K1872.ext E1875
  have Ef1876 : Exa Z h1875 b1861 "[B" := (Ef1873).ext E1875
  have Vf1877 : Arv Z h1875 b1861 k1861 .byte (3 : Int32) [(.int (own_d p2)), (.int (own_d p3)), (.int (own_d p4))] (.int 0) := (V1872).ext E1875
  have Fcollection_b1875 : Fld Z h1875 b1875 own_CK "collection" "I" (.int 0) := D1875 (Or.inr (own_w hw 16 rfl)) (ty := .int) (by decide)
  have FdocumentKey_b1875 : Fld Z h1875 b1875 own_CK "documentKey" "[B" .null := D1875 (Or.inr (own_w hw 18 rfl)) (ty := (.array .byte)) (by decide)
  have pre1878 : own_P p e below T1875 (mkF m 50 #[vI p0, vI p1, vI p2, vI p3, vI p4, vI 3, vR b1861, .unset, .unset, .unset, .unset, .unset] [(.ref b1875)]) s₁ (own_E m p0 p1 p2 p3 p4) := fun t k => pre1874 t (st1875 t k)
  have pre1879 : own_P p e below T1875 (mkF m 54 #[vI p0, vI p1, vI p2, vI p3, vI p4, vI 3, vR b1861, .unset, .unset, .unset, .unset, .unset] [(.ref b1861), (.int p0), (.ref b1875), (.ref b1875)]) s₁ (own_E m p0 p1 p2 p3 p4) := by
   intro t k
   refine pre1878 t ?_
   refine XS.dup X1875.here hx rfl (hb hby at_50) rfl rfl ?_
   refine XS.iloadN X1875.here hx rfl (hb hby at_51) rfl ?_
   refine XS.aload X1875.here hx rfl (hb hby at_52) rfl rfl ?_
   exact k
  obtain ⟨_, _, ⟨T1880, L1880, k1880, n1880⟩, -, X1880, ⟨Lc1880, hQ1880, l1880, y1880, z1880⟩, st1880⟩ := X1875.specialBack hx (y := (⟨own_CK, "<init>", "(I[B)V"⟩ : MethodName)) rfl hown (mvT hZ (own_w hw 4 rfl)) (mvT hZ (own_w hw 5 rfl)) (mvT hZ (own_w hw 6 rfl)) (by decide) (backOf (W := 1) (rm1 l Z ar0 hw [] b1875 p0 b1861 .null (0 : Int32) h1875 n0 Z1875 FdocumentKey_b1875 A1875 Fcollection_b1875 g_b1875) hZ (own_w hw 6 rfl) (own_w hw 3 rfl) (by decide) (by decide)) (g := (mkF m 54 #[vI p0, vI p1, vI p2, vI p3, vI p4, vI 3, vR b1861, .unset, .unset, .unset, .unset, .unset] [(.ref b1861), (.int p0), (.ref b1875), (.ref b1875)])) rfl (by rw [hml]; rfl) (Steps.refl _) (a := b1875) (argsL := [(.int p0), (.ref b1861)]) (rest := [(.ref b1875)]) (lenOf pd_5 rfl) rfl (by show 2 * 0 + _ ≤ _; exact Nat.le_of_eq rfl) (hb hby at_54) (fun _ _ => ⟨rfl, e1875, (by decide : 2 + 0 ≤ _), (by decide : 5 + 0 ≤ _)⟩)
  dsimp only [Pt.U, Pt.locs, Pt.cells, Pt.slots] at X1880 l1880 y1880 z1880 st1880 hQ1880
  subst l1880 y1880 z1880
  obtain ⟨h1880, e1880⟩ : ∃ h, T1880.heap = h := ⟨_, rfl⟩
  rw [e1880] at hQ1880
  obtain ⟨rfl, N1880q, K1880q, Q1880_0, Q1880_1, Q1880_2⟩ := hQ1880
  have N1880 := Fr.app N1872 N1880q
  have Z1880 : n0 ≤ h1880.size := Nat.le_trans Z1875 K1880q.1
  have K1880 : Keep h0 h1880 [] := K1875.trans K1880q (fun x hx => by cases List.mem_singleton.mp hx; exact Or.inr sz_b1875)
  have Ef1881 : Exa Z h1880 b1861 "[B" := (Ef1876).keep K1880q
  have Vf1882 : Arv Z h1880 b1861 k1861 .byte (3 : Int32) [(.int (own_d p2)), (.int (own_d p3)), (.int (own_d p4))] (.int 0) := (Vf1877).keep K1880q (fun q => absurd (List.mem_singleton.mp q) ne_b1861_b1875)
  have Ef1883 : Exa Z h1880 b1875 own_CK := (A1875).keep K1880q
  have pre1884 : own_P p e below T1880 (mkF m 57 #[vI p0, vI p1, vI p2, vI p3, vI p4, vI 3, vR b1861, .unset, .unset, .unset, .unset, .unset] [(.ref b1875)]) s₁ (own_E m p0 p1 p2 p3 p4) := fun t k => pre1879 t (st1880.trans k)
  by_cases hu0 : (own_u0 p0) < (128 : Int64)
  ·
   obtain ⟨cq1885, kq1885, q1885a, q1885b, q1885c⟩ := isOf hZ e1880 Q1880_0
   obtain ⟨_, _, ⟨T1885, L1885, k1885, n1885⟩, -, X1885, ⟨Lc1885, hQ1885, l1885, y1885, z1885⟩, st1885⟩ := X1880.virtualBack hx (y := (⟨own_CK, "write", "()[B"⟩ : MethodName)) (z := (⟨own_CK, "write", "()[B"⟩ : MethodName)) hown (mvT hZ (own_w hw 19 rfl)) (mvT hZ (own_w hw 20 rfl)) (notFace_of_selects (args := #[]) (mvT hZ (own_w hw 22 rfl))) (mvT hZ (own_w hw 22 rfl)) (mvT hZ (own_w hw 21 rfl)) (by decide) (backOf (W := 0) (rm4_1_3 l Z ar0 hw [] b1875 p0 b1861 k1861 (own_d p2) (own_d p3) (own_d p4) h1880 n0 Z1880 Q1880_1 Q1880_2 Vf1882 ((own_z1 p0).2 hu0)) hZ (own_w hw 23 rfl) (own_w hw 3 rfl) (by decide) (by decide)) q1885a q1885c (g := (mkF m 57 #[vI p0, vI p1, vI p2, vI p3, vI p4, vI 3, vR b1861, .unset, .unset, .unset, .unset, .unset] [(.ref b1875)])) rfl (by rw [hml]; rfl) (Steps.refl _) (argsL := []) (rest := []) (lenOf pd_6 rfl) rfl (by show 2 * 0 + _ ≤ _; exact Nat.le_of_eq rfl) (hb hby at_57) (fun _ _ => ⟨rfl, e1880, (by decide : 2 + 2 ≤ _), (by decide : 5 + 9 ≤ _)⟩)
   dsimp only [Pt.U, Pt.locs, Pt.cells, Pt.slots] at X1885 l1885 y1885 z1885 st1885 hQ1885
   subst l1885 y1885 z1885
   obtain ⟨h1885, e1885⟩ : ∃ h, T1885.heap = h := ⟨_, rfl⟩
   rw [e1885] at hQ1885
   obtain ⟨b1885, kb1885, rfl, N1885q, K1885q, y_b1885, Ob1885_0, Ob1885_1⟩ := hQ1885
   have N1885 := Fr.app N1880 N1885q
   have ne_b1861_b1885 : b1861 ≠ b1885 := Nat.ne_of_lt (Nat.lt_of_lt_of_le (Ef1881).lt y_b1885)
   have ne_b1875_b1885 : b1875 ≠ b1885 := Nat.ne_of_lt (Nat.lt_of_lt_of_le (Q1880_0).lt y_b1885)
   have g_b1885 : n0 ≤ b1885 := Nat.le_trans Z1880 y_b1885
   have sz_b1885 : h0.size ≤ b1885 := Nat.le_trans K1880.1 y_b1885
   have Z1885 : n0 ≤ h1885.size := Nat.le_trans Z1880 K1885q.1
   have K1885 : Keep h0 h1885 [] := K1880.trans K1885q (fun x hx => absurd hx List.not_mem_nil)
   have Ef1886 : Exa Z h1885 b1861 "[B" := (Ef1881).keep K1885q
   have Vf1887 : Arv Z h1885 b1861 k1861 .byte (3 : Int32) [(.int (own_d p2)), (.int (own_d p3)), (.int (own_d p4))] (.int 0) := (Vf1882).keep K1885q List.not_mem_nil
   have Ef1888 : Exa Z h1885 b1875 own_CK := (Q1880_0).keep K1885q
   have Ff1889 : Fld Z h1885 b1875 own_CK "collection" "I" (.int p0) := (Q1880_1).keep K1885q List.not_mem_nil
   have Ff1890 : Fld Z h1885 b1875 own_CK "documentKey" "[B" (.ref b1861) := (Q1880_2).keep K1885q List.not_mem_nil
   have pre1891 : own_P p e below T1885 (mkF m 60 #[vI p0, vI p1, vI p2, vI p3, vI p4, vI 3, vR b1861, .unset, .unset, .unset, .unset, .unset] [(.ref b1885)]) s₁ (own_E m p0 p1 p2 p3 p4) := fun t k => pre1884 t (st1885.trans k)
   have pre1892 : own_P p e below T1885 (mkF m 140 #[vI p0, vI p1, vI p2, vI p3, vI p4, vI 3, vR b1861, vR b1885, vJ (own_u0 p0), .second, vI 1, .unset] [(.ref b1885)]) s₁ (own_E m p0 p1 p2 p3 p4) := by
    intro t k
    refine pre1891 t ?_
    refine XS.astore X1885.here hx rfl (hb hby at_60) rfl rfl (l' := #[vI p0, vI p1, vI p2, vI p3, vI p4, vI 3, vR b1861, vR b1885, .unset, .unset, .unset, .unset]) rfl ?_
    refine XS.iloadN X1885.here hx rfl (hb hby at_62) rfl ?_
    refine XS.i2l X1885.here hx rfl (hb hby at_63) rfl ?_
    refine X1885.ldc2Long hx hown (mvT hZ (own_w hw 43 rfl)) (g := (mkF m 64 #[vI p0, vI p1, vI p2, vI p3, vI p4, vI 3, vR b1861, vR b1885, .unset, .unset, .unset, .unset] [(.long (p0.toInt64))])) rfl (hb hby at_64) _ ?_
    refine XS.land X1885.here hx rfl (hb hby at_67) rfl ?_
    refine XS.lstore X1885.here hx rfl (hb hby at_68) rfl (l' := #[vI p0, vI p1, vI p2, vI p3, vI p4, vI 3, vR b1861, vR b1885, vJ (own_u0 p0), .second, .unset, .unset]) rfl ?_
    refine XS.lload X1885.here hx rfl (hb hby at_70) rfl ?_
    refine X1885.ldc2Long hx hown (mvT hZ (own_w hw 44 rfl)) (g := (mkF m 72 #[vI p0, vI p1, vI p2, vI p3, vI p4, vI 3, vR b1861, vR b1885, vJ (own_u0 p0), .second, .unset, .unset] [(.long (own_u0 p0))])) rfl (hb hby at_72) _ ?_
    refine XS.lcmp X1885.here hx rfl (hb hby at_75) rfl ?_
    refine XS.ifNo X1885.here hx rfl (hb hby at_76) rfl ((if0 _ _).trans (tlt (own_ltL hu0)).2.1) ?_
    refine XS.iconst X1885.here hx rfl (hb hby at_79) ?_
    refine XS.istore X1885.here hx rfl (hb hby at_80) rfl (l' := #[vI p0, vI p1, vI p2, vI p3, vI p4, vI 3, vR b1861, vR b1885, vJ (own_u0 p0), .second, vI 1, .unset]) rfl ?_
    refine XS.goto X1885.here hx rfl (pc0 := 82) (pc' := 133) rfl (hb hby at_82) (by decide) (by decide) ?_
    refine XS.aload X1885.here hx rfl (hb hby at_133) rfl rfl ?_
    refine XS.ifnullNo X1885.here hx rfl (hb hby at_135) rfl ?_
    refine XS.aload X1885.here hx rfl (hb hby at_138) rfl rfl ?_
    exact k
   obtain ⟨cl1893, Ar1893, q1893, S1893, M1893, H1893, G1893⟩ := id Ob1885_1
   have pre1894 : own_P p e below T1885 (mkF m 151 #[vI p0, vI p1, vI p2, vI p3, vI p4, vI 3, vR b1861, vR b1885, vJ (own_u0 p0), .second, vI 1, .unset] []) s₁ (own_E m p0 p1 p2 p3 p4) := by
    intro t k
    refine pre1892 t ?_
    refine X1885.arraylength hx (by rw [e1885]; exact Ar1893.1) (State.isArrayOf_alike hZ.alike Ar1893.2.1) (g := (mkF m 140 #[vI p0, vI p1, vI p2, vI p3, vI p4, vI 3, vR b1861, vR b1885, vJ (own_u0 p0), .second, vI 1, .unset] [(.ref b1885)])) rfl rfl (hb hby at_140) _ ?_
    rw [len_of S1893 M1893]
    refine XS.iload X1885.here hx rfl (hb hby at_141) rfl ?_
    refine XS.iload X1885.here hx rfl (hb hby at_143) rfl ?_
    refine XS.iadd X1885.here hx rfl (hb hby at_145) rfl ?_
    refine XS.icmpYes X1885.here hx rfl (pc0 := 146) (pc' := 151) rfl (hb hby at_146) rfl (teq (by decide : (4 : Int32) = (4 : Int32))).1 (by decide) (by decide) ?_
    exact k
   obtain ⟨T1895, L1895, X1895, N1895, e1895, st1895⟩ := own_id1 X1885 hx hZ hw hby hml hown e1885 N1885 Z1885 (by decide) (by decide) Ob1885_1 (by decide) rfl
   have pre1896 : own_P p e below T1895 (mkF m 305 #[vI p0, vI p1, vI p2, vI p3, vI p4, vI 3, vR b1861, vR b1885, vJ (own_u0 p0), .second, vI 1, vI 1] []) s₁ (own_E m p0 p1 p2 p3 p4) := fun t k => pre1894 t (st1895 t k)
   obtain ⟨T1897, L1897, X1897, N1897, e1897, st1897⟩ := own_doc3 (nv := 1) X1895 hx hZ hw hby hml hown e1895 N1895 Z1885 (by decide) (by decide) Ob1885_1 (by decide) (by decide) (by decide) rfl rfl rfl
   have pre1898 : own_P p e below T1897 (mkF m 395 #[vI p0, vI p1, vI p2, vI p3, vI p4, vI 3, vR b1861, vR b1885, vJ (own_u0 p0), .second, vI 1, vI 1] [(.int 1)]) s₁ (own_E m p0 p1 p2 p3 p4) := fun t k => pre1896 t (st1897 t k)
   obtain ⟨fs, hr, hrun, hended, hW, hsame⟩ := X1897.leave (v := some (.int 1)) (fun h => by rw [Bd.returns] at h; cases h)
   refine ⟨_, _, pre1898 _ ?_, hrun, hended, _, _, rfl, ?_, ⟨_, rfl⟩, hW, hsame.mono (by decide) (by decide)⟩
   ·
    exact retN X1897 hx (t := .boolean) Bd.returns (by simp) (hb hby at_395) hr
   ·
    show Q0 Z p0 p1 p2 p3 p4 h0 n0 _ T1897.heap _
    rw [e1897]
    exact ⟨rfl, N1897⟩
  ·
   by_cases hu1 : (own_u0 p0) < (16384 : Int64)
   ·
    obtain ⟨cq1899, kq1899, q1899a, q1899b, q1899c⟩ := isOf hZ e1880 Q1880_0
    obtain ⟨_, _, ⟨T1899, L1899, k1899, n1899⟩, -, X1899, ⟨Lc1899, hQ1899, l1899, y1899, z1899⟩, st1899⟩ := X1880.virtualBack hx (y := (⟨own_CK, "write", "()[B"⟩ : MethodName)) (z := (⟨own_CK, "write", "()[B"⟩ : MethodName)) hown (mvT hZ (own_w hw 19 rfl)) (mvT hZ (own_w hw 20 rfl)) (notFace_of_selects (args := #[]) (mvT hZ (own_w hw 22 rfl))) (mvT hZ (own_w hw 22 rfl)) (mvT hZ (own_w hw 21 rfl)) (by decide) (backOf (W := 0) (rm4_2_3 l Z ar0 hw [] b1875 p0 b1861 k1861 (own_d p2) (own_d p3) (own_d p4) h1880 n0 Z1880 Q1880_1 Q1880_2 Vf1882 (fun q => hu0 ((own_z1 p0).1 q)) ((own_z2 p0).2 hu1)) hZ (own_w hw 23 rfl) (own_w hw 3 rfl) (by decide) (by decide)) q1899a q1899c (g := (mkF m 57 #[vI p0, vI p1, vI p2, vI p3, vI p4, vI 3, vR b1861, .unset, .unset, .unset, .unset, .unset] [(.ref b1875)])) rfl (by rw [hml]; rfl) (Steps.refl _) (argsL := []) (rest := []) (lenOf pd_6 rfl) rfl (by show 2 * 0 + _ ≤ _; exact Nat.le_of_eq rfl) (hb hby at_57) (fun _ _ => ⟨rfl, e1880, (by decide : 2 + 2 ≤ _), (by decide : 5 + 10 ≤ _)⟩)
    dsimp only [Pt.U, Pt.locs, Pt.cells, Pt.slots] at X1899 l1899 y1899 z1899 st1899 hQ1899
    subst l1899 y1899 z1899
    obtain ⟨h1899, e1899⟩ : ∃ h, T1899.heap = h := ⟨_, rfl⟩
    rw [e1899] at hQ1899
    obtain ⟨b1899, kb1899, rfl, N1899q, K1899q, y_b1899, Ob1899_0, Ob1899_1⟩ := hQ1899
    have N1899 := Fr.app N1880 N1899q
    have ne_b1861_b1899 : b1861 ≠ b1899 := Nat.ne_of_lt (Nat.lt_of_lt_of_le (Ef1881).lt y_b1899)
    have ne_b1875_b1899 : b1875 ≠ b1899 := Nat.ne_of_lt (Nat.lt_of_lt_of_le (Q1880_0).lt y_b1899)
    have g_b1899 : n0 ≤ b1899 := Nat.le_trans Z1880 y_b1899
    have sz_b1899 : h0.size ≤ b1899 := Nat.le_trans K1880.1 y_b1899
    have Z1899 : n0 ≤ h1899.size := Nat.le_trans Z1880 K1899q.1
    have K1899 : Keep h0 h1899 [] := K1880.trans K1899q (fun x hx => absurd hx List.not_mem_nil)
    have Ef1900 : Exa Z h1899 b1861 "[B" := (Ef1881).keep K1899q
    have Vf1901 : Arv Z h1899 b1861 k1861 .byte (3 : Int32) [(.int (own_d p2)), (.int (own_d p3)), (.int (own_d p4))] (.int 0) := (Vf1882).keep K1899q List.not_mem_nil
    have Ef1902 : Exa Z h1899 b1875 own_CK := (Q1880_0).keep K1899q
    have Ff1903 : Fld Z h1899 b1875 own_CK "collection" "I" (.int p0) := (Q1880_1).keep K1899q List.not_mem_nil
    have Ff1904 : Fld Z h1899 b1875 own_CK "documentKey" "[B" (.ref b1861) := (Q1880_2).keep K1899q List.not_mem_nil
    have pre1905 : own_P p e below T1899 (mkF m 60 #[vI p0, vI p1, vI p2, vI p3, vI p4, vI 3, vR b1861, .unset, .unset, .unset, .unset, .unset] [(.ref b1899)]) s₁ (own_E m p0 p1 p2 p3 p4) := fun t k => pre1884 t (st1899.trans k)
    have pre1906 : own_P p e below T1899 (mkF m 140 #[vI p0, vI p1, vI p2, vI p3, vI p4, vI 3, vR b1861, vR b1899, vJ (own_u0 p0), .second, vI 2, .unset] [(.ref b1899)]) s₁ (own_E m p0 p1 p2 p3 p4) := by
     intro t k
     refine pre1905 t ?_
     refine XS.astore X1899.here hx rfl (hb hby at_60) rfl rfl (l' := #[vI p0, vI p1, vI p2, vI p3, vI p4, vI 3, vR b1861, vR b1899, .unset, .unset, .unset, .unset]) rfl ?_
     refine XS.iloadN X1899.here hx rfl (hb hby at_62) rfl ?_
     refine XS.i2l X1899.here hx rfl (hb hby at_63) rfl ?_
     refine X1899.ldc2Long hx hown (mvT hZ (own_w hw 43 rfl)) (g := (mkF m 64 #[vI p0, vI p1, vI p2, vI p3, vI p4, vI 3, vR b1861, vR b1899, .unset, .unset, .unset, .unset] [(.long (p0.toInt64))])) rfl (hb hby at_64) _ ?_
     refine XS.land X1899.here hx rfl (hb hby at_67) rfl ?_
     refine XS.lstore X1899.here hx rfl (hb hby at_68) rfl (l' := #[vI p0, vI p1, vI p2, vI p3, vI p4, vI 3, vR b1861, vR b1899, vJ (own_u0 p0), .second, .unset, .unset]) rfl ?_
     refine XS.lload X1899.here hx rfl (hb hby at_70) rfl ?_
     refine X1899.ldc2Long hx hown (mvT hZ (own_w hw 44 rfl)) (g := (mkF m 72 #[vI p0, vI p1, vI p2, vI p3, vI p4, vI 3, vR b1861, vR b1899, vJ (own_u0 p0), .second, .unset, .unset] [(.long (own_u0 p0))])) rfl (hb hby at_72) _ ?_
     refine XS.lcmp X1899.here hx rfl (hb hby at_75) rfl ?_
     refine XS.ifYes X1899.here hx rfl (pc0 := 76) (pc' := 85) rfl (hb hby at_76) rfl ((if0 _ _).trans (flt (own_nltL hu0)).2.1) (by decide) (by decide) ?_
     refine XS.lload X1899.here hx rfl (hb hby at_85) rfl ?_
     refine X1899.ldc2Long hx hown (mvT hZ (own_w hw 50 rfl)) (g := (mkF m 87 #[vI p0, vI p1, vI p2, vI p3, vI p4, vI 3, vR b1861, vR b1899, vJ (own_u0 p0), .second, .unset, .unset] [(.long (own_u0 p0))])) rfl (hb hby at_87) _ ?_
     refine XS.lcmp X1899.here hx rfl (hb hby at_90) rfl ?_
     refine XS.ifNo X1899.here hx rfl (hb hby at_91) rfl ((if0 _ _).trans (tlt (own_ltL hu1)).2.1) ?_
     refine XS.iconst X1899.here hx rfl (hb hby at_94) ?_
     refine XS.istore X1899.here hx rfl (hb hby at_95) rfl (l' := #[vI p0, vI p1, vI p2, vI p3, vI p4, vI 3, vR b1861, vR b1899, vJ (own_u0 p0), .second, vI 2, .unset]) rfl ?_
     refine XS.goto X1899.here hx rfl (pc0 := 97) (pc' := 133) rfl (hb hby at_97) (by decide) (by decide) ?_
     refine XS.aload X1899.here hx rfl (hb hby at_133) rfl rfl ?_
     refine XS.ifnullNo X1899.here hx rfl (hb hby at_135) rfl ?_
     refine XS.aload X1899.here hx rfl (hb hby at_138) rfl rfl ?_
     exact k
    obtain ⟨cl1907, Ar1907, q1907, S1907, M1907, H1907, G1907⟩ := id Ob1899_1
    have pre1908 : own_P p e below T1899 (mkF m 151 #[vI p0, vI p1, vI p2, vI p3, vI p4, vI 3, vR b1861, vR b1899, vJ (own_u0 p0), .second, vI 2, .unset] []) s₁ (own_E m p0 p1 p2 p3 p4) := by
     intro t k
     refine pre1906 t ?_
     refine X1899.arraylength hx (by rw [e1899]; exact Ar1907.1) (State.isArrayOf_alike hZ.alike Ar1907.2.1) (g := (mkF m 140 #[vI p0, vI p1, vI p2, vI p3, vI p4, vI 3, vR b1861, vR b1899, vJ (own_u0 p0), .second, vI 2, .unset] [(.ref b1899)])) rfl rfl (hb hby at_140) _ ?_
     rw [len_of S1907 M1907]
     refine XS.iload X1899.here hx rfl (hb hby at_141) rfl ?_
     refine XS.iload X1899.here hx rfl (hb hby at_143) rfl ?_
     refine XS.iadd X1899.here hx rfl (hb hby at_145) rfl ?_
     refine XS.icmpYes X1899.here hx rfl (pc0 := 146) (pc' := 151) rfl (hb hby at_146) rfl (teq (by decide : (5 : Int32) = (5 : Int32))).1 (by decide) (by decide) ?_
     exact k
    obtain ⟨T1909, L1909, X1909, N1909, e1909, st1909⟩ := own_id2 X1899 hx hZ hw hby hml hown e1899 N1899 Z1899 (by decide) (by decide) Ob1899_1 (by decide) (by decide) rfl rfl
    have pre1910 : own_P p e below T1909 (mkF m 305 #[vI p0, vI p1, vI p2, vI p3, vI p4, vI 3, vR b1861, vR b1899, vJ (own_u0 p0), .second, vI 2, vI 1] []) s₁ (own_E m p0 p1 p2 p3 p4) := fun t k => pre1908 t (st1909 t k)
    obtain ⟨T1911, L1911, X1911, N1911, e1911, st1911⟩ := own_doc3 (nv := 2) X1909 hx hZ hw hby hml hown e1909 N1909 Z1899 (by decide) (by decide) Ob1899_1 (by decide) (by decide) (by decide) rfl rfl rfl
    have pre1912 : own_P p e below T1911 (mkF m 395 #[vI p0, vI p1, vI p2, vI p3, vI p4, vI 3, vR b1861, vR b1899, vJ (own_u0 p0), .second, vI 2, vI 1] [(.int 1)]) s₁ (own_E m p0 p1 p2 p3 p4) := fun t k => pre1910 t (st1911 t k)
    obtain ⟨fs, hr, hrun, hended, hW, hsame⟩ := X1911.leave (v := some (.int 1)) (fun h => by rw [Bd.returns] at h; cases h)
    refine ⟨_, _, pre1912 _ ?_, hrun, hended, _, _, rfl, ?_, ⟨_, rfl⟩, hW, hsame.mono (by decide) (by decide)⟩
    ·
     exact retN X1911 hx (t := .boolean) Bd.returns (by simp) (hb hby at_395) hr
    ·
     show Q0 Z p0 p1 p2 p3 p4 h0 n0 _ T1911.heap _
     rw [e1911]
     exact ⟨rfl, N1911⟩
   ·
    by_cases hu2 : (own_u0 p0) < (2097152 : Int64)
    ·
     obtain ⟨cq1913, kq1913, q1913a, q1913b, q1913c⟩ := isOf hZ e1880 Q1880_0
     obtain ⟨_, _, ⟨T1913, L1913, k1913, n1913⟩, -, X1913, ⟨Lc1913, hQ1913, l1913, y1913, z1913⟩, st1913⟩ := X1880.virtualBack hx (y := (⟨own_CK, "write", "()[B"⟩ : MethodName)) (z := (⟨own_CK, "write", "()[B"⟩ : MethodName)) hown (mvT hZ (own_w hw 19 rfl)) (mvT hZ (own_w hw 20 rfl)) (notFace_of_selects (args := #[]) (mvT hZ (own_w hw 22 rfl))) (mvT hZ (own_w hw 22 rfl)) (mvT hZ (own_w hw 21 rfl)) (by decide) (backOf (W := 0) (rm4_3_3 l Z ar0 hw [] b1875 p0 b1861 k1861 (own_d p2) (own_d p3) (own_d p4) h1880 n0 Z1880 Q1880_1 Q1880_2 Vf1882 (fun q => hu0 ((own_z1 p0).1 q)) (fun q => hu1 ((own_z2 p0).1 q)) ((own_z3 p0).2 hu2)) hZ (own_w hw 23 rfl) (own_w hw 3 rfl) (by decide) (by decide)) q1913a q1913c (g := (mkF m 57 #[vI p0, vI p1, vI p2, vI p3, vI p4, vI 3, vR b1861, .unset, .unset, .unset, .unset, .unset] [(.ref b1875)])) rfl (by rw [hml]; rfl) (Steps.refl _) (argsL := []) (rest := []) (lenOf pd_6 rfl) rfl (by show 2 * 0 + _ ≤ _; exact Nat.le_of_eq rfl) (hb hby at_57) (fun _ _ => ⟨rfl, e1880, (by decide : 2 + 2 ≤ _), (by decide : 5 + 11 ≤ _)⟩)
     dsimp only [Pt.U, Pt.locs, Pt.cells, Pt.slots] at X1913 l1913 y1913 z1913 st1913 hQ1913
     subst l1913 y1913 z1913
     obtain ⟨h1913, e1913⟩ : ∃ h, T1913.heap = h := ⟨_, rfl⟩
     rw [e1913] at hQ1913
     obtain ⟨b1913, kb1913, rfl, N1913q, K1913q, y_b1913, Ob1913_0, Ob1913_1⟩ := hQ1913
     have N1913 := Fr.app N1880 N1913q
     have ne_b1861_b1913 : b1861 ≠ b1913 := Nat.ne_of_lt (Nat.lt_of_lt_of_le (Ef1881).lt y_b1913)
     have ne_b1875_b1913 : b1875 ≠ b1913 := Nat.ne_of_lt (Nat.lt_of_lt_of_le (Q1880_0).lt y_b1913)
     have g_b1913 : n0 ≤ b1913 := Nat.le_trans Z1880 y_b1913
     have sz_b1913 : h0.size ≤ b1913 := Nat.le_trans K1880.1 y_b1913
     have Z1913 : n0 ≤ h1913.size := Nat.le_trans Z1880 K1913q.1
     have K1913 : Keep h0 h1913 [] := K1880.trans K1913q (fun x hx => absurd hx List.not_mem_nil)
     have Ef1914 : Exa Z h1913 b1861 "[B" := (Ef1881).keep K1913q
     have Vf1915 : Arv Z h1913 b1861 k1861 .byte (3 : Int32) [(.int (own_d p2)), (.int (own_d p3)), (.int (own_d p4))] (.int 0) := (Vf1882).keep K1913q List.not_mem_nil
     have Ef1916 : Exa Z h1913 b1875 own_CK := (Q1880_0).keep K1913q
     have Ff1917 : Fld Z h1913 b1875 own_CK "collection" "I" (.int p0) := (Q1880_1).keep K1913q List.not_mem_nil
     have Ff1918 : Fld Z h1913 b1875 own_CK "documentKey" "[B" (.ref b1861) := (Q1880_2).keep K1913q List.not_mem_nil
     have pre1919 : own_P p e below T1913 (mkF m 60 #[vI p0, vI p1, vI p2, vI p3, vI p4, vI 3, vR b1861, .unset, .unset, .unset, .unset, .unset] [(.ref b1913)]) s₁ (own_E m p0 p1 p2 p3 p4) := fun t k => pre1884 t (st1913.trans k)
     have pre1920 : own_P p e below T1913 (mkF m 140 #[vI p0, vI p1, vI p2, vI p3, vI p4, vI 3, vR b1861, vR b1913, vJ (own_u0 p0), .second, vI 3, .unset] [(.ref b1913)]) s₁ (own_E m p0 p1 p2 p3 p4) := by
      intro t k
      refine pre1919 t ?_
      refine XS.astore X1913.here hx rfl (hb hby at_60) rfl rfl (l' := #[vI p0, vI p1, vI p2, vI p3, vI p4, vI 3, vR b1861, vR b1913, .unset, .unset, .unset, .unset]) rfl ?_
      refine XS.iloadN X1913.here hx rfl (hb hby at_62) rfl ?_
      refine XS.i2l X1913.here hx rfl (hb hby at_63) rfl ?_
      refine X1913.ldc2Long hx hown (mvT hZ (own_w hw 43 rfl)) (g := (mkF m 64 #[vI p0, vI p1, vI p2, vI p3, vI p4, vI 3, vR b1861, vR b1913, .unset, .unset, .unset, .unset] [(.long (p0.toInt64))])) rfl (hb hby at_64) _ ?_
      refine XS.land X1913.here hx rfl (hb hby at_67) rfl ?_
      refine XS.lstore X1913.here hx rfl (hb hby at_68) rfl (l' := #[vI p0, vI p1, vI p2, vI p3, vI p4, vI 3, vR b1861, vR b1913, vJ (own_u0 p0), .second, .unset, .unset]) rfl ?_
      refine XS.lload X1913.here hx rfl (hb hby at_70) rfl ?_
      refine X1913.ldc2Long hx hown (mvT hZ (own_w hw 44 rfl)) (g := (mkF m 72 #[vI p0, vI p1, vI p2, vI p3, vI p4, vI 3, vR b1861, vR b1913, vJ (own_u0 p0), .second, .unset, .unset] [(.long (own_u0 p0))])) rfl (hb hby at_72) _ ?_
      refine XS.lcmp X1913.here hx rfl (hb hby at_75) rfl ?_
      refine XS.ifYes X1913.here hx rfl (pc0 := 76) (pc' := 85) rfl (hb hby at_76) rfl ((if0 _ _).trans (flt (own_nltL hu0)).2.1) (by decide) (by decide) ?_
      refine XS.lload X1913.here hx rfl (hb hby at_85) rfl ?_
      refine X1913.ldc2Long hx hown (mvT hZ (own_w hw 50 rfl)) (g := (mkF m 87 #[vI p0, vI p1, vI p2, vI p3, vI p4, vI 3, vR b1861, vR b1913, vJ (own_u0 p0), .second, .unset, .unset] [(.long (own_u0 p0))])) rfl (hb hby at_87) _ ?_
      refine XS.lcmp X1913.here hx rfl (hb hby at_90) rfl ?_
      refine XS.ifYes X1913.here hx rfl (pc0 := 91) (pc' := 100) rfl (hb hby at_91) rfl ((if0 _ _).trans (flt (own_nltL hu1)).2.1) (by decide) (by decide) ?_
      refine XS.lload X1913.here hx rfl (hb hby at_100) rfl ?_
      refine X1913.ldc2Long hx hown (mvT hZ (own_w hw 51 rfl)) (g := (mkF m 102 #[vI p0, vI p1, vI p2, vI p3, vI p4, vI 3, vR b1861, vR b1913, vJ (own_u0 p0), .second, .unset, .unset] [(.long (own_u0 p0))])) rfl (hb hby at_102) _ ?_
      refine XS.lcmp X1913.here hx rfl (hb hby at_105) rfl ?_
      refine XS.ifNo X1913.here hx rfl (hb hby at_106) rfl ((if0 _ _).trans (tlt (own_ltL hu2)).2.1) ?_
      refine XS.iconst X1913.here hx rfl (hb hby at_109) ?_
      refine XS.istore X1913.here hx rfl (hb hby at_110) rfl (l' := #[vI p0, vI p1, vI p2, vI p3, vI p4, vI 3, vR b1861, vR b1913, vJ (own_u0 p0), .second, vI 3, .unset]) rfl ?_
      refine XS.goto X1913.here hx rfl (pc0 := 112) (pc' := 133) rfl (hb hby at_112) (by decide) (by decide) ?_
      refine XS.aload X1913.here hx rfl (hb hby at_133) rfl rfl ?_
      refine XS.ifnullNo X1913.here hx rfl (hb hby at_135) rfl ?_
      refine XS.aload X1913.here hx rfl (hb hby at_138) rfl rfl ?_
      exact k
     obtain ⟨cl1921, Ar1921, q1921, S1921, M1921, H1921, G1921⟩ := id Ob1913_1
     have pre1922 : own_P p e below T1913 (mkF m 151 #[vI p0, vI p1, vI p2, vI p3, vI p4, vI 3, vR b1861, vR b1913, vJ (own_u0 p0), .second, vI 3, .unset] []) s₁ (own_E m p0 p1 p2 p3 p4) := by
      intro t k
      refine pre1920 t ?_
      refine X1913.arraylength hx (by rw [e1913]; exact Ar1921.1) (State.isArrayOf_alike hZ.alike Ar1921.2.1) (g := (mkF m 140 #[vI p0, vI p1, vI p2, vI p3, vI p4, vI 3, vR b1861, vR b1913, vJ (own_u0 p0), .second, vI 3, .unset] [(.ref b1913)])) rfl rfl (hb hby at_140) _ ?_
      rw [len_of S1921 M1921]
      refine XS.iload X1913.here hx rfl (hb hby at_141) rfl ?_
      refine XS.iload X1913.here hx rfl (hb hby at_143) rfl ?_
      refine XS.iadd X1913.here hx rfl (hb hby at_145) rfl ?_
      refine XS.icmpYes X1913.here hx rfl (pc0 := 146) (pc' := 151) rfl (hb hby at_146) rfl (teq (by decide : (6 : Int32) = (6 : Int32))).1 (by decide) (by decide) ?_
      exact k
     obtain ⟨T1923, L1923, X1923, N1923, e1923, st1923⟩ := own_id3 X1913 hx hZ hw hby hml hown e1913 N1913 Z1913 (by decide) (by decide) Ob1913_1 (by decide) (by decide) (by decide) rfl rfl rfl
     have pre1924 : own_P p e below T1923 (mkF m 305 #[vI p0, vI p1, vI p2, vI p3, vI p4, vI 3, vR b1861, vR b1913, vJ (own_u0 p0), .second, vI 3, vI 1] []) s₁ (own_E m p0 p1 p2 p3 p4) := fun t k => pre1922 t (st1923 t k)
     obtain ⟨T1925, L1925, X1925, N1925, e1925, st1925⟩ := own_doc3 (nv := 3) X1923 hx hZ hw hby hml hown e1923 N1923 Z1913 (by decide) (by decide) Ob1913_1 (by decide) (by decide) (by decide) rfl rfl rfl
     have pre1926 : own_P p e below T1925 (mkF m 395 #[vI p0, vI p1, vI p2, vI p3, vI p4, vI 3, vR b1861, vR b1913, vJ (own_u0 p0), .second, vI 3, vI 1] [(.int 1)]) s₁ (own_E m p0 p1 p2 p3 p4) := fun t k => pre1924 t (st1925 t k)
     obtain ⟨fs, hr, hrun, hended, hW, hsame⟩ := X1925.leave (v := some (.int 1)) (fun h => by rw [Bd.returns] at h; cases h)
     refine ⟨_, _, pre1926 _ ?_, hrun, hended, _, _, rfl, ?_, ⟨_, rfl⟩, hW, hsame.mono (by decide) (by decide)⟩
     ·
      exact retN X1925 hx (t := .boolean) Bd.returns (by simp) (hb hby at_395) hr
     ·
      show Q0 Z p0 p1 p2 p3 p4 h0 n0 _ T1925.heap _
      rw [e1925]
      exact ⟨rfl, N1925⟩
    ·
     by_cases hu3 : (own_u0 p0) < (268435456 : Int64)
     ·
      obtain ⟨cq1927, kq1927, q1927a, q1927b, q1927c⟩ := isOf hZ e1880 Q1880_0
      obtain ⟨_, _, ⟨T1927, L1927, k1927, n1927⟩, -, X1927, ⟨Lc1927, hQ1927, l1927, y1927, z1927⟩, st1927⟩ := X1880.virtualBack hx (y := (⟨own_CK, "write", "()[B"⟩ : MethodName)) (z := (⟨own_CK, "write", "()[B"⟩ : MethodName)) hown (mvT hZ (own_w hw 19 rfl)) (mvT hZ (own_w hw 20 rfl)) (notFace_of_selects (args := #[]) (mvT hZ (own_w hw 22 rfl))) (mvT hZ (own_w hw 22 rfl)) (mvT hZ (own_w hw 21 rfl)) (by decide) (backOf (W := 0) (rm4_4_3 l Z ar0 hw [] b1875 p0 b1861 k1861 (own_d p2) (own_d p3) (own_d p4) h1880 n0 Z1880 Q1880_1 Q1880_2 Vf1882 (fun q => hu0 ((own_z1 p0).1 q)) (fun q => hu1 ((own_z2 p0).1 q)) (fun q => hu2 ((own_z3 p0).1 q)) ((own_z4 p0).2 hu3)) hZ (own_w hw 23 rfl) (own_w hw 3 rfl) (by decide) (by decide)) q1927a q1927c (g := (mkF m 57 #[vI p0, vI p1, vI p2, vI p3, vI p4, vI 3, vR b1861, .unset, .unset, .unset, .unset, .unset] [(.ref b1875)])) rfl (by rw [hml]; rfl) (Steps.refl _) (argsL := []) (rest := []) (lenOf pd_6 rfl) rfl (by show 2 * 0 + _ ≤ _; exact Nat.le_of_eq rfl) (hb hby at_57) (fun _ _ => ⟨rfl, e1880, (by decide : 2 + 2 ≤ _), (by decide : 5 + 12 ≤ _)⟩)
      dsimp only [Pt.U, Pt.locs, Pt.cells, Pt.slots] at X1927 l1927 y1927 z1927 st1927 hQ1927
      subst l1927 y1927 z1927
      obtain ⟨h1927, e1927⟩ : ∃ h, T1927.heap = h := ⟨_, rfl⟩
      rw [e1927] at hQ1927
      obtain ⟨b1927, kb1927, rfl, N1927q, K1927q, y_b1927, Ob1927_0, Ob1927_1⟩ := hQ1927
      have N1927 := Fr.app N1880 N1927q
      have ne_b1861_b1927 : b1861 ≠ b1927 := Nat.ne_of_lt (Nat.lt_of_lt_of_le (Ef1881).lt y_b1927)
      have ne_b1875_b1927 : b1875 ≠ b1927 := Nat.ne_of_lt (Nat.lt_of_lt_of_le (Q1880_0).lt y_b1927)
      have g_b1927 : n0 ≤ b1927 := Nat.le_trans Z1880 y_b1927
      have sz_b1927 : h0.size ≤ b1927 := Nat.le_trans K1880.1 y_b1927
      have Z1927 : n0 ≤ h1927.size := Nat.le_trans Z1880 K1927q.1
      have K1927 : Keep h0 h1927 [] := K1880.trans K1927q (fun x hx => absurd hx List.not_mem_nil)
      have Ef1928 : Exa Z h1927 b1861 "[B" := (Ef1881).keep K1927q
      have Vf1929 : Arv Z h1927 b1861 k1861 .byte (3 : Int32) [(.int (own_d p2)), (.int (own_d p3)), (.int (own_d p4))] (.int 0) := (Vf1882).keep K1927q List.not_mem_nil
      have Ef1930 : Exa Z h1927 b1875 own_CK := (Q1880_0).keep K1927q
      have Ff1931 : Fld Z h1927 b1875 own_CK "collection" "I" (.int p0) := (Q1880_1).keep K1927q List.not_mem_nil
      have Ff1932 : Fld Z h1927 b1875 own_CK "documentKey" "[B" (.ref b1861) := (Q1880_2).keep K1927q List.not_mem_nil
      have pre1933 : own_P p e below T1927 (mkF m 60 #[vI p0, vI p1, vI p2, vI p3, vI p4, vI 3, vR b1861, .unset, .unset, .unset, .unset, .unset] [(.ref b1927)]) s₁ (own_E m p0 p1 p2 p3 p4) := fun t k => pre1884 t (st1927.trans k)
      have pre1934 : own_P p e below T1927 (mkF m 140 #[vI p0, vI p1, vI p2, vI p3, vI p4, vI 3, vR b1861, vR b1927, vJ (own_u0 p0), .second, vI 4, .unset] [(.ref b1927)]) s₁ (own_E m p0 p1 p2 p3 p4) := by
       intro t k
       refine pre1933 t ?_
       refine XS.astore X1927.here hx rfl (hb hby at_60) rfl rfl (l' := #[vI p0, vI p1, vI p2, vI p3, vI p4, vI 3, vR b1861, vR b1927, .unset, .unset, .unset, .unset]) rfl ?_
       refine XS.iloadN X1927.here hx rfl (hb hby at_62) rfl ?_
       refine XS.i2l X1927.here hx rfl (hb hby at_63) rfl ?_
       refine X1927.ldc2Long hx hown (mvT hZ (own_w hw 43 rfl)) (g := (mkF m 64 #[vI p0, vI p1, vI p2, vI p3, vI p4, vI 3, vR b1861, vR b1927, .unset, .unset, .unset, .unset] [(.long (p0.toInt64))])) rfl (hb hby at_64) _ ?_
       refine XS.land X1927.here hx rfl (hb hby at_67) rfl ?_
       refine XS.lstore X1927.here hx rfl (hb hby at_68) rfl (l' := #[vI p0, vI p1, vI p2, vI p3, vI p4, vI 3, vR b1861, vR b1927, vJ (own_u0 p0), .second, .unset, .unset]) rfl ?_
       refine XS.lload X1927.here hx rfl (hb hby at_70) rfl ?_
       refine X1927.ldc2Long hx hown (mvT hZ (own_w hw 44 rfl)) (g := (mkF m 72 #[vI p0, vI p1, vI p2, vI p3, vI p4, vI 3, vR b1861, vR b1927, vJ (own_u0 p0), .second, .unset, .unset] [(.long (own_u0 p0))])) rfl (hb hby at_72) _ ?_
       refine XS.lcmp X1927.here hx rfl (hb hby at_75) rfl ?_
       refine XS.ifYes X1927.here hx rfl (pc0 := 76) (pc' := 85) rfl (hb hby at_76) rfl ((if0 _ _).trans (flt (own_nltL hu0)).2.1) (by decide) (by decide) ?_
       refine XS.lload X1927.here hx rfl (hb hby at_85) rfl ?_
       refine X1927.ldc2Long hx hown (mvT hZ (own_w hw 50 rfl)) (g := (mkF m 87 #[vI p0, vI p1, vI p2, vI p3, vI p4, vI 3, vR b1861, vR b1927, vJ (own_u0 p0), .second, .unset, .unset] [(.long (own_u0 p0))])) rfl (hb hby at_87) _ ?_
       refine XS.lcmp X1927.here hx rfl (hb hby at_90) rfl ?_
       refine XS.ifYes X1927.here hx rfl (pc0 := 91) (pc' := 100) rfl (hb hby at_91) rfl ((if0 _ _).trans (flt (own_nltL hu1)).2.1) (by decide) (by decide) ?_
       refine XS.lload X1927.here hx rfl (hb hby at_100) rfl ?_
       refine X1927.ldc2Long hx hown (mvT hZ (own_w hw 51 rfl)) (g := (mkF m 102 #[vI p0, vI p1, vI p2, vI p3, vI p4, vI 3, vR b1861, vR b1927, vJ (own_u0 p0), .second, .unset, .unset] [(.long (own_u0 p0))])) rfl (hb hby at_102) _ ?_
       refine XS.lcmp X1927.here hx rfl (hb hby at_105) rfl ?_
       refine XS.ifYes X1927.here hx rfl (pc0 := 106) (pc' := 115) rfl (hb hby at_106) rfl ((if0 _ _).trans (flt (own_nltL hu2)).2.1) (by decide) (by decide) ?_
       refine XS.lload X1927.here hx rfl (hb hby at_115) rfl ?_
       refine X1927.ldc2Long hx hown (mvT hZ (own_w hw 52 rfl)) (g := (mkF m 117 #[vI p0, vI p1, vI p2, vI p3, vI p4, vI 3, vR b1861, vR b1927, vJ (own_u0 p0), .second, .unset, .unset] [(.long (own_u0 p0))])) rfl (hb hby at_117) _ ?_
       refine XS.lcmp X1927.here hx rfl (hb hby at_120) rfl ?_
       refine XS.ifNo X1927.here hx rfl (hb hby at_121) rfl ((if0 _ _).trans (tlt (own_ltL hu3)).2.1) ?_
       refine XS.iconst X1927.here hx rfl (hb hby at_124) ?_
       refine XS.istore X1927.here hx rfl (hb hby at_125) rfl (l' := #[vI p0, vI p1, vI p2, vI p3, vI p4, vI 3, vR b1861, vR b1927, vJ (own_u0 p0), .second, vI 4, .unset]) rfl ?_
       refine XS.goto X1927.here hx rfl (pc0 := 127) (pc' := 133) rfl (hb hby at_127) (by decide) (by decide) ?_
       refine XS.aload X1927.here hx rfl (hb hby at_133) rfl rfl ?_
       refine XS.ifnullNo X1927.here hx rfl (hb hby at_135) rfl ?_
       refine XS.aload X1927.here hx rfl (hb hby at_138) rfl rfl ?_
       exact k
      obtain ⟨cl1935, Ar1935, q1935, S1935, M1935, H1935, G1935⟩ := id Ob1927_1
      have pre1936 : own_P p e below T1927 (mkF m 151 #[vI p0, vI p1, vI p2, vI p3, vI p4, vI 3, vR b1861, vR b1927, vJ (own_u0 p0), .second, vI 4, .unset] []) s₁ (own_E m p0 p1 p2 p3 p4) := by
       intro t k
       refine pre1934 t ?_
       refine X1927.arraylength hx (by rw [e1927]; exact Ar1935.1) (State.isArrayOf_alike hZ.alike Ar1935.2.1) (g := (mkF m 140 #[vI p0, vI p1, vI p2, vI p3, vI p4, vI 3, vR b1861, vR b1927, vJ (own_u0 p0), .second, vI 4, .unset] [(.ref b1927)])) rfl rfl (hb hby at_140) _ ?_
       rw [len_of S1935 M1935]
       refine XS.iload X1927.here hx rfl (hb hby at_141) rfl ?_
       refine XS.iload X1927.here hx rfl (hb hby at_143) rfl ?_
       refine XS.iadd X1927.here hx rfl (hb hby at_145) rfl ?_
       refine XS.icmpYes X1927.here hx rfl (pc0 := 146) (pc' := 151) rfl (hb hby at_146) rfl (teq (by decide : (7 : Int32) = (7 : Int32))).1 (by decide) (by decide) ?_
       exact k
      obtain ⟨T1937, L1937, X1937, N1937, e1937, st1937⟩ := own_id4 X1927 hx hZ hw hby hml hown e1927 N1927 Z1927 (by decide) (by decide) Ob1927_1 (by decide) (by decide) (by decide) (by decide) rfl rfl rfl rfl
      have pre1938 : own_P p e below T1937 (mkF m 305 #[vI p0, vI p1, vI p2, vI p3, vI p4, vI 3, vR b1861, vR b1927, vJ (own_u0 p0), .second, vI 4, vI 1] []) s₁ (own_E m p0 p1 p2 p3 p4) := fun t k => pre1936 t (st1937 t k)
      obtain ⟨T1939, L1939, X1939, N1939, e1939, st1939⟩ := own_doc3 (nv := 4) X1937 hx hZ hw hby hml hown e1937 N1937 Z1927 (by decide) (by decide) Ob1927_1 (by decide) (by decide) (by decide) rfl rfl rfl
      have pre1940 : own_P p e below T1939 (mkF m 395 #[vI p0, vI p1, vI p2, vI p3, vI p4, vI 3, vR b1861, vR b1927, vJ (own_u0 p0), .second, vI 4, vI 1] [(.int 1)]) s₁ (own_E m p0 p1 p2 p3 p4) := fun t k => pre1938 t (st1939 t k)
      obtain ⟨fs, hr, hrun, hended, hW, hsame⟩ := X1939.leave (v := some (.int 1)) (fun h => by rw [Bd.returns] at h; cases h)
      refine ⟨_, _, pre1940 _ ?_, hrun, hended, _, _, rfl, ?_, ⟨_, rfl⟩, hW, hsame.mono (by decide) (by decide)⟩
      ·
       exact retN X1939 hx (t := .boolean) Bd.returns (by simp) (hb hby at_395) hr
      ·
       show Q0 Z p0 p1 p2 p3 p4 h0 n0 _ T1939.heap _
       rw [e1939]
       exact ⟨rfl, N1939⟩
     ·
      obtain ⟨cq1941, kq1941, q1941a, q1941b, q1941c⟩ := isOf hZ e1880 Q1880_0
      obtain ⟨_, _, ⟨T1941, L1941, k1941, n1941⟩, -, X1941, ⟨Lc1941, hQ1941, l1941, y1941, z1941⟩, st1941⟩ := X1880.virtualBack hx (y := (⟨own_CK, "write", "()[B"⟩ : MethodName)) (z := (⟨own_CK, "write", "()[B"⟩ : MethodName)) hown (mvT hZ (own_w hw 19 rfl)) (mvT hZ (own_w hw 20 rfl)) (notFace_of_selects (args := #[]) (mvT hZ (own_w hw 22 rfl))) (mvT hZ (own_w hw 22 rfl)) (mvT hZ (own_w hw 21 rfl)) (by decide) (backOf (W := 0) (rm4_5_3 l Z ar0 hw [] b1875 p0 b1861 k1861 (own_d p2) (own_d p3) (own_d p4) h1880 n0 Z1880 Q1880_1 Q1880_2 Vf1882 (fun q => hu0 ((own_z1 p0).1 q)) (fun q => hu1 ((own_z2 p0).1 q)) (fun q => hu2 ((own_z3 p0).1 q)) (fun q => hu3 ((own_z4 p0).1 q)) (own_z5 p0)) hZ (own_w hw 23 rfl) (own_w hw 3 rfl) (by decide) (by decide)) q1941a q1941c (g := (mkF m 57 #[vI p0, vI p1, vI p2, vI p3, vI p4, vI 3, vR b1861, .unset, .unset, .unset, .unset, .unset] [(.ref b1875)])) rfl (by rw [hml]; rfl) (Steps.refl _) (argsL := []) (rest := []) (lenOf pd_6 rfl) rfl (by show 2 * 0 + _ ≤ _; exact Nat.le_of_eq rfl) (hb hby at_57) (fun _ _ => ⟨rfl, e1880, (by decide : 2 + 2 ≤ _), (by decide : 5 + 13 ≤ _)⟩)
      dsimp only [Pt.U, Pt.locs, Pt.cells, Pt.slots] at X1941 l1941 y1941 z1941 st1941 hQ1941
      subst l1941 y1941 z1941
      obtain ⟨h1941, e1941⟩ : ∃ h, T1941.heap = h := ⟨_, rfl⟩
      rw [e1941] at hQ1941
      obtain ⟨b1941, kb1941, rfl, N1941q, K1941q, y_b1941, Ob1941_0, Ob1941_1⟩ := hQ1941
      have N1941 := Fr.app N1880 N1941q
      have ne_b1861_b1941 : b1861 ≠ b1941 := Nat.ne_of_lt (Nat.lt_of_lt_of_le (Ef1881).lt y_b1941)
      have ne_b1875_b1941 : b1875 ≠ b1941 := Nat.ne_of_lt (Nat.lt_of_lt_of_le (Q1880_0).lt y_b1941)
      have g_b1941 : n0 ≤ b1941 := Nat.le_trans Z1880 y_b1941
      have sz_b1941 : h0.size ≤ b1941 := Nat.le_trans K1880.1 y_b1941
      have Z1941 : n0 ≤ h1941.size := Nat.le_trans Z1880 K1941q.1
      have K1941 : Keep h0 h1941 [] := K1880.trans K1941q (fun x hx => absurd hx List.not_mem_nil)
      have Ef1942 : Exa Z h1941 b1861 "[B" := (Ef1881).keep K1941q
      have Vf1943 : Arv Z h1941 b1861 k1861 .byte (3 : Int32) [(.int (own_d p2)), (.int (own_d p3)), (.int (own_d p4))] (.int 0) := (Vf1882).keep K1941q List.not_mem_nil
      have Ef1944 : Exa Z h1941 b1875 own_CK := (Q1880_0).keep K1941q
      have Ff1945 : Fld Z h1941 b1875 own_CK "collection" "I" (.int p0) := (Q1880_1).keep K1941q List.not_mem_nil
      have Ff1946 : Fld Z h1941 b1875 own_CK "documentKey" "[B" (.ref b1861) := (Q1880_2).keep K1941q List.not_mem_nil
      have pre1947 : own_P p e below T1941 (mkF m 60 #[vI p0, vI p1, vI p2, vI p3, vI p4, vI 3, vR b1861, .unset, .unset, .unset, .unset, .unset] [(.ref b1941)]) s₁ (own_E m p0 p1 p2 p3 p4) := fun t k => pre1884 t (st1941.trans k)
      have pre1948 : own_P p e below T1941 (mkF m 140 #[vI p0, vI p1, vI p2, vI p3, vI p4, vI 3, vR b1861, vR b1941, vJ (own_u0 p0), .second, vI 5, .unset] [(.ref b1941)]) s₁ (own_E m p0 p1 p2 p3 p4) := by
       intro t k
       refine pre1947 t ?_
       refine XS.astore X1941.here hx rfl (hb hby at_60) rfl rfl (l' := #[vI p0, vI p1, vI p2, vI p3, vI p4, vI 3, vR b1861, vR b1941, .unset, .unset, .unset, .unset]) rfl ?_
       refine XS.iloadN X1941.here hx rfl (hb hby at_62) rfl ?_
       refine XS.i2l X1941.here hx rfl (hb hby at_63) rfl ?_
       refine X1941.ldc2Long hx hown (mvT hZ (own_w hw 43 rfl)) (g := (mkF m 64 #[vI p0, vI p1, vI p2, vI p3, vI p4, vI 3, vR b1861, vR b1941, .unset, .unset, .unset, .unset] [(.long (p0.toInt64))])) rfl (hb hby at_64) _ ?_
       refine XS.land X1941.here hx rfl (hb hby at_67) rfl ?_
       refine XS.lstore X1941.here hx rfl (hb hby at_68) rfl (l' := #[vI p0, vI p1, vI p2, vI p3, vI p4, vI 3, vR b1861, vR b1941, vJ (own_u0 p0), .second, .unset, .unset]) rfl ?_
       refine XS.lload X1941.here hx rfl (hb hby at_70) rfl ?_
       refine X1941.ldc2Long hx hown (mvT hZ (own_w hw 44 rfl)) (g := (mkF m 72 #[vI p0, vI p1, vI p2, vI p3, vI p4, vI 3, vR b1861, vR b1941, vJ (own_u0 p0), .second, .unset, .unset] [(.long (own_u0 p0))])) rfl (hb hby at_72) _ ?_
       refine XS.lcmp X1941.here hx rfl (hb hby at_75) rfl ?_
       refine XS.ifYes X1941.here hx rfl (pc0 := 76) (pc' := 85) rfl (hb hby at_76) rfl ((if0 _ _).trans (flt (own_nltL hu0)).2.1) (by decide) (by decide) ?_
       refine XS.lload X1941.here hx rfl (hb hby at_85) rfl ?_
       refine X1941.ldc2Long hx hown (mvT hZ (own_w hw 50 rfl)) (g := (mkF m 87 #[vI p0, vI p1, vI p2, vI p3, vI p4, vI 3, vR b1861, vR b1941, vJ (own_u0 p0), .second, .unset, .unset] [(.long (own_u0 p0))])) rfl (hb hby at_87) _ ?_
       refine XS.lcmp X1941.here hx rfl (hb hby at_90) rfl ?_
       refine XS.ifYes X1941.here hx rfl (pc0 := 91) (pc' := 100) rfl (hb hby at_91) rfl ((if0 _ _).trans (flt (own_nltL hu1)).2.1) (by decide) (by decide) ?_
       refine XS.lload X1941.here hx rfl (hb hby at_100) rfl ?_
       refine X1941.ldc2Long hx hown (mvT hZ (own_w hw 51 rfl)) (g := (mkF m 102 #[vI p0, vI p1, vI p2, vI p3, vI p4, vI 3, vR b1861, vR b1941, vJ (own_u0 p0), .second, .unset, .unset] [(.long (own_u0 p0))])) rfl (hb hby at_102) _ ?_
       refine XS.lcmp X1941.here hx rfl (hb hby at_105) rfl ?_
       refine XS.ifYes X1941.here hx rfl (pc0 := 106) (pc' := 115) rfl (hb hby at_106) rfl ((if0 _ _).trans (flt (own_nltL hu2)).2.1) (by decide) (by decide) ?_
       refine XS.lload X1941.here hx rfl (hb hby at_115) rfl ?_
       refine X1941.ldc2Long hx hown (mvT hZ (own_w hw 52 rfl)) (g := (mkF m 117 #[vI p0, vI p1, vI p2, vI p3, vI p4, vI 3, vR b1861, vR b1941, vJ (own_u0 p0), .second, .unset, .unset] [(.long (own_u0 p0))])) rfl (hb hby at_117) _ ?_
       refine XS.lcmp X1941.here hx rfl (hb hby at_120) rfl ?_
       refine XS.ifYes X1941.here hx rfl (pc0 := 121) (pc' := 130) rfl (hb hby at_121) rfl ((if0 _ _).trans (flt (own_nltL hu3)).2.1) (by decide) (by decide) ?_
       refine XS.iconst X1941.here hx rfl (hb hby at_130) ?_
       refine XS.istore X1941.here hx rfl (hb hby at_131) rfl (l' := #[vI p0, vI p1, vI p2, vI p3, vI p4, vI 3, vR b1861, vR b1941, vJ (own_u0 p0), .second, vI 5, .unset]) rfl ?_
       refine XS.aload X1941.here hx rfl (hb hby at_133) rfl rfl ?_
       refine XS.ifnullNo X1941.here hx rfl (hb hby at_135) rfl ?_
       refine XS.aload X1941.here hx rfl (hb hby at_138) rfl rfl ?_
       exact k
      obtain ⟨cl1949, Ar1949, q1949, S1949, M1949, H1949, G1949⟩ := id Ob1941_1
      have pre1950 : own_P p e below T1941 (mkF m 151 #[vI p0, vI p1, vI p2, vI p3, vI p4, vI 3, vR b1861, vR b1941, vJ (own_u0 p0), .second, vI 5, .unset] []) s₁ (own_E m p0 p1 p2 p3 p4) := by
       intro t k
       refine pre1948 t ?_
       refine X1941.arraylength hx (by rw [e1941]; exact Ar1949.1) (State.isArrayOf_alike hZ.alike Ar1949.2.1) (g := (mkF m 140 #[vI p0, vI p1, vI p2, vI p3, vI p4, vI 3, vR b1861, vR b1941, vJ (own_u0 p0), .second, vI 5, .unset] [(.ref b1941)])) rfl rfl (hb hby at_140) _ ?_
       rw [len_of S1949 M1949]
       refine XS.iload X1941.here hx rfl (hb hby at_141) rfl ?_
       refine XS.iload X1941.here hx rfl (hb hby at_143) rfl ?_
       refine XS.iadd X1941.here hx rfl (hb hby at_145) rfl ?_
       refine XS.icmpYes X1941.here hx rfl (pc0 := 146) (pc' := 151) rfl (hb hby at_146) rfl (teq (by decide : (8 : Int32) = (8 : Int32))).1 (by decide) (by decide) ?_
       exact k
      obtain ⟨T1951, L1951, X1951, N1951, e1951, st1951⟩ := own_id5 X1941 hx hZ hw hby hml hown e1941 N1941 Z1941 (by decide) (by decide) Ob1941_1 (by decide) (by decide) (by decide) (by decide) (by decide) rfl rfl rfl rfl rfl
      have pre1952 : own_P p e below T1951 (mkF m 305 #[vI p0, vI p1, vI p2, vI p3, vI p4, vI 3, vR b1861, vR b1941, vJ (own_u0 p0), .second, vI 5, vI 1] []) s₁ (own_E m p0 p1 p2 p3 p4) := fun t k => pre1950 t (st1951 t k)
      obtain ⟨T1953, L1953, X1953, N1953, e1953, st1953⟩ := own_doc3 (nv := 5) X1951 hx hZ hw hby hml hown e1951 N1951 Z1941 (by decide) (by decide) Ob1941_1 (by decide) (by decide) (by decide) rfl rfl rfl
      have pre1954 : own_P p e below T1953 (mkF m 395 #[vI p0, vI p1, vI p2, vI p3, vI p4, vI 3, vR b1861, vR b1941, vJ (own_u0 p0), .second, vI 5, vI 1] [(.int 1)]) s₁ (own_E m p0 p1 p2 p3 p4) := fun t k => pre1952 t (st1953 t k)
      obtain ⟨fs, hr, hrun, hended, hW, hsame⟩ := X1953.leave (v := some (.int 1)) (fun h => by rw [Bd.returns] at h; cases h)
      refine ⟨_, _, pre1954 _ ?_, hrun, hended, _, _, rfl, ?_, ⟨_, rfl⟩, hW, hsame.mono (by decide) (by decide)⟩
      ·
       exact retN X1953 hx (t := .boolean) Bd.returns (by simp) (hb hby at_395) hr
      ·
       show Q0 Z p0 p1 p2 p3 p4 h0 n0 _ T1953.heap _
       rw [e1953]
       exact ⟨rfl, N1953⟩
set_option maxRecDepth 65536 in
set_option maxHeartbeats 40000000 in
theorem comes_1 {Post : Tables → Env → Array Value → State → Outcome → State → Prop} (hpost : ∀ tb e args s v u, (limb_1_1.after args s (.returned v) u = true ∧ limb_1_2.after args s (.returned v) u = true ∧ True) → FrameEnd s (.returned v) u (Jvm.fieldLocs frame_1_writes args s ++ Jvm.arrayLocs frame_1_arrays args s ++ Jvm.staticLocs frame_1_statics s) 16 128 → Post tb e args s (.returned v) u) :
  ArmFor flags0 classFile x code maxLocals ret World_1 tables_1 room_1 Calls_1 rest_1 Pre_1 Post := by
 intro l hfl _ _ p e ha hc hk s m args below hf hA hF happ hP
 obtain ⟨hcalls, hrest, hpre⟩ := hP
 obtain ⟨-, -, -, hnamed, -, -, -, hat⟩ := (Spec.applies_iff hf).mp happ
 obtain ⟨hg, hn⟩ := and_e (Cond.before_iff.mp (show (Jvm.Cond.and given_1 narrow_1).before args s = true from hpre))
 obtain ⟨hcount, hg0⟩ := and_e hg
 obtain ⟨ha0, hg1⟩ := and_e hg0
 obtain ⟨ha1, hg2⟩ := and_e hg1
 obtain ⟨ha2, hg3⟩ := and_e hg2
 obtain ⟨ha3, hg4⟩ := and_e hg3
 have ha4 := hg4
 obtain ⟨w0, w1, w2, w3, w4, rfl⟩ : ∃ w0 w1 w2 w3 w4 : Value, args = #[w0, w1, w2, w3, w4] := by
  have hs : args.size = 5 := by simpa [Cond.value, given_1] using hcount
  obtain ⟨L⟩ := args
  match L, hs with
  | [w0, w1, w2, w3, w4], _ => exact ⟨w0, w1, w2, w3, w4, rfl⟩
 have hw := fun d (hd : d ∈ tables_1) => atoms_spec (ws := Jvm.Cond.code x code maxLocals ret :: tables_1) hat d (List.mem_cons_of_mem _ hd)
 have hfit : Fit s := fun {y c} hc i hi => by
  obtain ⟨ha, rfl⟩ := Array.getElem?_eq_some_iff.mp hc
  have q := List.all_eq_true.mp ((Array.all_eq_true_iff_forall_mem.mp hF) _ (Array.getElem_mem ha)) i (List.mem_range.mpr hi)
  simpa [Array.getElem?_eq_getElem hi] using q
 obtain ⟨i0, ei0⟩ := is_v ha0
 obtain rfl : w0 = (.int i0) := Option.some.inj ei0
 obtain ⟨i1, ei1⟩ := is_v ha1
 obtain rfl : w1 = (.int i1) := Option.some.inj ei1
 obtain ⟨i2, ei2⟩ := is_v ha2
 obtain rfl : w2 = (.int i2) := Option.some.inj ei2
 obtain ⟨i3, ei3⟩ := is_v ha3
 obtain rfl : w3 = (.int i3) := Option.some.inj ei3
 obtain ⟨i4, ei4⟩ := is_v ha4
 obtain rfl : w4 = (.int i4) := Option.some.inj ei4
 obtain ⟨n, o, h1, h2, h3, _, L, rfl, ⟨rfl, N⟩, hq⟩ := rm0 l s _ hw tables_1 i0 i1 i2 i3 i4 s.heap s.heap.size (Nat.le_refl _) p e ha hc hk s m _ below hf ((Spec.applies_iff_loose hf).mp happ).1 ⟨rfl, State.Warmed39.refl s, rfl⟩ trivial
 refine ⟨n, _, h1, h2, h3, hpost _ _ _ _ _ _ ⟨Cond.after_iff.mpr rfl, Cond.after_iff.mpr (eq_i res_at (Term.int_eval (1)) rfl), trivial⟩ ⟨hq.1, hq.2.1, (hq.2.2.sift fun y hy => Or.inr (N y hy)).mono (by decide) (by decide)⟩⟩
theorem main_1_1 : Claimed_1_1 := comes_1 fun _ _ _ _ _ _ h hF => ⟨h.1, hF⟩
theorem main_1_2 : Claimed_1_2 := comes_1 fun _ _ _ _ _ _ h hF => ⟨h.2.1, hF⟩
end Jvm.Pilot.@@N@@
namespace Jvm.Pilot.@@N@@
open Jvm Jvm.ClassFile Sem Op Lib Jvm.Free Jvm.Stand Jvm.Pilot.@@N@@.Jvm.D
/-! MADE BY PROGRAM (witnessworld.py) out of the Statement's table words and the real class files: 18 classes; the members and pool entries that the words name. The judged class is class 1, her method 1. -/
namespace start1
open Jvm.ClassFile
def u (s : String) : CpInfo := .utf8 (stringToUtf16 s)
/-- a pool by its gaps: so many unusable entries, then the entry; so many at the end -/
def gap : Nat → List CpInfo → List CpInfo
  | 0, r => r
  | n + 1, r => .unusable :: gap n r
def poolList (es : List (Nat × CpInfo)) (last : Nat) : List CpInfo := es.foldr (fun e r => gap e.1 (e.2 :: r)) (gap last [])
def pool (es : List (Nat × CpInfo)) (last : Nat) : Array CpInfo := ⟨poolList es last⟩
def fileOf (pool : Array CpInfo) (this : Nat) (attrs : Array Attribute := #[]) (ms : Array MethodInfo := #[]) (fl : Nat := 33) (sup : Nat := 0) (ifs : Array Nat := #[]) (fds : Array FieldInfo := #[]) : ClassFile where
  minorVersion := 0
  majorVersion := 65
  constantPool := pool
  accessFlags := fl
  thisClass := this
  superClass := sup
  interfaces := ifs
  fields := fds
  methods := ms
  attributes := attrs
def plain (name : String) (sup : Option ClassId) : Class where
  name := name
  kind := .ordinary
  loader := none
  accessFlags := 33
  super := sup
  interfaces := #[]
  cf := none
  fields := #[]
  methods := #[]
  instanceTypes := #[]
  staticTypes := #[]
  resolved := #[]
  callSites := []
  init := .initialized
  statics := none
  mirror := none

def pool0 : Array CpInfo := pool [(5, u "<init>"), (0, u "()V"), (1, .class_ 10), (1, u "java/lang/Object"), (85, u "clone"), (0, u "()Ljava/lang/Object;")] 26

def k0c0 : Code := { maxStack := 0, maxLocals := 1, code := object_method_1_code, exceptionTable := #[], attributes := #[] }
def k0m0 : Method := { name := "<init>", desc := "()V", sig := { parameters := [], returnType := none }, accessFlags := 1, code := some k0c0 }
def k0m1 : Method := { name := "clone", desc := "()Ljava/lang/Object;", sig := { parameters := [], returnType := some (.object "java/lang/Object") }, accessFlags := 260, code := none }
/-- java/lang/Object -/
def k0 : Class := { plain "java/lang/Object" none with
  accessFlags := 33
  interfaces := #[]
  cf := some (fileOf pool0 8 #[] #[{ accessFlags := 1, nameIndex := 5, descriptorIndex := 6, attributes := #[] }, { accessFlags := 260, nameIndex := 96, descriptorIndex := 97, attributes := #[] }] 33 0 #[] #[])
  fields := #[]
  methods := #[k0m0, k0m1]
  instanceTypes := #[]
  staticTypes := #[]
  resolved := Array.replicate 124 none
  statics := none }

def pool1 : Array CpInfo := pool [(2, .class_ 4), (1, u "java/lang/Object"), (0, u "<init>"), (0, u "()V"), (0, .class_ 8), (0, u "com/example/keyed_collections/keyedcollections/protocol/CollectionKey"), (0, .methodref 7 10), (0, .nameAndType 5 11), (0, u "(I[B)V"), (0, .methodref 7 13), (0, .nameAndType 14 15), (0, u "write"), (0, u "()[B"), (0, .long 4294967295), (1, .long 128), (1, .long 16384), (1, .long 2097152), (1, .long 268435456), (1, .methodref 27 28), (0, .class_ 29), (0, .nameAndType 30 31), (0, u "com/example/keyed_collections/keyedcollections/protocol/CollectionKeyWritePinLaw"), (0, u "idByte"), (0, u "(JII)B"), (0, .long 127), (3, u "law"), (0, u "(IIIII)Z")] 5

def k1m0 : Method := { name := "<init>", desc := "()V", sig := { parameters := [], returnType := none }, accessFlags := 1, code := none }
def k1c1 : Code := { maxStack := 5, maxLocals := 12, code := code, exceptionTable := #[], attributes := #[] }
def k1m1 : Method := { name := "law", desc := "(IIIII)Z", sig := { parameters := [.int, .int, .int, .int, .int], returnType := some .boolean }, accessFlags := 9, code := some k1c1 }
def k1c2 : Code := { maxStack := 4, maxLocals := 5, code := method_3_code, exceptionTable := #[], attributes := #[] }
def k1m2 : Method := { name := "idByte", desc := "(JII)B", sig := { parameters := [.long, .int, .int], returnType := some .byte }, accessFlags := 10, code := some k1c2 }
/-- com/example/keyed_collections/keyedcollections/protocol/CollectionKeyWritePinLaw -/
def k1 : Class := { plain "com/example/keyed_collections/keyedcollections/protocol/CollectionKeyWritePinLaw" (some 0) with
  accessFlags := 49
  interfaces := #[]
  cf := some (fileOf pool1 27 #[] #[{ accessFlags := 1, nameIndex := 5, descriptorIndex := 6, attributes := #[] }, { accessFlags := 9, nameIndex := 36, descriptorIndex := 37, attributes := #[] }, { accessFlags := 10, nameIndex := 30, descriptorIndex := 31, attributes := #[] }] 49 2 #[] #[])
  fields := #[]
  methods := #[k1m0, k1m1, k1m2]
  instanceTypes := #[]
  staticTypes := #[]
  resolved := Array.replicate 43 none
  statics := none }

def pool2 : Array CpInfo := pool [(1, .methodref 2 3), (0, .class_ 4), (0, .nameAndType 5 6), (0, u "java/lang/Object"), (0, u "<init>"), (0, u "()V"), (0, .class_ 8), (0, u "java/lang/Record")] 13

def k2c0 : Code := { maxStack := 1, maxLocals := 1, code := jdk_30_method_1_code, exceptionTable := #[], attributes := #[] }
def k2m0 : Method := { name := "<init>", desc := "()V", sig := { parameters := [], returnType := none }, accessFlags := 4, code := some k2c0 }
/-- java/lang/Record -/
def k2 : Class := { plain "java/lang/Record" (some 0) with
  accessFlags := 1057
  interfaces := #[]
  cf := some (fileOf pool2 7 #[] #[{ accessFlags := 4, nameIndex := 5, descriptorIndex := 6, attributes := #[] }] 1057 2 #[] #[])
  fields := #[]
  methods := #[k2m0]
  instanceTypes := #[]
  staticTypes := #[]
  resolved := Array.replicate 22 none
  statics := none }

def pool3 : Array CpInfo := pool [(1, .methodref 2 3), (0, .class_ 4), (0, .nameAndType 5 6), (0, u "java/lang/Record"), (0, u "<init>"), (0, u "()V"), (0, .fieldref 8 9), (0, .class_ 10), (0, .nameAndType 11 12), (0, u "com/example/keyed_collections/keyedcollections/protocol/CollectionKey"), (0, u "collection"), (0, u "I"), (0, .fieldref 8 14), (0, .nameAndType 15 16), (0, u "documentKey"), (0, u "[B"), (23, .class_ 42), (1, u "java/util/Arrays"), (4, u "(I[B)V"), (0, .methodref 49 50), (0, .class_ 51), (0, .nameAndType 52 53), (0, u "java/lang/Integer"), (0, u "toUnsignedLong"), (0, u "(I)J"), (0, .long 127), (1, .methodref 40 57), (0, .nameAndType 58 59), (0, u "copyOf"), (0, u "([BI)[B"), (0, .methodref 61 62), (0, .class_ 63), (0, .nameAndType 64 65), (0, u "java/lang/System"), (0, u "arraycopy"), (0, u "(Ljava/lang/Object;ILjava/lang/Object;II)V"), (12, u "MAX_ID_BYTES"), (2, u "GROUP_BITS"), (1, u "GROUP"), (1, u "MORE"), (1, u "MAX_ID"), (0, u "J"), (7, u "write"), (0, u "()[B")] 35

def k3c0 : Code := { maxStack := 2, maxLocals := 3, code := prog_8_method_1_code, exceptionTable := #[], attributes := #[] }
def k3m0 : Method := { name := "<init>", desc := "(I[B)V", sig := { parameters := [.int, (.array .byte)], returnType := none }, accessFlags := 1, code := some k3c0 }
def k3c1 : Code := { maxStack := 6, maxLocals := 6, code := prog_8_method_3_code, exceptionTable := #[], attributes := #[] }
def k3m1 : Method := { name := "write", desc := "()[B", sig := { parameters := [], returnType := some (.array .byte) }, accessFlags := 1, code := some k3c1 }
/-- com/example/keyed_collections/keyedcollections/protocol/CollectionKey -/
def k3 : Class := { plain "com/example/keyed_collections/keyedcollections/protocol/CollectionKey" (some 2) with
  accessFlags := 49
  interfaces := #[]
  cf := some (fileOf pool3 8 #[] #[{ accessFlags := 1, nameIndex := 5, descriptorIndex := 47, attributes := #[] }, { accessFlags := 1, nameIndex := 96, descriptorIndex := 97, attributes := #[] }] 49 2 #[] #[{ accessFlags := 18, nameIndex := 11, descriptorIndex := 12, attributes := #[] }, { accessFlags := 18, nameIndex := 15, descriptorIndex := 16, attributes := #[] }, { accessFlags := 25, nameIndex := 78, descriptorIndex := 12, attributes := #[] }, { accessFlags := 26, nameIndex := 81, descriptorIndex := 12, attributes := #[] }, { accessFlags := 26, nameIndex := 83, descriptorIndex := 12, attributes := #[] }, { accessFlags := 26, nameIndex := 85, descriptorIndex := 12, attributes := #[] }, { accessFlags := 26, nameIndex := 87, descriptorIndex := 88, attributes := #[] }])
  fields := #[{ name := "collection", type := .int, accessFlags := 18, slot := 0, constantValue := 0 }, { name := "documentKey", type := (.array .byte), accessFlags := 18, slot := 1, constantValue := 0 }, { name := "MAX_ID_BYTES", type := .int, accessFlags := 25, slot := 0, constantValue := 0 }, { name := "GROUP_BITS", type := .int, accessFlags := 26, slot := 1, constantValue := 0 }, { name := "GROUP", type := .int, accessFlags := 26, slot := 2, constantValue := 0 }, { name := "MORE", type := .int, accessFlags := 26, slot := 3, constantValue := 0 }, { name := "MAX_ID", type := .long, accessFlags := 26, slot := 4, constantValue := 0 }]
  methods := #[k3m0, k3m1]
  instanceTypes := #[.int, (.array .byte)]
  staticTypes := #[.int, .int, .int, .int, .long]
  resolved := Array.replicate 133 none
  statics := none }

def pool4 : Array CpInfo := pool [(1, .class_ 2), (0, u "java/io/Serializable"), (0, .class_ 4), (0, u "java/lang/Object")] 2

/-- java/io/Serializable -/
def k4 : Class := { plain "java/io/Serializable" (some 0) with
  accessFlags := 1537
  interfaces := #[]
  cf := some (fileOf pool4 1 #[] #[] 1537 3 #[] #[])
  fields := #[]
  methods := #[]
  instanceTypes := #[]
  staticTypes := #[]
  resolved := Array.replicate 7 none
  statics := none }

def pool5 : Array CpInfo := pool [(2, .class_ 4), (1, u "java/lang/Object"), (0, u "<init>"), (0, u "()V"), (1, .class_ 10), (1, u "java/lang/Number"), (2, .class_ 14), (0, u "java/io/Serializable"), (0, u "serialVersionUID"), (0, u "J")] 20

def k5m0 : Method := { name := "<init>", desc := "()V", sig := { parameters := [], returnType := none }, accessFlags := 1, code := none }
/-- java/lang/Number -/
def k5 : Class := { plain "java/lang/Number" (some 0) with
  accessFlags := 1057
  interfaces := #[4]
  cf := some (fileOf pool5 8 #[] #[{ accessFlags := 1, nameIndex := 5, descriptorIndex := 6, attributes := #[] }] 1057 2 #[13] #[{ accessFlags := 26, nameIndex := 15, descriptorIndex := 16, attributes := #[] }])
  fields := #[{ name := "serialVersionUID", type := .long, accessFlags := 26, slot := 0, constantValue := 0 }]
  methods := #[k5m0]
  instanceTypes := #[]
  staticTypes := #[.long]
  resolved := Array.replicate 37 none
  statics := none }

def pool6 : Array CpInfo := pool [(1, .class_ 2), (0, u "java/lang/Comparable"), (0, .class_ 4), (0, u "java/lang/Object")] 7

/-- java/lang/Comparable -/
def k6 : Class := { plain "java/lang/Comparable" (some 0) with
  accessFlags := 1537
  interfaces := #[]
  cf := some (fileOf pool6 1 #[] #[] 1537 3 #[] #[])
  fields := #[]
  methods := #[]
  instanceTypes := #[]
  staticTypes := #[]
  resolved := Array.replicate 12 none
  statics := none }

def pool7 : Array CpInfo := pool [(1, .class_ 2), (0, u "java/lang/constant/Constable"), (0, .class_ 4), (0, u "java/lang/Object")] 6

/-- java/lang/constant/Constable -/
def k7 : Class := { plain "java/lang/constant/Constable" (some 0) with
  accessFlags := 1537
  interfaces := #[]
  cf := some (fileOf pool7 1 #[] #[] 1537 3 #[] #[])
  fields := #[]
  methods := #[]
  instanceTypes := #[]
  staticTypes := #[]
  resolved := Array.replicate 11 none
  statics := none }

def pool8 : Array CpInfo := pool [(1, .class_ 2), (0, u "java/lang/constant/ConstantDesc"), (0, .class_ 4), (0, u "java/lang/Object")] 32

/-- java/lang/constant/ConstantDesc -/
def k8 : Class := { plain "java/lang/constant/ConstantDesc" (some 0) with
  accessFlags := 1537
  interfaces := #[]
  cf := some (fileOf pool8 1 #[] #[] 1537 3 #[] #[])
  fields := #[]
  methods := #[]
  instanceTypes := #[]
  staticTypes := #[]
  resolved := Array.replicate 37 none
  statics := none }

def pool9 : Array CpInfo := pool [(1, .class_ 2), (0, u "java/lang/Integer"), (16, u "digits"), (0, u "[C"), (19, u "toUnsignedLong"), (0, u "(I)J"), (43, u "DigitOnes"), (0, u "[B"), (2, u "DigitTens"), (99, .class_ 190), (0, u "java/lang/Integer$IntegerCache"), (3, u "I"), (8, .class_ 204), (0, u "java/lang/Number"), (2, u "value"), (54, .long 4294967295), (39, u "TYPE"), (0, u "Ljava/lang/Class;"), (0, .class_ 305), (0, u "java/lang/Comparable"), (0, .class_ 307), (0, u "java/lang/constant/Constable"), (0, .class_ 309), (0, u "java/lang/constant/ConstantDesc"), (0, u "MIN_VALUE"), (1, u "MAX_VALUE"), (3, u "SIZE"), (1, u "BYTES"), (1, u "serialVersionUID"), (0, u "J")] 131

def k9c0 : Code := { maxStack := 4, maxLocals := 1, code := jdk_33_method_42_code, exceptionTable := #[], attributes := #[] }
def k9m0 : Method := { name := "toUnsignedLong", desc := "(I)J", sig := { parameters := [.int], returnType := some .long }, accessFlags := 9, code := some k9c0 }
/-- java/lang/Integer -/
def k9 : Class := { plain "java/lang/Integer" (some 5) with
  accessFlags := 49
  interfaces := #[6, 7, 8]
  cf := some (fileOf pool9 1 #[.nestMembers #[189]] #[{ accessFlags := 9, nameIndex := 40, descriptorIndex := 41, attributes := #[] }] 49 203 #[304, 306, 308] #[{ accessFlags := 25, nameIndex := 310, descriptorIndex := 194, attributes := #[] }, { accessFlags := 25, nameIndex := 312, descriptorIndex := 194, attributes := #[] }, { accessFlags := 25, nameIndex := 302, descriptorIndex := 303, attributes := #[] }, { accessFlags := 24, nameIndex := 19, descriptorIndex := 20, attributes := #[] }, { accessFlags := 24, nameIndex := 89, descriptorIndex := 86, attributes := #[] }, { accessFlags := 24, nameIndex := 85, descriptorIndex := 86, attributes := #[] }, { accessFlags := 18, nameIndex := 207, descriptorIndex := 194, attributes := #[] }, { accessFlags := 25, nameIndex := 316, descriptorIndex := 194, attributes := #[] }, { accessFlags := 25, nameIndex := 318, descriptorIndex := 194, attributes := #[] }, { accessFlags := 26, nameIndex := 320, descriptorIndex := 321, attributes := #[] }])
  fields := #[{ name := "MIN_VALUE", type := .int, accessFlags := 25, slot := 0, constantValue := 0 }, { name := "MAX_VALUE", type := .int, accessFlags := 25, slot := 1, constantValue := 0 }, { name := "TYPE", type := (.object "java/lang/Class"), accessFlags := 25, slot := 2, constantValue := 0 }, { name := "digits", type := (.array .char), accessFlags := 24, slot := 3, constantValue := 0 }, { name := "DigitTens", type := (.array .byte), accessFlags := 24, slot := 4, constantValue := 0 }, { name := "DigitOnes", type := (.array .byte), accessFlags := 24, slot := 5, constantValue := 0 }, { name := "value", type := .int, accessFlags := 18, slot := 0, constantValue := 0 }, { name := "SIZE", type := .int, accessFlags := 25, slot := 6, constantValue := 0 }, { name := "BYTES", type := .int, accessFlags := 25, slot := 7, constantValue := 0 }, { name := "serialVersionUID", type := .long, accessFlags := 26, slot := 8, constantValue := 0 }]
  methods := #[k9m0]
  instanceTypes := #[.int]
  staticTypes := #[.int, .int, (.object "java/lang/Class"), (.array .char), (.array .byte), (.array .byte), .int, .int, .long]
  resolved := Array.replicate 453 none
  statics := none }

def pool10 : Array CpInfo := pool [(2, .class_ 4), (1, u "java/lang/Object"), (0, u "<init>"), (0, u "()V"), (7, .class_ 16), (1, u "java/util/Arrays"), (57, .class_ 76), (1, u "java/util/Arrays$NaturalOrder"), (32, u "()Ljava/lang/Object;"), (3, .class_ 115), (1, u "java/util/Arrays$LegacyMergeSort"), (1, u "Z"), (10, .nameAndType 129 109), (0, u "clone"), (20, .methodref 151 152), (0, .class_ 153), (0, .nameAndType 154 155), (0, u "java/lang/System"), (0, u "arraycopy"), (0, u "(Ljava/lang/Object;ILjava/lang/Object;II)V"), (146, u "copyOf"), (1, .methodref 305 306), (0, .class_ 307), (0, .nameAndType 308 309), (0, u "java/lang/Math"), (0, u "min"), (0, u "(II)I"), (0, .methodref 311 128), (0, .class_ 312), (0, u "[B"), (62, .class_ 376), (0, u "java/util/Arrays$ArrayList"), (68, u "$assertionsDisabled"), (269, u "MIN_ARRAY_SORT_GRAN"), (0, u "I"), (2, u "INSERTIONSORT_THRESHOLD"), (149, u "([BI)[B"), (105, .class_ 976), (0, u "java/util/Arrays$ArrayItr")] 52

def k10m0 : Method := { name := "<init>", desc := "()V", sig := { parameters := [], returnType := none }, accessFlags := 2, code := none }
def k10c1 : Code := { maxStack := 6, maxLocals := 3, code := jdk_65_method_121_code, exceptionTable := #[], attributes := #[] }
def k10m1 : Method := { name := "copyOf", desc := "([BI)[B", sig := { parameters := [(.array .byte), .int], returnType := some (.array .byte) }, accessFlags := 9, code := some k10c1 }
/-- java/util/Arrays -/
def k10 : Class := { plain "java/util/Arrays" (some 0) with
  accessFlags := 49
  interfaces := #[]
  cf := some (fileOf pool10 14 #[.nestMembers #[975, 375, 113, 74]] #[{ accessFlags := 2, nameIndex := 5, descriptorIndex := 6, attributes := #[] }, { accessFlags := 9, nameIndex := 302, descriptorIndex := 869, attributes := #[] }] 49 2 #[] #[{ accessFlags := 26, nameIndex := 715, descriptorIndex := 716, attributes := #[] }, { accessFlags := 26, nameIndex := 719, descriptorIndex := 716, attributes := #[] }, { accessFlags := 4120, nameIndex := 445, descriptorIndex := 117, attributes := #[] }])
  fields := #[{ name := "MIN_ARRAY_SORT_GRAN", type := .int, accessFlags := 26, slot := 0, constantValue := 0 }, { name := "INSERTIONSORT_THRESHOLD", type := .int, accessFlags := 26, slot := 1, constantValue := 0 }, { name := "$assertionsDisabled", type := .boolean, accessFlags := 4120, slot := 2, constantValue := 0 }]
  methods := #[k10m0, k10m1]
  instanceTypes := #[]
  staticTypes := #[.int, .int, .boolean]
  resolved := Array.replicate 1029 none
  statics := none }

def pool11 : Array CpInfo := pool [(1, .class_ 2), (0, u "java/lang/Math"), (1, .class_ 6), (1, u "java/lang/Object"), (0, u "<init>"), (0, u "()V"), (89, .class_ 100), (1, u "java/lang/Math$RandomNumberGeneratorHolder"), (71, u "negativeZeroFloatBits"), (0, u "J"), (2, u "negativeZeroDoubleBits"), (24, u "min"), (43, u "$assertionsDisabled"), (0, u "Z"), (88, u "(II)I"), (2, u "twoToTheDoubleScaleDown"), (0, u "D"), (4, u "twoToTheDoubleScaleUp"), (9, u "E"), (3, u "PI"), (2, u "TAU"), (2, u "DEGREES_TO_RADIANS"), (0, u "RADIANS_TO_DEGREES")] 94

def k11m0 : Method := { name := "<init>", desc := "()V", sig := { parameters := [], returnType := none }, accessFlags := 2, code := none }
def k11c1 : Code := { maxStack := 2, maxLocals := 2, code := jdk_29_method_69_code, exceptionTable := #[], attributes := #[] }
def k11m1 : Method := { name := "min", desc := "(II)I", sig := { parameters := [.int, .int], returnType := some .int }, accessFlags := 9, code := some k11c1 }
/-- java/lang/Math -/
def k11 : Class := { plain "java/lang/Math" (some 0) with
  accessFlags := 49
  interfaces := #[]
  cf := some (fileOf pool11 1 #[.nestMembers #[98]] #[{ accessFlags := 2, nameIndex := 7, descriptorIndex := 8, attributes := #[] }, { accessFlags := 9, nameIndex := 201, descriptorIndex := 335, attributes := #[] }] 49 4 #[] #[{ accessFlags := 25, nameIndex := 354, descriptorIndex := 339, attributes := #[] }, { accessFlags := 25, nameIndex := 358, descriptorIndex := 339, attributes := #[] }, { accessFlags := 25, nameIndex := 361, descriptorIndex := 339, attributes := #[] }, { accessFlags := 26, nameIndex := 364, descriptorIndex := 339, attributes := #[] }, { accessFlags := 26, nameIndex := 365, descriptorIndex := 339, attributes := #[] }, { accessFlags := 26, nameIndex := 172, descriptorIndex := 173, attributes := #[] }, { accessFlags := 26, nameIndex := 176, descriptorIndex := 173, attributes := #[] }, { accessFlags := 8, nameIndex := 344, descriptorIndex := 339, attributes := #[] }, { accessFlags := 8, nameIndex := 338, descriptorIndex := 339, attributes := #[] }, { accessFlags := 4120, nameIndex := 245, descriptorIndex := 246, attributes := #[] }])
  fields := #[{ name := "E", type := .double, accessFlags := 25, slot := 0, constantValue := 0 }, { name := "PI", type := .double, accessFlags := 25, slot := 1, constantValue := 0 }, { name := "TAU", type := .double, accessFlags := 25, slot := 2, constantValue := 0 }, { name := "DEGREES_TO_RADIANS", type := .double, accessFlags := 26, slot := 3, constantValue := 0 }, { name := "RADIANS_TO_DEGREES", type := .double, accessFlags := 26, slot := 4, constantValue := 0 }, { name := "negativeZeroFloatBits", type := .long, accessFlags := 26, slot := 5, constantValue := 0 }, { name := "negativeZeroDoubleBits", type := .long, accessFlags := 26, slot := 6, constantValue := 0 }, { name := "twoToTheDoubleScaleUp", type := .double, accessFlags := 8, slot := 7, constantValue := 0 }, { name := "twoToTheDoubleScaleDown", type := .double, accessFlags := 8, slot := 8, constantValue := 0 }, { name := "$assertionsDisabled", type := .boolean, accessFlags := 4120, slot := 9, constantValue := 0 }]
  methods := #[k11m0, k11m1]
  instanceTypes := #[]
  staticTypes := #[.double, .double, .double, .double, .double, .long, .long, .double, .double, .boolean]
  resolved := Array.replicate 460 none
  statics := none }

def pool12 : Array CpInfo := pool [(2, .class_ 4), (1, u "java/lang/Object"), (0, u "<init>"), (0, u "()V"), (1, .class_ 10), (1, u "java/lang/System"), (0, u "allowSecurityManager"), (0, u "I"), (16, u "cons"), (0, u "Ljava/io/Console;"), (77, .class_ 110), (1, u "java/lang/System$CallersHolder"), (43, u "initialErrStream"), (0, u "Ljava/io/PrintStream;"), (19, u "security"), (0, u "Ljava/lang/SecurityManager;"), (31, .class_ 209), (0, u "java/lang/System$1"), (7, u "props"), (0, u "Ljava/util/Properties;"), (2, u "lineSeparator"), (0, u "Ljava/lang/String;"), (96, .class_ 321), (1, u "java/lang/System$LoggerFinder"), (5, .class_ 328), (0, u "java/lang/System$Logger"), (67, u "err"), (2, u "out"), (91, u "notSupportedJnuEncoding"), (15, u "in"), (17, u "initialIn"), (0, u "Ljava/io/InputStream;"), (35, u "bootLayer"), (0, u "Ljava/lang/ModuleLayer;"), (99, .class_ 664), (0, u "java/lang/System$2"), (9, u "NEVER"), (2, u "MAYBE"), (49, u "arraycopy"), (0, u "(Ljava/lang/Object;ILjava/lang/Object;II)V"), (72, .class_ 802), (0, u "java/lang/System$Logger$Level")] 31

def k12m0 : Method := { name := "<init>", desc := "()V", sig := { parameters := [], returnType := none }, accessFlags := 2, code := none }
def k12m1 : Method := { name := "arraycopy", desc := "(Ljava/lang/Object;ILjava/lang/Object;II)V", sig := { parameters := [(.object "java/lang/Object"), .int, (.object "java/lang/Object"), .int, .int], returnType := none }, accessFlags := 265, code := none }
/-- java/lang/System -/
def k12 : Class := { plain "java/lang/System" (some 0) with
  accessFlags := 49
  interfaces := #[]
  cf := some (fileOf pool12 8 #[.nestMembers #[319, 327, 801, 108, 663, 208]] #[{ accessFlags := 2, nameIndex := 5, descriptorIndex := 6, attributes := #[] }, { accessFlags := 265, nameIndex := 727, descriptorIndex := 728, attributes := #[] }] 49 2 #[] #[{ accessFlags := 25, nameIndex := 507, descriptorIndex := 526, attributes := #[] }, { accessFlags := 25, nameIndex := 399, descriptorIndex := 155, attributes := #[] }, { accessFlags := 25, nameIndex := 396, descriptorIndex := 155, attributes := #[] }, { accessFlags := 10, nameIndex := 525, descriptorIndex := 526, attributes := #[] }, { accessFlags := 26, nameIndex := 674, descriptorIndex := 12, attributes := #[] }, { accessFlags := 26, nameIndex := 677, descriptorIndex := 12, attributes := #[] }, { accessFlags := 10, nameIndex := 11, descriptorIndex := 12, attributes := #[] }, { accessFlags := 74, nameIndex := 175, descriptorIndex := 176, attributes := #[] }, { accessFlags := 10, nameIndex := 491, descriptorIndex := 222, attributes := #[] }, { accessFlags := 74, nameIndex := 29, descriptorIndex := 30, attributes := #[] }, { accessFlags := 74, nameIndex := 154, descriptorIndex := 155, attributes := #[] }, { accessFlags := 10, nameIndex := 217, descriptorIndex := 218, attributes := #[] }, { accessFlags := 10, nameIndex := 221, descriptorIndex := 222, attributes := #[] }, { accessFlags := 8, nameIndex := 562, descriptorIndex := 563, attributes := #[] }])
  fields := #[{ name := "in", type := (.object "java/io/InputStream"), accessFlags := 25, slot := 0, constantValue := 0 }, { name := "out", type := (.object "java/io/PrintStream"), accessFlags := 25, slot := 1, constantValue := 0 }, { name := "err", type := (.object "java/io/PrintStream"), accessFlags := 25, slot := 2, constantValue := 0 }, { name := "initialIn", type := (.object "java/io/InputStream"), accessFlags := 10, slot := 3, constantValue := 0 }, { name := "NEVER", type := .int, accessFlags := 26, slot := 4, constantValue := 0 }, { name := "MAYBE", type := .int, accessFlags := 26, slot := 5, constantValue := 0 }, { name := "allowSecurityManager", type := .int, accessFlags := 10, slot := 6, constantValue := 0 }, { name := "security", type := (.object "java/lang/SecurityManager"), accessFlags := 74, slot := 7, constantValue := 0 }, { name := "notSupportedJnuEncoding", type := (.object "java/lang/String"), accessFlags := 10, slot := 8, constantValue := 0 }, { name := "cons", type := (.object "java/io/Console"), accessFlags := 74, slot := 9, constantValue := 0 }, { name := "initialErrStream", type := (.object "java/io/PrintStream"), accessFlags := 74, slot := 10, constantValue := 0 }, { name := "props", type := (.object "java/util/Properties"), accessFlags := 10, slot := 11, constantValue := 0 }, { name := "lineSeparator", type := (.object "java/lang/String"), accessFlags := 10, slot := 12, constantValue := 0 }, { name := "bootLayer", type := (.object "java/lang/ModuleLayer"), accessFlags := 8, slot := 13, constantValue := 0 }]
  methods := #[k12m0, k12m1]
  instanceTypes := #[]
  staticTypes := #[(.object "java/io/InputStream"), (.object "java/io/PrintStream"), (.object "java/io/PrintStream"), (.object "java/io/InputStream"), .int, .int, .int, (.object "java/lang/SecurityManager"), (.object "java/lang/String"), (.object "java/io/Console"), (.object "java/io/PrintStream"), (.object "java/util/Properties"), (.object "java/lang/String"), (.object "java/lang/ModuleLayer")]
  resolved := Array.replicate 834 none
  statics := none }

def pool13 : Array CpInfo := pool [(1, .class_ 2), (0, u "java/lang/Cloneable"), (0, .class_ 4), (0, u "java/lang/Object")] 2

/-- java/lang/Cloneable -/
def k13 : Class := { plain "java/lang/Cloneable" (some 0) with
  accessFlags := 1537
  interfaces := #[]
  cf := some (fileOf pool13 1 #[] #[] 1537 3 #[] #[])
  fields := #[]
  methods := #[]
  instanceTypes := #[]
  staticTypes := #[]
  resolved := Array.replicate 7 none
  statics := none }

/-- the primitive byte -/
def k14 : Class := { plain "byte" none with kind := .primitive 'B', accessFlags := 0x411 }
/-- [B -/
def k15 : Class := { plain "[B" (some 0) with kind := .array 14 .byte, interfaces := #[13, 4], accessFlags := 1041 }

/-- the primitive int -/
def k16 : Class := { plain "int" none with kind := .primitive 'I', accessFlags := 0x411 }
/-- [I -/
def k17 : Class := { plain "[I" (some 0) with kind := .array 16 .int, interfaces := #[13, 4], accessFlags := 1041 }

def heap : Heap := #[]
def classes : Array Class := #[k0, k1, k2, k3, k4, k5, k6, k7, k8, k9, k10, k11, k12, k13, k14, k15, k16, k17]
def interned : List (Array UInt16 × Addr) := []
def slotsUsed : Nat := 0
def theMethod : MethodId := ⟨1, 1⟩
def args0 : Array Value := #[.int 5, .int 7, .int 5, .int 7, .int 3]
def aboutOver (below : List Frame) : State where
  vm := { classes := classes, interned := interned.toArray }
  heap := heap
  slotsUsed := slotsUsed
  threads := #[{ frames := .invoking theMethod args0 :: below }]
def below0 : List Frame := [.native { method := ⟨0, 0⟩, args := #[] }]
def about1 : State := aboutOver below0
def p0 : Program := .bare "" "" ""
def e0 : Env := launch0.env 0 0 0
theorem w_frames : about1.frames = Frame.invoking theMethod args0 :: below0 := rfl
set_option maxRecDepth 65536 in
theorem w_args : argsFit about1.vm theMethod args0 = true := by decide +kernel
set_option maxRecDepth 65536 in
theorem w_heap : heapFits about1 = true := by decide +kernel
set_option maxRecDepth 65536 in
theorem w_runnable : about1.curStatus? = some .runnable := by decide +kernel
set_option maxRecDepth 65536 in
theorem w_alone : about1.alone = true := by decide +kernel
set_option maxRecDepth 65536 in
theorem w_named : about1.methodNamed? x = some theMethod := by decide +kernel
set_option maxRecDepth 65536 in
theorem w_hears : about1.hears theMethod below0 = true := by decide +kernel
set_option maxRecDepth 65536 in
theorem w_ripe : about1.ripe theMethod args0 below0 = true := by decide +kernel
theorem w_running : about1.status = .running := rfl
set_option maxRecDepth 65536 in
theorem w_room : about1.hasRoom e0.platform room_1 = true :=
  launch0.hasRoom_least _ room_1 (by decide +kernel) (by decide +kernel) (by decide +kernel) (by decide +kernel) (by decide +kernel) (by decide +kernel)
theorem allAtoms_all (ts : List Jvm.Cond) (a : Array Jvm.Value) (st : Jvm.State) : (allAtoms ts).before a st = ts.all (fun c => c.before a st) := by
  induction ts with
  | nil => rfl
  | cons c t ih =>
    show (Jvm.Cond.and c (allAtoms t)).before a st = _
    rw [Jvm.Cond.before_and, ih, List.all_cons]
def words1 : List Jvm.Cond := Jvm.Cond.code x code maxLocals ret :: tables_1
/-- a 'code' word, met by the world's own term for the bytes: nothing is compared byte by byte -/
theorem code_word {y : MethodName} {bytes : ByteArray} {mx : Nat} {rt : Option FieldType} {a : Array Value} {s : State} {m : MethodId} {meth : Method} {c : Code} (h1 : s.methodNamed? y = some m) (h2 : s.vm.method? m = some meth) (h3 : meth.code = some c) (h4 : c.code = bytes)
    (h5 : (c.maxLocals == mx && c.exceptionTable.isEmpty && decide (c.maxStack ≤ mostOperands) && decide (meth.sig.returnType = rt) && !meth.locks && decide (parseMethodDescriptor y.desc = some meth.sig)) = true) : (Jvm.Cond.code y bytes mx rt).before a s = true := by
  simp only [Bool.and_eq_true, beq_iff_eq, Bool.not_eq_true', decide_eq_true_eq] at h5
  obtain ⟨⟨⟨⟨⟨g1, g2⟩, g3⟩, g4⟩, g5⟩, g6⟩ := h5
  simp [Cond.before, Cond.holds, Cond.value, h1, h2, h3, h4, g1, g2, g3, g4, g5, g6]
def isCode : Jvm.Cond → Bool
  | .code _ _ _ _ => true
  | _ => false
theorem all_split {L : List Jvm.Cond} {P : Jvm.Cond → Bool} (h1 : L.all (fun c => isCode c || P c) = true) (h2 : ∀ c ∈ L.filter isCode, P c = true) : L.all P = true := by
  refine List.all_eq_true.mpr fun c hc => ?_
  have h := List.all_eq_true.mp h1 c hc
  rcases Bool.eq_false_or_eq_true (isCode c) with hi | hi
  · exact h2 c (List.mem_filter.mpr ⟨hc, hi⟩)
  · simpa [hi] using h
set_option maxRecDepth 65536 in
theorem w_c0 : (Jvm.Cond.code x code maxLocals ret).before args0 about1 = true := code_word (m := ⟨1, 1⟩) (meth := k1m1) (c := k1c1) (by decide +kernel) rfl rfl rfl (by decide +kernel)
set_option maxRecDepth 65536 in
theorem w_c1 : (Jvm.Cond.code ({ cls := "com/example/keyed_collections/keyedcollections/protocol/CollectionKey", name := "<init>", desc := "(I[B)V" } : Jvm.MethodName) prog_8_method_1_code (3 : Nat) (Option.none : Option Jvm.ClassFile.FieldType)).before args0 about1 = true := code_word (m := ⟨3, 0⟩) (meth := k3m0) (c := k3c0) (by decide +kernel) rfl rfl rfl (by decide +kernel)
set_option maxRecDepth 65536 in
theorem w_c2 : (Jvm.Cond.code ({ cls := "java/lang/Record", name := "<init>", desc := "()V" } : Jvm.MethodName) jdk_30_method_1_code (1 : Nat) (Option.none : Option Jvm.ClassFile.FieldType)).before args0 about1 = true := code_word (m := ⟨2, 0⟩) (meth := k2m0) (c := k2c0) (by decide +kernel) rfl rfl rfl (by decide +kernel)
set_option maxRecDepth 65536 in
theorem w_c3 : (Jvm.Cond.code ({ cls := "java/lang/Object", name := "<init>", desc := "()V" } : Jvm.MethodName) object_method_1_code (1 : Nat) (Option.none : Option Jvm.ClassFile.FieldType)).before args0 about1 = true := code_word (m := ⟨0, 0⟩) (meth := k0m0) (c := k0c0) (by decide +kernel) rfl rfl rfl (by decide +kernel)
set_option maxRecDepth 65536 in
theorem w_c4 : (Jvm.Cond.code ({ cls := "com/example/keyed_collections/keyedcollections/protocol/CollectionKey", name := "write", desc := "()[B" } : Jvm.MethodName) prog_8_method_3_code (6 : Nat) (Option.some (Jvm.ClassFile.FieldType.array Jvm.ClassFile.FieldType.byte))).before args0 about1 = true := code_word (m := ⟨3, 1⟩) (meth := k3m1) (c := k3c1) (by decide +kernel) rfl rfl rfl (by decide +kernel)
set_option maxRecDepth 65536 in
theorem w_c5 : (Jvm.Cond.code ({ cls := "java/lang/Integer", name := "toUnsignedLong", desc := "(I)J" } : Jvm.MethodName) jdk_33_method_42_code (1 : Nat) (Option.some Jvm.ClassFile.FieldType.long)).before args0 about1 = true := code_word (m := ⟨9, 0⟩) (meth := k9m0) (c := k9c0) (by decide +kernel) rfl rfl rfl (by decide +kernel)
set_option maxRecDepth 65536 in
theorem w_c6 : (Jvm.Cond.code ({ cls := "java/util/Arrays", name := "copyOf", desc := "([BI)[B" } : Jvm.MethodName) jdk_65_method_121_code (3 : Nat) (Option.some (Jvm.ClassFile.FieldType.array Jvm.ClassFile.FieldType.byte))).before args0 about1 = true := code_word (m := ⟨10, 1⟩) (meth := k10m1) (c := k10c1) (by decide +kernel) rfl rfl rfl (by decide +kernel)
set_option maxRecDepth 65536 in
theorem w_c7 : (Jvm.Cond.code ({ cls := "java/lang/Math", name := "min", desc := "(II)I" } : Jvm.MethodName) jdk_29_method_69_code (2 : Nat) (Option.some Jvm.ClassFile.FieldType.int)).before args0 about1 = true := code_word (m := ⟨11, 1⟩) (meth := k11m1) (c := k11c1) (by decide +kernel) rfl rfl rfl (by decide +kernel)
set_option maxRecDepth 65536 in
theorem w_c8 : (Jvm.Cond.code ({ cls := "com/example/keyed_collections/keyedcollections/protocol/CollectionKeyWritePinLaw", name := "idByte", desc := "(JII)B" } : Jvm.MethodName) method_3_code (5 : Nat) (Option.some Jvm.ClassFile.FieldType.byte)).before args0 about1 = true := code_word (m := ⟨1, 2⟩) (meth := k1m2) (c := k1c2) (by decide +kernel) rfl rfl rfl (by decide +kernel)
def codes1 : List Jvm.Cond := [Jvm.Cond.code x code maxLocals ret, Jvm.Cond.code ({ cls := "com/example/keyed_collections/keyedcollections/protocol/CollectionKey", name := "<init>", desc := "(I[B)V" } : Jvm.MethodName) prog_8_method_1_code (3 : Nat) (Option.none : Option Jvm.ClassFile.FieldType), Jvm.Cond.code ({ cls := "java/lang/Record", name := "<init>", desc := "()V" } : Jvm.MethodName) jdk_30_method_1_code (1 : Nat) (Option.none : Option Jvm.ClassFile.FieldType), Jvm.Cond.code ({ cls := "java/lang/Object", name := "<init>", desc := "()V" } : Jvm.MethodName) object_method_1_code (1 : Nat) (Option.none : Option Jvm.ClassFile.FieldType), Jvm.Cond.code ({ cls := "com/example/keyed_collections/keyedcollections/protocol/CollectionKey", name := "write", desc := "()[B" } : Jvm.MethodName) prog_8_method_3_code (6 : Nat) (Option.some (Jvm.ClassFile.FieldType.array Jvm.ClassFile.FieldType.byte)), Jvm.Cond.code ({ cls := "java/lang/Integer", name := "toUnsignedLong", desc := "(I)J" } : Jvm.MethodName) jdk_33_method_42_code (1 : Nat) (Option.some Jvm.ClassFile.FieldType.long), Jvm.Cond.code ({ cls := "java/util/Arrays", name := "copyOf", desc := "([BI)[B" } : Jvm.MethodName) jdk_65_method_121_code (3 : Nat) (Option.some (Jvm.ClassFile.FieldType.array Jvm.ClassFile.FieldType.byte)), Jvm.Cond.code ({ cls := "java/lang/Math", name := "min", desc := "(II)I" } : Jvm.MethodName) jdk_29_method_69_code (2 : Nat) (Option.some Jvm.ClassFile.FieldType.int), Jvm.Cond.code ({ cls := "com/example/keyed_collections/keyedcollections/protocol/CollectionKeyWritePinLaw", name := "idByte", desc := "(JII)B" } : Jvm.MethodName) method_3_code (5 : Nat) (Option.some Jvm.ClassFile.FieldType.byte)]
set_option maxRecDepth 65536 in
theorem codes_eq : words1.filter isCode = codes1 := rfl
theorem w_codes : ∀ c ∈ words1.filter isCode, c.before args0 about1 = true := by
  rw [codes_eq]
  intro c hc
  simp only [codes1, List.mem_cons, List.not_mem_nil, or_false] at hc
  rcases hc with rfl | rfl | rfl | rfl | rfl | rfl | rfl | rfl | rfl
  · exact w_c0
  · exact w_c1
  · exact w_c2
  · exact w_c3
  · exact w_c4
  · exact w_c5
  · exact w_c6
  · exact w_c7
  · exact w_c8
set_option maxRecDepth 65536 in
theorem w_t1 : (words1.take 24).all (fun c => isCode c || c.before args0 about1) = true := by decide +kernel
set_option maxRecDepth 65536 in
theorem w_t2 : ((words1.drop 24).take 24).all (fun c => isCode c || c.before args0 about1) = true := by decide +kernel
set_option maxRecDepth 65536 in
theorem w_t3 : ((words1.drop 24).drop 24).all (fun c => isCode c || c.before args0 about1) = true := by decide +kernel
theorem w_tables : (allAtoms (Jvm.Cond.code x code maxLocals ret :: tables_1)).before args0 about1 = true := by
  rw [allAtoms_all]
  show words1.all (fun c => c.before args0 about1) = true
  refine all_split ?_ w_codes
  rw [← List.take_append_drop 24 words1, List.all_append, w_t1, ← List.take_append_drop 24 (words1.drop 24), List.all_append, w_t2, w_t3]
  rfl
set_option maxRecDepth 65536 in
theorem w_case : (Jvm.Cond.and given_1 narrow_1).before args0 about1 = true := by decide +kernel
theorem w_applies : (headSpec (Jvm.Cond.code x code maxLocals ret :: tables_1) room_1).applies x e0.platform about1 = true :=
  (Spec.applies_iff w_frames).mpr ⟨w_running, w_runnable, w_alone, w_named, w_hears, w_ripe, w_room, w_tables⟩
theorem atStart : AtStart classFile x code maxLocals ret World_1 tables_1 room_1 Calls_1 rest_1 Pre_1 launch0 p0 e0 about1 theMethod args0 below0 :=
  ⟨lists_1, trivial, launch0.admits_env _ _ _, launch0.least_env, fairChoices_fair.cas, fairChoices_fair.clock, w_frames, w_args, w_heap, w_applies, trivial, trivial, w_case⟩
end start1
theorem witness_1 : WitnessClaimed_1 := ⟨start1.p0, start1.e0, start1.about1, start1.theMethod, start1.args0, start1.below0, start1.atStart⟩
end Jvm.Pilot.@@N@@
