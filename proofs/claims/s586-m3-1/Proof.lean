import JvmDerived
import JvmDerived.Pilot.@@N@@Statement
import JvmDerived.Pilot.@@N@@Code
set_option linter.unusedVariables false
set_option linter.unusedSimpArgs false
namespace Jvm.Pilot.@@N@@
open Jvm Jvm.ClassFile Sem Op Lib Jvm.Free Jvm.Stand Jvm.LawKit Jvm.RoadKit Bundle Jvm.Pilot.@@N@@.Jvm.D
theorem ef_2 (m : MethodId) (x0 : Addr) : entryFrame m #[(.ref x0)] 1 = mkF m 0 #[.val (.ref x0)] [] := by first | (simp [entryFrame, mkF, argsToLocals, Value.category]; done) | rfl
theorem pn_0 : plainName "java/lang/Record" = true := by first | (simp [plainName, overriddenIn]; done) | decide +kernel
theorem d2_0 : decode jdk_30_method_1_code 0 = .ok (.aload_n 0, 1) := by decide +kernel
theorem d2_1 : decode jdk_30_method_1_code 1 = .ok (.invokespecial 1, 3) := by decide +kernel
theorem d2_4 : decode jdk_30_method_1_code 4 = .ok (.return_, 1) := by decide +kernel
def Q2 (Z : State) (o0 : Addr)  (h0 : Heap) (v : Option Value) (h : Heap) (L : List Loc) : Prop := v = none ∧ L = [] ∧ h = h0
set_option maxRecDepth 65536 in
set_option maxHeartbeats 40000000 in
theorem rm2 (l : Launch) (Z : State) (a0 : Array Value) (hw : ∀ d ∈ tables_1, d.before a0 Z = true) (ws : List Jvm.Cond) (o0 : Addr)  (h0 : Heap)  :
    MetFree l (⟨"java/lang/Record", "<init>", "()V"⟩ : MethodName) (head1 (Jvm.Cond.code (⟨"java/lang/Record", "<init>", "()V"⟩ : MethodName) jdk_30_method_1_code 1 none :: ws) ({ frames := 1, cells := 0, slots := 0, locals := 12 } : Room)) (fun a U => a = #[(.ref o0)] ∧ Z.Warmed39 U.vm ∧ U.heap = h0) (fun _ _ _ _ _ => True) (fun _ U o U' => ∃ v L, o = .returned v ∧ Q2 Z o0  h0 v U'.heap L ∧ FrameEnd U o U' L ({ frames := 1, cells := 0, slots := 0, locals := 12 } : Room).cells ({ frames := 1, cells := 0, slots := 0, locals := 12 } : Room).slots) := by
  refine MetFree.of_bodySF (plainFor_of_name pn_0) hisR ?_
  intro p e s m args below meth c s₁ Bd hml0 hP hK
  obtain ⟨rfl, hZ, hh⟩ := hP
  have hx := Bd.exec
  have hby := Bd.bytes
  have hml : c.maxLocals = 1 := hml0
  have hown : s.vm.findClass "java/lang/Record" = some m.cls := findClass_of_methodNamed Bd.named
  have hnm := (name_of_methodNamed Bd.named Bd.method).1
  have X0 : Stand p l e ({ frames := 1, cells := 0, slots := 0, locals := 12 } : Room) s m #[(.ref o0)] below meth c s₁ [] 0 0 := Stand.of_body Bd
  have e0 : s₁.heap = h0 := by rw [← hh, Bd.state]; rfl
  have pre0 : ∀ t, Steps p.tables e below (s₁.setTop (mkF m 0 #[.val (.ref o0)] [])) t → Steps p.tables e below (s₁.setTop (entryFrame m #[(.ref o0)] 1)) t := fun t k => castTop (ef_2 m o0) k
  obtain ⟨T1, X1, e1, st1⟩ := initO X0 hx hZ hown (hw _ (List.mem_of_getElem? (i := 15) rfl)) (hw _ (List.mem_of_getElem? (i := 16) rfl)) (hw _ (List.mem_of_getElem? (i := 17) rfl)) e0 (g := (mkF m 1 #[.val (.ref o0)] [(.ref o0)])) rfl (by rw [hml]; rfl) rfl (hb hby d2_1) (by decide) (W := 0) (by show 2 * 0 + _ ≤ _; exact Nat.le_of_eq rfl) (by decide)
  have K2 : ∀ t, Steps p.tables e below (T1.setTop (mkF m 4 #[.val (.ref o0)] [])) t → Steps p.tables e below (s₁.setTop (mkF m 0 #[.val (.ref o0)] [])) t := by
    intro t kt
    show Steps p.tables e below (s₁.setTop (mkF m 0 #[.val (.ref o0)] [])) _
    refine XS.aloadN X0.here hx rfl (hb hby d2_0) rfl rfl ?_
    show Steps p.tables e below (s₁.setTop (mkF m 1 #[.val (.ref o0)] [(.ref o0)])) _
    refine st1 _ ?_
    exact kt
  obtain ⟨fs, hr, hrun, hended, hW, hsame⟩ := X1.leave (v := none) (fun _ => rfl)
  refine ⟨_, _, pre0 _ (K2 _ ?_), hrun, hended, _, _, rfl, ?_, ⟨_, rfl⟩, hW, hsame.mono (by decide) (by decide)⟩
  · show Steps p.tables e below (T1.setTop (mkF m 4 #[.val (.ref o0)] [])) _
    exact X1.returnOut hx Bd.returns (hb hby d2_4) hr
  · show Q2 Z o0  h0 _ T1.heap _
    rw [e1]
    exact ⟨rfl, rfl, rfl⟩
theorem ef_1 (m : MethodId) (x0 : Addr) (x1 : Int64) : entryFrame m #[(.ref x0), (.long x1)] 3 = mkF m 0 #[.val (.ref x0), .val (.long x1), .second] [] := by first | (simp [entryFrame, mkF, argsToLocals, Value.category]; done) | rfl
theorem pn_1 : plainName "com/example/bounded_load/boundedload/load/Pace" = true := by first | (simp [plainName, overriddenIn]; done) | decide +kernel
theorem d1_0 : decode prog_55_method_1_code 0 = .ok (.aload_n 0, 1) := by decide +kernel
theorem d1_1 : decode prog_55_method_1_code 1 = .ok (.invokespecial 1, 3) := by decide +kernel
theorem pd_0 : parseMethodDescriptor "()V" = some ⟨[], none⟩ := by decide +kernel
theorem d1_4 : decode prog_55_method_1_code 4 = .ok (.lload_n 1, 1) := by decide +kernel
theorem d1_5 : decode prog_55_method_1_code 5 = .ok (.lconst 1, 1) := by decide +kernel
theorem d1_6 : decode prog_55_method_1_code 6 = .ok (.lcmp, 1) := by decide +kernel
theorem d1_7 : decode prog_55_method_1_code 7 = .ok (.ifCond .lt 11, 3) := by decide +kernel
theorem d1_10 : decode prog_55_method_1_code 10 = .ok (.lload_n 1, 1) := by decide +kernel
theorem d1_11 : decode prog_55_method_1_code 11 = .ok (.ldc2_w 9, 3) := by decide +kernel
theorem d1_14 : decode prog_55_method_1_code 14 = .ok (.lcmp, 1) := by decide +kernel
theorem d1_15 : decode prog_55_method_1_code 15 = .ok (.ifCond .le 17, 3) := by decide +kernel
theorem d1_32 : decode prog_55_method_1_code 32 = .ok (.aload_n 0, 1) := by decide +kernel
theorem d1_33 : decode prog_55_method_1_code 33 = .ok (.lload_n 1, 1) := by decide +kernel
theorem d1_34 : decode prog_55_method_1_code 34 = .ok (.putfield 20, 3) := by decide +kernel
theorem d1_37 : decode prog_55_method_1_code 37 = .ok (.return_, 1) := by decide +kernel
def Q1 (Z : State) (o0 : Addr) (q1 : Int64) (v1 : Value) (h0 : Heap) (n0 : Nat) (v : Option Value) (h : Heap) (L : List Loc) : Prop := v = none ∧ Fr n0 L ∧ Keep h0 h [o0] ∧ Fld Z h o0 "com/example/bounded_load/boundedload/load/Pace" "perSecond" "J" (.long q1)
set_option maxRecDepth 65536 in
set_option maxHeartbeats 40000000 in
theorem rm1 (l : Launch) (Z : State) (a0 : Array Value) (hw : ∀ d ∈ tables_1, d.before a0 Z = true) (ws : List Jvm.Cond) (o0 : Addr) (q1 : Int64) (v1 : Value) (h0 : Heap) (n0 : Nat) (Z0 : n0 ≤ h0.size) (F1 : Fld Z h0 o0 "com/example/bounded_load/boundedload/load/Pace" "perSecond" "J" v1) (E1 : Exa Z h0 o0 "com/example/bounded_load/boundedload/load/Pace") (g1 : n0 ≤ o0) (hp1 : ¬ q1 < (1 : Int64)) (hp2 : ¬ (1000000000 : Int64) < q1) :
    MetFree l (⟨"com/example/bounded_load/boundedload/load/Pace", "<init>", "(J)V"⟩ : MethodName) (head1 (Jvm.Cond.code (⟨"com/example/bounded_load/boundedload/load/Pace", "<init>", "(J)V"⟩ : MethodName) prog_55_method_1_code 3 none :: ws) ({ frames := 2, cells := 0, slots := 0, locals := 24 } : Room)) (fun a U => a = #[(.ref o0), (.long q1)] ∧ Z.Warmed39 U.vm ∧ U.heap = h0) (fun _ _ _ _ _ => True) (fun _ U o U' => ∃ v L, o = .returned v ∧ Q1 Z o0 q1 v1 h0 n0 v U'.heap L ∧ FrameEnd U o U' L ({ frames := 2, cells := 0, slots := 0, locals := 24 } : Room).cells ({ frames := 2, cells := 0, slots := 0, locals := 24 } : Room).slots) := by
  refine MetFree.of_bodySF (plainFor_of_name pn_1) hisR ?_
  intro p e s m args below meth c s₁ Bd hml0 hP hK
  obtain ⟨rfl, hZ, hh⟩ := hP
  have hx := Bd.exec
  have hby := Bd.bytes
  have hml : c.maxLocals = 3 := hml0
  have hown : s.vm.findClass "com/example/bounded_load/boundedload/load/Pace" = some m.cls := findClass_of_methodNamed Bd.named
  have hnm := (name_of_methodNamed Bd.named Bd.method).1
  have X0 : Stand p l e ({ frames := 2, cells := 0, slots := 0, locals := 24 } : Room) s m #[(.ref o0), (.long q1)] below meth c s₁ [] 0 0 := Stand.of_body Bd
  have e0 : s₁.heap = h0 := by rw [← hh, Bd.state]; rfl
  have pre0 : ∀ t, Steps p.tables e below (s₁.setTop (mkF m 0 #[.val (.ref o0), .val (.long q1), .second] [])) t → Steps p.tables e below (s₁.setTop (entryFrame m #[(.ref o0), (.long q1)] 3)) t := fun t k => castTop (ef_1 m o0 q1) k
  have N0 := Fr.nil n0
  have KP0 : Keep h0 h0 [o0] := Keep.refl _ _
  obtain ⟨_, _, ⟨T1, L1, k1, n1⟩, -, X1, ⟨Lc1, hQ1, l1, y1, z1⟩, st1⟩ := X0.specialBack hx (y := (⟨"java/lang/Record", "<init>", "()V"⟩ : MethodName)) rfl hown (mvT hZ (hw _ (List.mem_of_getElem? (i := 10) rfl))) (mvT hZ (hw _ (List.mem_of_getElem? (i := 11) rfl))) (mvT hZ (hw _ (List.mem_of_getElem? (i := 14) rfl))) (by decide) (backOf (W := 0) (rm2 l Z a0 hw [] o0  h0 ) hZ (hw _ (List.mem_of_getElem? (i := 14) rfl)) (hw _ (List.mem_of_getElem? (i := 13) rfl)) (by decide) (by decide)) (g := (mkF m 1 #[.val (.ref o0), .val (.long q1), .second] [(.ref o0)])) rfl (by rw [hml]; rfl) (Steps.refl _) (a := o0) (argsL := []) (rest := []) (lenOf pd_0 rfl) rfl (by show 2 * 0 + _ ≤ _; exact Nat.le_of_eq rfl) (hb hby d1_1) (fun _ _ => ⟨rfl, e0, (by decide : 0 + 0 ≤ _), (by decide : 0 + 0 ≤ _)⟩)
  dsimp only [Pt.U, Pt.locs, Pt.cells, Pt.slots] at X1 l1 y1 z1 st1 hQ1
  subst l1 y1 z1
  obtain ⟨rfl, rfl, e1⟩ := hQ1
  try rw [List.append_nil] at X1
  obtain ⟨T2, h2, X2, e2, W2, st2⟩ := putF X1 hx hZ hown (host := "") (Or.inl (hw _ (List.mem_of_getElem? (i := 19) rfl))) Via.refl e1 F1 E1 (Or.inr ⟨(hw _ (List.mem_of_getElem? (i := 20) rfl)), rfl, hnm⟩) (hw _ (List.mem_of_getElem? (i := 5) rfl)) (ty := .long) (by decide) rfl rfl (g := (mkF m 34 #[.val (.ref o0), .val (.long q1), .second] [(.long q1), (.ref o0)])) rfl rfl (hb hby d1_34)
  have G3 : Exa Z h2 o0 "com/example/bounded_load/boundedload/load/Pace" := E1.wr W2
  have G4 : Fld Z h2 o0 "com/example/bounded_load/boundedload/load/Pace" "perSecond" "J" (.long q1) := F1.same W2
  have Z2 : n0 ≤ h2.size := Nat.le_trans Z0 (Keep.of_wr W2).1
  have N2 := Fr.snoc X2 N0 g1
  have KP2 : Keep h0 h2 [o0] := KP0.wr W2 (Or.inl (List.mem_of_getElem? (i := 0) rfl))
  have K5 : ∀ t, Steps p.tables e below (T2.setTop (mkF m 37 #[.val (.ref o0), .val (.long q1), .second] [])) t → Steps p.tables e below (s₁.setTop (mkF m 0 #[.val (.ref o0), .val (.long q1), .second] [])) t := by
    intro t kt
    show Steps p.tables e below (s₁.setTop (mkF m 0 #[.val (.ref o0), .val (.long q1), .second] [])) _
    refine XS.aloadN X0.here hx rfl (hb hby d1_0) rfl rfl ?_
    show Steps p.tables e below (s₁.setTop (mkF m 1 #[.val (.ref o0), .val (.long q1), .second] [(.ref o0)])) _
    refine st1.trans ?_
    show Steps p.tables e below (T1.setTop (mkF m 4 #[.val (.ref o0), .val (.long q1), .second] [])) _
    refine XS.lloadN X1.here hx rfl (hb hby d1_4) rfl ?_
    show Steps p.tables e below (T1.setTop (mkF m 5 #[.val (.ref o0), .val (.long q1), .second] [(.long q1)])) _
    refine XS.lconst X1.here hx rfl (hb hby d1_5) ?_
    show Steps p.tables e below (T1.setTop (mkF m 6 #[.val (.ref o0), .val (.long q1), .second] [(.long (1 : Int64)), (.long q1)])) _
    refine XS.lcmp X1.here hx rfl (hb hby d1_6) rfl ?_
    show Steps p.tables e below (T1.setTop (mkF m 7 #[.val (.ref o0), .val (.long q1), .second] [(.int (lcmpW q1 (1 : Int64)))])) _
    refine XS.ifNo X1.here hx rfl (hb hby d1_7) rfl ((if0 _ _).trans (flt (mt (lw_lt _ _).mp (show ¬ (q1 < (1 : Int64)) from hp1))).1) ?_
    show Steps p.tables e below (T1.setTop (mkF m 10 #[.val (.ref o0), .val (.long q1), .second] [])) _
    refine XS.lloadN X1.here hx rfl (hb hby d1_10) rfl ?_
    show Steps p.tables e below (T1.setTop (mkF m 11 #[.val (.ref o0), .val (.long q1), .second] [(.long q1)])) _
    refine X1.ldc2Long hx hown (mvT hZ (hw _ (List.mem_of_getElem? (i := 18) rfl))) (g := (mkF m 11 #[.val (.ref o0), .val (.long q1), .second] [(.long q1)])) rfl (hb hby d1_11) _ ?_
    show Steps p.tables e below (T1.setTop (mkF m 14 #[.val (.ref o0), .val (.long q1), .second] [(.long (1000000000 : Int64)), (.long q1)])) _
    refine XS.lcmp X1.here hx rfl (hb hby d1_14) rfl ?_
    show Steps p.tables e below (T1.setTop (mkF m 15 #[.val (.ref o0), .val (.long q1), .second] [(.int (lcmpW q1 (1000000000 : Int64)))])) _
    refine XS.ifYes X1.here hx rfl (pc0 := 15) (pc' := 32) rfl (hb hby d1_15) rfl ((if0 _ _).trans (flt (mt (lw_gt _ _).mp (show ¬ ((1000000000 : Int64) < q1) from hp2))).2.2.2) (by decide) (by decide) ?_
    show Steps p.tables e below (T1.setTop (mkF m 32 #[.val (.ref o0), .val (.long q1), .second] [])) _
    refine XS.aloadN X1.here hx rfl (hb hby d1_32) rfl rfl ?_
    show Steps p.tables e below (T1.setTop (mkF m 33 #[.val (.ref o0), .val (.long q1), .second] [(.ref o0)])) _
    refine XS.lloadN X1.here hx rfl (hb hby d1_33) rfl ?_
    show Steps p.tables e below (T1.setTop (mkF m 34 #[.val (.ref o0), .val (.long q1), .second] [(.long q1), (.ref o0)])) _
    refine st2 _ ?_
    exact kt
  obtain ⟨fs, hr, hrun, hended, hW, hsame⟩ := X2.leave (v := none) (fun _ => rfl)
  refine ⟨_, _, pre0 _ (K5 _ ?_), hrun, hended, _, _, rfl, ?_, ⟨_, rfl⟩, hW, hsame.mono (by decide) (by decide)⟩
  · show Steps p.tables e below (T2.setTop (mkF m 37 #[.val (.ref o0), .val (.long q1), .second] [])) _
    exact X2.returnOut hx Bd.returns (hb hby d1_37) hr
  · show Q1 Z o0 q1 v1 h0 n0 _ T2.heap _
    rw [e2]
    exact ⟨rfl, N2, KP2, G4⟩
theorem ef_4 (m : MethodId) (x0 : Addr) (x1 : Int64) : entryFrame m #[(.ref x0), (.long x1)] 3 = mkF m 0 #[.val (.ref x0), .val (.long x1), .second] [] := by first | (simp [entryFrame, mkF, argsToLocals, Value.category]; done) | rfl
theorem d4_0 : decode prog_55_method_2_code 0 = .ok (.lload_n 1, 1) := by decide +kernel
theorem d4_1 : decode prog_55_method_2_code 1 = .ok (.aload_n 0, 1) := by decide +kernel
theorem d4_2 : decode prog_55_method_2_code 2 = .ok (.getfield 20, 3) := by decide +kernel
theorem d4_5 : decode prog_55_method_2_code 5 = .ok (.ldiv, 1) := by decide +kernel
theorem d4_6 : decode prog_55_method_2_code 6 = .ok (.ldc2_w 9, 3) := by decide +kernel
theorem d4_9 : decode prog_55_method_2_code 9 = .ok (.lmul, 1) := by decide +kernel
theorem d4_10 : decode prog_55_method_2_code 10 = .ok (.lload_n 1, 1) := by decide +kernel
theorem d4_11 : decode prog_55_method_2_code 11 = .ok (.aload_n 0, 1) := by decide +kernel
theorem d4_12 : decode prog_55_method_2_code 12 = .ok (.getfield 20, 3) := by decide +kernel
theorem d4_15 : decode prog_55_method_2_code 15 = .ok (.lrem, 1) := by decide +kernel
theorem d4_16 : decode prog_55_method_2_code 16 = .ok (.ldc2_w 9, 3) := by decide +kernel
theorem d4_19 : decode prog_55_method_2_code 19 = .ok (.lmul, 1) := by decide +kernel
theorem d4_20 : decode prog_55_method_2_code 20 = .ok (.aload_n 0, 1) := by decide +kernel
theorem d4_21 : decode prog_55_method_2_code 21 = .ok (.getfield 20, 3) := by decide +kernel
theorem d4_24 : decode prog_55_method_2_code 24 = .ok (.ldiv, 1) := by decide +kernel
theorem d4_25 : decode prog_55_method_2_code 25 = .ok (.ladd, 1) := by decide +kernel
theorem d4_26 : decode prog_55_method_2_code 26 = .ok (.lreturn, 1) := by decide +kernel
def f4 (q1 : Int64) (w : Int64) : Int64 := (((q1 / w) * (1000000000 : Int64)) + (((q1 - (q1 / w) * w) * (1000000000 : Int64)) / w))
def Q4 (Z : State) (o0 : Addr) (q1 : Int64) (w : Int64) (h0 : Heap) (v : Option Value) (h : Heap) (L : List Loc) : Prop := v = some (.long (f4 q1 w)) ∧ L = [] ∧ h = h0
set_option maxRecDepth 65536 in
set_option maxHeartbeats 40000000 in
theorem rm4 (l : Launch) (Z : State) (a0 : Array Value) (hw : ∀ d ∈ tables_1, d.before a0 Z = true) (ws : List Jvm.Cond) (o0 : Addr) (q1 : Int64) (w : Int64) (h0 : Heap) (F1 : Fld Z h0 o0 "com/example/bounded_load/boundedload/load/Pace" "perSecond" "J" (.long w)) (hnz : w ≠ 0) :
    MetFree l (⟨"com/example/bounded_load/boundedload/load/Pace", "due", "(J)J"⟩ : MethodName) (head1 (Jvm.Cond.code (⟨"com/example/bounded_load/boundedload/load/Pace", "due", "(J)J"⟩ : MethodName) prog_55_method_2_code 3 (some .long) :: ws) ({ frames := 0, cells := 0, slots := 0, locals := 0 } : Room)) (fun a U => a = #[(.ref o0), (.long q1)] ∧ Z.Warmed39 U.vm ∧ U.heap = h0) (fun _ _ _ _ _ => True) (fun _ U o U' => ∃ v L, o = .returned v ∧ Q4 Z o0 q1 w h0 v U'.heap L ∧ FrameEnd U o U' L ({ frames := 0, cells := 0, slots := 0, locals := 0 } : Room).cells ({ frames := 0, cells := 0, slots := 0, locals := 0 } : Room).slots) := by
  refine MetFree.of_bodySF (plainFor_of_name pn_1) hisR ?_
  intro p e s m args below meth c s₁ Bd hml0 hP hK
  obtain ⟨rfl, hZ, hh⟩ := hP
  have hx := Bd.exec
  have hby := Bd.bytes
  have hml : c.maxLocals = 3 := hml0
  have hown : s.vm.findClass "com/example/bounded_load/boundedload/load/Pace" = some m.cls := findClass_of_methodNamed Bd.named
  have hnm := (name_of_methodNamed Bd.named Bd.method).1
  have X0 : Stand p l e ({ frames := 0, cells := 0, slots := 0, locals := 0 } : Room) s m #[(.ref o0), (.long q1)] below meth c s₁ [] 0 0 := Stand.of_body Bd
  have e0 : s₁.heap = h0 := by rw [← hh, Bd.state]; rfl
  have pre0 : ∀ t, Steps p.tables e below (s₁.setTop (mkF m 0 #[.val (.ref o0), .val (.long q1), .second] [])) t → Steps p.tables e below (s₁.setTop (entryFrame m #[(.ref o0), (.long q1)] 3)) t := fun t k => castTop (ef_4 m o0 q1) k
  obtain ⟨T1, X1, e1, st1⟩ := getF X0 hx hZ hown (host := "") (Or.inl (hw _ (List.mem_of_getElem? (i := 19) rfl))) Via.refl e0 F1 (g := (mkF m 2 #[.val (.ref o0), .val (.long q1), .second] [(.ref o0), (.long q1)])) rfl rfl (hb hby d4_2)
  obtain ⟨T2, X2, e2, st2⟩ := getF X1 hx hZ hown (host := "") (Or.inl (hw _ (List.mem_of_getElem? (i := 19) rfl))) Via.refl e1 F1 (g := (mkF m 12 #[.val (.ref o0), .val (.long q1), .second] [(.ref o0), (.long q1), (.long ((q1 / w) * (1000000000 : Int64)))])) rfl rfl (hb hby d4_12)
  obtain ⟨T3, X3, e3, st3⟩ := getF X2 hx hZ hown (host := "") (Or.inl (hw _ (List.mem_of_getElem? (i := 19) rfl))) Via.refl e2 F1 (g := (mkF m 21 #[.val (.ref o0), .val (.long q1), .second] [(.ref o0), (.long ((q1 - (q1 / w) * w) * (1000000000 : Int64))), (.long ((q1 / w) * (1000000000 : Int64)))])) rfl rfl (hb hby d4_21)
  have K4 : ∀ t, Steps p.tables e below (T3.setTop (mkF m 26 #[.val (.ref o0), .val (.long q1), .second] [(.long (((q1 / w) * (1000000000 : Int64)) + (((q1 - (q1 / w) * w) * (1000000000 : Int64)) / w)))])) t → Steps p.tables e below (s₁.setTop (mkF m 0 #[.val (.ref o0), .val (.long q1), .second] [])) t := by
    intro t kt
    show Steps p.tables e below (s₁.setTop (mkF m 0 #[.val (.ref o0), .val (.long q1), .second] [])) _
    refine XS.lloadN X0.here hx rfl (hb hby d4_0) rfl ?_
    show Steps p.tables e below (s₁.setTop (mkF m 1 #[.val (.ref o0), .val (.long q1), .second] [(.long q1)])) _
    refine XS.aloadN X0.here hx rfl (hb hby d4_1) rfl rfl ?_
    show Steps p.tables e below (s₁.setTop (mkF m 2 #[.val (.ref o0), .val (.long q1), .second] [(.ref o0), (.long q1)])) _
    refine st1 _ ?_
    show Steps p.tables e below (T1.setTop (mkF m 5 #[.val (.ref o0), .val (.long q1), .second] [(.long w), (.long q1)])) _
    refine XS.ldiv X1.here hx rfl (hb hby d4_5) rfl hnz ?_
    show Steps p.tables e below (T1.setTop (mkF m 6 #[.val (.ref o0), .val (.long q1), .second] [(.long (q1 / w))])) _
    refine X1.ldc2Long hx hown (mvT hZ (hw _ (List.mem_of_getElem? (i := 18) rfl))) (g := (mkF m 6 #[.val (.ref o0), .val (.long q1), .second] [(.long (q1 / w))])) rfl (hb hby d4_6) _ ?_
    show Steps p.tables e below (T1.setTop (mkF m 9 #[.val (.ref o0), .val (.long q1), .second] [(.long (1000000000 : Int64)), (.long (q1 / w))])) _
    refine XS.lmul X1.here hx rfl (hb hby d4_9) rfl ?_
    show Steps p.tables e below (T1.setTop (mkF m 10 #[.val (.ref o0), .val (.long q1), .second] [(.long ((q1 / w) * (1000000000 : Int64)))])) _
    refine XS.lloadN X1.here hx rfl (hb hby d4_10) rfl ?_
    show Steps p.tables e below (T1.setTop (mkF m 11 #[.val (.ref o0), .val (.long q1), .second] [(.long q1), (.long ((q1 / w) * (1000000000 : Int64)))])) _
    refine XS.aloadN X1.here hx rfl (hb hby d4_11) rfl rfl ?_
    show Steps p.tables e below (T1.setTop (mkF m 12 #[.val (.ref o0), .val (.long q1), .second] [(.ref o0), (.long q1), (.long ((q1 / w) * (1000000000 : Int64)))])) _
    refine st2 _ ?_
    show Steps p.tables e below (T2.setTop (mkF m 15 #[.val (.ref o0), .val (.long q1), .second] [(.long w), (.long q1), (.long ((q1 / w) * (1000000000 : Int64)))])) _
    refine XS.lrem X2.here hx rfl (hb hby d4_15) rfl hnz ?_
    show Steps p.tables e below (T2.setTop (mkF m 16 #[.val (.ref o0), .val (.long q1), .second] [(.long (q1 - (q1 / w) * w)), (.long ((q1 / w) * (1000000000 : Int64)))])) _
    refine X2.ldc2Long hx hown (mvT hZ (hw _ (List.mem_of_getElem? (i := 18) rfl))) (g := (mkF m 16 #[.val (.ref o0), .val (.long q1), .second] [(.long (q1 - (q1 / w) * w)), (.long ((q1 / w) * (1000000000 : Int64)))])) rfl (hb hby d4_16) _ ?_
    show Steps p.tables e below (T2.setTop (mkF m 19 #[.val (.ref o0), .val (.long q1), .second] [(.long (1000000000 : Int64)), (.long (q1 - (q1 / w) * w)), (.long ((q1 / w) * (1000000000 : Int64)))])) _
    refine XS.lmul X2.here hx rfl (hb hby d4_19) rfl ?_
    show Steps p.tables e below (T2.setTop (mkF m 20 #[.val (.ref o0), .val (.long q1), .second] [(.long ((q1 - (q1 / w) * w) * (1000000000 : Int64))), (.long ((q1 / w) * (1000000000 : Int64)))])) _
    refine XS.aloadN X2.here hx rfl (hb hby d4_20) rfl rfl ?_
    show Steps p.tables e below (T2.setTop (mkF m 21 #[.val (.ref o0), .val (.long q1), .second] [(.ref o0), (.long ((q1 - (q1 / w) * w) * (1000000000 : Int64))), (.long ((q1 / w) * (1000000000 : Int64)))])) _
    refine st3 _ ?_
    show Steps p.tables e below (T3.setTop (mkF m 24 #[.val (.ref o0), .val (.long q1), .second] [(.long w), (.long ((q1 - (q1 / w) * w) * (1000000000 : Int64))), (.long ((q1 / w) * (1000000000 : Int64)))])) _
    refine XS.ldiv X3.here hx rfl (hb hby d4_24) rfl hnz ?_
    show Steps p.tables e below (T3.setTop (mkF m 25 #[.val (.ref o0), .val (.long q1), .second] [(.long (((q1 - (q1 / w) * w) * (1000000000 : Int64)) / w)), (.long ((q1 / w) * (1000000000 : Int64)))])) _
    refine XS.ladd X3.here hx rfl (hb hby d4_25) rfl ?_
    exact kt
  have hv : f4 q1 w = (((q1 / w) * (1000000000 : Int64)) + (((q1 - (q1 / w) * w) * (1000000000 : Int64)) / w)) := rfl
  obtain ⟨fs, hr, hrun, hended, hW, hsame⟩ := X3.leave (v := some (.long (((q1 / w) * (1000000000 : Int64)) + (((q1 - (q1 / w) * w) * (1000000000 : Int64)) / w)))) (fun h => by rw [Bd.returns] at h; cases h)
  refine ⟨_, _, pre0 _ (K4 _ ?_), hrun, hended, _, _, rfl, ?_, ⟨_, rfl⟩, hW, hsame.mono (by decide) (by decide)⟩
  · show Steps p.tables e below (T3.setTop (mkF m 26 #[.val (.ref o0), .val (.long q1), .second] [(.long (((q1 / w) * (1000000000 : Int64)) + (((q1 - (q1 / w) * w) * (1000000000 : Int64)) / w)))])) _
    exact retOut X3 hx Bd.returns rfl (Or.inr (Or.inl ⟨rfl, rfl, _, rfl⟩)) (hb hby d4_26) hr
  · show Q4 Z o0 q1 w h0 _ T3.heap _
    rw [e3]
    exact ⟨by rw [hv], rfl, rfl⟩
theorem ef_0 (m : MethodId) (x0 : Int64) (x1 : Int64) (x2 : Int64) : entryFrame m #[(.long x0), (.long x1), (.long x2)] maxLocals = mkF m 0 #[.val (.long x0), .second, .val (.long x1), .second, .val (.long x2), .second, .unset, .unset, .unset, .unset, .unset, .unset, .unset, .unset, .unset, .unset, .unset, .unset, .unset, .unset, .unset, .unset, .unset] [] := by first | (simp [entryFrame, mkF, argsToLocals, Value.category, maxLocals]; done) | rfl
theorem pn_2 : plainName "com/example/bounded_load/boundedload/load/PaceDuePinLaw" = true := by first | (simp [plainName, overriddenIn]; done) | decide +kernel
def gp (q0 : Int64) : Int64 := (((q0 &&& (2147483647 : Int64)) - ((q0 &&& (2147483647 : Int64)) / (1000000000 : Int64)) * (1000000000 : Int64)) + (1 : Int64))
def gr (q0 : Int64) (q1 : Int64) : Int64 := ((q1 &&& (9223372036854775807 : Int64)) - ((q1 &&& (9223372036854775807 : Int64)) / (gp q0)) * (gp q0))
def gq (q2 : Int64) : Int64 := ((q2 &&& (9223372036854775807 : Int64)) - ((q2 &&& (9223372036854775807 : Int64)) / (9223372036 : Int64)) * (9223372036 : Int64))
def gi (q0 : Int64) (q1 : Int64) (q2 : Int64) : Int64 := (((gq q2) * (gp q0)) + (gr q0 q1))
theorem pd_1 : parseMethodDescriptor "(J)V" = some ⟨[.long], none⟩ := by decide +kernel
theorem pd_2 : parseMethodDescriptor "(J)J" = some ⟨[.long], some .long⟩ := by decide +kernel
def gt (q0 : Int64) (q1 : Int64) (q2 : Int64) : Int64 := (f4 (gi q0 q1 q2) (gp q0))
def gd (q0 : Int64) (q1 : Int64) (q2 : Int64) : Int64 := ((gt q0 q1 q2) - ((gq q2) * (1000000000 : Int64)))
def gl (q0 : Int64) (q1 : Int64) (q2 : Int64) : Int64 := ((gd q0 q1 q2) * (gp q0))
def gx (q0 : Int64) (q1 : Int64) : Int64 := ((gr q0 q1) * (1000000000 : Int64))
theorem own_i64 (x : Int) (h1 : -9223372036854775808 ≤ x) (h2 : x < 9223372036854775808) (y : Int) (h : (y - x) % 18446744073709551616 = 0) (h3 : -9223372036854775808 ≤ y) (h4 : y < 9223372036854775808) : y = x := by omega
theorem own_add {a b : Int64} (h1 : -9223372036854775808 ≤ a.toInt + b.toInt) (h2 : a.toInt + b.toInt < 9223372036854775808) : (a + b).toInt = a.toInt + b.toInt :=
  own_i64 _ h1 h2 _ (c_ladd a b) (rng64 _).1 (rng64 _).2
theorem own_sub {a b : Int64} (h1 : -9223372036854775808 ≤ a.toInt - b.toInt) (h2 : a.toInt - b.toInt < 9223372036854775808) : (a - b).toInt = a.toInt - b.toInt :=
  own_i64 _ h1 h2 _ (c_lsub a b) (rng64 _).1 (rng64 _).2
theorem own_mul {a b : Int64} (h1 : -9223372036854775808 ≤ a.toInt * b.toInt) (h2 : a.toInt * b.toInt < 9223372036854775808) : (a * b).toInt = a.toInt * b.toInt :=
  own_i64 _ h1 h2 _ (c_lmul a b) (rng64 _).1 (rng64 _).2
theorem own_N : (1000000000 : Int64).toInt = 1000000000 := rfl
theorem own_gp (a : Int64) : 1 ≤ (gp a).toInt ∧ (gp a).toInt ≤ 1000000000 := by
  have h1 : (a &&& (2147483647 : Int64)).toInt = a.toInt % (2 ^ 31 : Nat) := c_maskL a _ 31 (by decide) (by decide)
  have h2 := (c_lrem (a &&& (2147483647 : Int64)) 1000000000 1000000000 rfl).1 (by omega)
  unfold gp
  rw [own_add (by rw [h2]; have : (1 : Int64).toInt = 1 := rfl; omega) (by rw [h2]; have : (1 : Int64).toInt = 1 := rfl; omega), h2]
  have : (1 : Int64).toInt = 1 := rfl
  omega
theorem own_pnz (a : Int64) : gp a ≠ 0 := fun h => by have := own_gp a; rw [h] at this; have : (0 : Int64).toInt = 0 := rfl; omega
theorem own_p1 (a : Int64) : ¬ gp a < (1 : Int64) := by rw [Int64.lt_iff_toInt_lt]; have := own_gp a; have : (1 : Int64).toInt = 1 := rfl; omega
theorem own_p2 (a : Int64) : ¬ (1000000000 : Int64) < gp a := by rw [Int64.lt_iff_toInt_lt, own_N]; have := own_gp a; omega
theorem own_gr (a b : Int64) : 0 ≤ (gr a b).toInt ∧ (gr a b).toInt < (gp a).toInt := by
  have h1 : (b &&& (9223372036854775807 : Int64)).toInt = b.toInt % (2 ^ 63 : Nat) := c_maskL b _ 63 (by decide) (by decide)
  have h2 := (c_lrem (b &&& (9223372036854775807 : Int64)) (gp a) (gp a).toInt rfl).1 (by omega)
  have h3 := own_gp a
  unfold gr
  rw [h2]
  exact ⟨Int.emod_nonneg _ (by omega), Int.emod_lt_of_pos _ (by omega)⟩
theorem own_gq (c : Int64) : 0 ≤ (gq c).toInt ∧ (gq c).toInt < 9223372036 := by
  have h1 : (c &&& (9223372036854775807 : Int64)).toInt = c.toInt % (2 ^ 63 : Nat) := c_maskL c _ 63 (by decide) (by decide)
  have h2 := (c_lrem (c &&& (9223372036854775807 : Int64)) 9223372036 9223372036 rfl).1 (by omega)
  unfold gq
  rw [h2]
  omega
theorem own_qp (a c : Int64) : 0 ≤ (gq c).toInt * (gp a).toInt ∧ (gq c).toInt * (gp a).toInt ≤ 9223372035000000000 := by
  have h1 := own_gp a
  have h2 := own_gq c
  refine ⟨Int.mul_nonneg (by omega) (by omega), ?_⟩
  have h3 : (gq c).toInt * (gp a).toInt ≤ 9223372035 * (gp a).toInt := Int.mul_le_mul_of_nonneg_right (by omega) (by omega)
  omega
theorem own_gi (a b c : Int64) : (gi a b c).toInt = (gq c).toInt * (gp a).toInt + (gr a b).toInt := by
  have h1 := own_gp a
  have h2 := own_gq c
  have h3 := own_gr a b
  have h4 := own_qp a c
  have e1 : (gq c * gp a).toInt = (gq c).toInt * (gp a).toInt := own_mul (by omega) (by omega)
  unfold gi
  rw [own_add (by omega) (by omega), e1]
theorem own_rN (a b : Int64) : (gr a b * (1000000000 : Int64)).toInt = (gr a b).toInt * 1000000000 := by
  have h1 := own_gp a
  have h3 := own_gr a b
  exact own_mul (by rw [own_N]; omega) (by rw [own_N]; omega)
theorem own_divp (a : Int64) (x : Int64) (h : 0 ≤ x.toInt) : (x / gp a).toInt = x.toInt / (gp a).toInt := by
  have h1 := own_gp a
  refine (c_ldiv x (gp a) (gp a).toInt rfl ?_).1 h
  intro q
  rw [q] at h1
  have : (-1 : Int64).toInt = -1 := rfl
  omega
theorem own_gt (a b c : Int64) : (gt a b c).toInt = (gq c).toInt * 1000000000 + (gr a b).toInt * 1000000000 / (gp a).toInt ∧ 0 ≤ (gr a b).toInt * 1000000000 / (gp a).toInt ∧ (gr a b).toInt * 1000000000 / (gp a).toInt < 1000000000 := by
  have h1 := own_gp a
  have h2 := own_gq c
  have h3 := own_gr a b
  have h4 := own_qp a c
  have hi := own_gi a b c
  have hi0 : 0 ≤ (gi a b c).toInt := by omega
  have e1 : (gi a b c / gp a).toInt = (gq c).toInt := by
    rw [own_divp a _ hi0, hi, Int.add_comm, Int.add_mul_ediv_right _ _ (by omega), Int.ediv_eq_zero_of_lt h3.1 h3.2]
    omega
  have e2 : (gi a b c - (gi a b c / gp a) * gp a) = gr a b := by
    apply Int64.toInt_inj.mp
    rw [(c_lrem (gi a b c) (gp a) (gp a).toInt rfl).1 hi0, hi, Int.add_comm, Int.add_mul_emod_self_right]
    exact Int.emod_eq_of_lt h3.1 h3.2
  have e3 : ((gi a b c / gp a) * (1000000000 : Int64)).toInt = (gq c).toInt * 1000000000 := by
    rw [own_mul (by rw [e1, own_N]; omega) (by rw [e1, own_N]; omega), e1, own_N]
  have e4 : ((gr a b * (1000000000 : Int64)) / gp a).toInt = (gr a b).toInt * 1000000000 / (gp a).toInt := by
    rw [own_divp a _ (by rw [own_rN]; omega), own_rN]
  have h5 : 0 ≤ (gr a b).toInt * 1000000000 / (gp a).toInt := Int.ediv_nonneg (by omega) (by omega)
  have h6 : (gr a b).toInt * 1000000000 / (gp a).toInt < 1000000000 := by
    apply Int.ediv_lt_of_lt_mul (by omega)
    have : (gr a b).toInt * 1000000000 < (gp a).toInt * 1000000000 := by omega
    omega
  refine ⟨?_, h5, h6⟩
  unfold gt f4
  rw [e2, own_add (by rw [e3, e4]; omega) (by rw [e3, e4]; omega), e3, e4]
theorem own_gd (a b c : Int64) : (gd a b c).toInt = (gr a b).toInt * 1000000000 / (gp a).toInt := by
  have h2 := own_gq c
  have h := own_gt a b c
  have e : (gq c * (1000000000 : Int64)).toInt = (gq c).toInt * 1000000000 := by rw [own_mul (by rw [own_N]; omega) (by rw [own_N]; omega), own_N]
  unfold gd
  rw [own_sub (by omega) (by omega), e]
  omega
theorem own_b80 (a b c : Int64) : ¬ gd a b c < (0 : Int64) := by
  rw [Int64.lt_iff_toInt_lt, own_gd]; have := own_gt a b c; have : (0 : Int64).toInt = 0 := rfl; omega
theorem own_b89 (a b c : Int64) : gd a b c < (1000000000 : Int64) := by
  rw [Int64.lt_iff_toInt_lt, own_gd, own_N]; have := own_gt a b c; omega
theorem own_glN (X P G : Int) (hP : 1 ≤ P) (hX : 0 ≤ X) (e : G = X / P * P) : G ≤ X ∧ X < G + P ∧ 0 ≤ G := by
  have k1 := Int.emod_add_mul_ediv X P
  have k2 := Int.emod_nonneg X (show P ≠ 0 by omega)
  have k3 := Int.emod_lt_of_pos X (show 0 < P by omega)
  have k4 : 0 ≤ X / P * P := Int.mul_nonneg (Int.ediv_nonneg hX (by omega)) (by omega)
  rw [Int.mul_comm P (X / P)] at k1
  generalize X / P * P = u at *
  generalize X % P = v at *
  omega
theorem own_gl (a b c : Int64) : (gl a b c).toInt = (gr a b).toInt * 1000000000 / (gp a).toInt * (gp a).toInt ∧ (gl a b c).toInt ≤ (gr a b).toInt * 1000000000 ∧ (gr a b).toInt * 1000000000 < (gl a b c).toInt + (gp a).toInt ∧ 0 ≤ (gl a b c).toInt := by
  have h1 := own_gp a
  have h3 := own_gr a b
  have hd := own_gd a b c
  have k := own_glN ((gr a b).toInt * 1000000000) (gp a).toInt _ h1.1 (by omega) rfl
  have hm : (gr a b).toInt * 1000000000 / (gp a).toInt * (gp a).toInt = (gd a b c).toInt * (gp a).toInt := by rw [hd]
  rw [hm] at k ⊢
  have e : (gl a b c).toInt = (gd a b c).toInt * (gp a).toInt := by
    unfold gl
    exact own_mul (a := gd a b c) (b := gp a) (by generalize (gd a b c).toInt * (gp a).toInt = u at *; omega) (by generalize (gd a b c).toInt * (gp a).toInt = u at *; omega)
  rw [e]
  exact ⟨rfl, k⟩
theorem own_b114 (a b c : Int64) : ¬ gx a b < gl a b c := by
  rw [Int64.lt_iff_toInt_lt, show (gx a b).toInt = _ from own_rN a b]; have := own_gl a b c; omega
theorem own_b125 (a b c : Int64) : gx a b - gl a b c < gp a := by
  have h := own_gl a b c
  have h1 := own_gp a
  have h3 := own_gr a b
  have e : (gx a b).toInt = (gr a b).toInt * 1000000000 := own_rN a b
  rw [Int64.lt_iff_toInt_lt, own_sub (by omega) (by omega)]
  omega
def Q0 (Z : State) (q0 : Int64) (q1 : Int64) (q2 : Int64)  (h0 : Heap) (n0 : Nat) (v : Option Value) (h : Heap) (L : List Loc) : Prop := v = some (.int 1) ∧ Fr n0 L
set_option maxRecDepth 65536 in
set_option maxHeartbeats 40000000 in
theorem rm0 (l : Launch) (Z : State) (a0 : Array Value) (hw : ∀ d ∈ tables_1, d.before a0 Z = true) (ws : List Jvm.Cond) (q0 : Int64) (q1 : Int64) (q2 : Int64)  (h0 : Heap) (n0 : Nat) (Z0 : n0 ≤ h0.size)  :
    MetFree l x (head1 (Jvm.Cond.code x code maxLocals ret :: ws) room_1) (fun a U => a = #[(.long q0), (.long q1), (.long q2)] ∧ Z.Warmed39 U.vm ∧ U.heap = h0) (fun _ _ _ _ _ => True) (fun _ U o U' => ∃ v L, o = .returned v ∧ Q0 Z q0 q1 q2  h0 n0 v U'.heap L ∧ FrameEnd U o U' L room_1.cells room_1.slots) := by
  refine MetFree.of_bodySF (plainFor_of_name pn_2) hisR ?_
  intro p e s m args below meth c s₁ Bd hml0 hP hK
  obtain ⟨rfl, hZ, hh⟩ := hP
  have hx := Bd.exec
  have hby := Bd.bytes
  have hml : c.maxLocals = 23 := hml0
  have hown : s.vm.findClass "com/example/bounded_load/boundedload/load/PaceDuePinLaw" = some m.cls := findClass_of_methodNamed Bd.named
  have hnm := (name_of_methodNamed Bd.named Bd.method).1
  have X0 : Stand p l e room_1 s m #[(.long q0), (.long q1), (.long q2)] below meth c s₁ [] 0 0 := Stand.of_body Bd
  have e0 : s₁.heap = h0 := by rw [← hh, Bd.state]; rfl
  have pre0 : ∀ t, Steps p.tables e below (s₁.setTop (mkF m 0 #[.val (.long q0), .second, .val (.long q1), .second, .val (.long q2), .second, .unset, .unset, .unset, .unset, .unset, .unset, .unset, .unset, .unset, .unset, .unset, .unset, .unset, .unset, .unset, .unset, .unset] [])) t → Steps p.tables e below (s₁.setTop (entryFrame m #[(.long q0), (.long q1), (.long q2)] maxLocals)) t := fun t k => castTop (ef_0 m q0 q1 q2) k
  have N0 := Fr.nil n0
  obtain ⟨T1, h1, X1, e1, E1, A1, D1, -, st1⟩ := newO X0 hx hZ hown (hw _ (List.mem_of_getElem? (i := 4) rfl)) (hw _ (List.mem_of_getElem? (i := 5) rfl)) (hw _ (List.mem_of_getElem? (i := 6) rfl)) e0 (g := (mkF m 45 #[.val (.long q0), .second, .val (.long q1), .second, .val (.long q2), .second, .val (.long (gp q0)), .second, .val (.long (gr q0 q1)), .second, .val (.long (gq q2)), .second, .val (.long (gi q0 q1 q2)), .second, .unset, .unset, .unset, .unset, .unset, .unset, .unset, .unset, .unset] [])) rfl (hb hby at_45) (by decide) (by decide)
  obtain ⟨b1, g1⟩ : ∃ z, z = h0.size := ⟨_, rfl⟩
  rw [← g1] at A1 D1 st1
  have gn1 : n0 ≤ b1 := Nat.le_trans Z0 (Nat.le_of_eq g1.symm)
  have Z1 : n0 ≤ h1.size := Nat.le_trans Z0 E1.1
  have F1_perSecond : Fld Z h1 b1 "com/example/bounded_load/boundedload/load/Pace" "perSecond" "J" (.long (0 : Int64)) := D1 (Or.inr (hw _ (List.mem_of_getElem? (i := 20) rfl))) (ty := .long) (by decide)
  obtain ⟨_, _, ⟨T2, L2, k2, n2⟩, -, X2, ⟨Lc2, hQ2, l2, y2, z2⟩, st2⟩ := X1.specialBack hx (y := (⟨"com/example/bounded_load/boundedload/load/Pace", "<init>", "(J)V"⟩ : MethodName)) rfl hown (mvT hZ (hw _ (List.mem_of_getElem? (i := 7) rfl))) (mvT hZ (hw _ (List.mem_of_getElem? (i := 8) rfl))) (mvT hZ (hw _ (List.mem_of_getElem? (i := 9) rfl))) (by decide) (backOf (W := 1) (rm1 l Z a0 hw [] b1 (gp q0) (.long (0 : Int64)) h1 n0 Z1 F1_perSecond A1 gn1 (own_p1 q0) (own_p2 q0)) hZ (hw _ (List.mem_of_getElem? (i := 9) rfl)) (hw _ (List.mem_of_getElem? (i := 6) rfl)) (by decide) (by decide)) (g := (mkF m 51 #[.val (.long q0), .second, .val (.long q1), .second, .val (.long q2), .second, .val (.long (gp q0)), .second, .val (.long (gr q0 q1)), .second, .val (.long (gq q2)), .second, .val (.long (gi q0 q1 q2)), .second, .unset, .unset, .unset, .unset, .unset, .unset, .unset, .unset, .unset] [(.long (gp q0)), (.ref b1), (.ref b1)])) rfl (by rw [hml]; rfl) (Steps.refl _) (a := b1) (argsL := [(.long (gp q0))]) (rest := [(.ref b1)]) (lenOf pd_1 rfl) rfl (by show 2 * 0 + _ ≤ _; exact Nat.le_of_eq rfl) (hb hby at_51) (fun _ _ => ⟨rfl, e1, (by decide : 1 + 0 ≤ _), (by decide : 1 + 0 ≤ _)⟩)
  dsimp only [Pt.U, Pt.locs, Pt.cells, Pt.slots] at X2 l2 y2 z2 st2 hQ2
  subst l2 y2 z2
  obtain ⟨rfl, N2q, K2q, F2q⟩ := hQ2
  have N2 := Fr.app N0 N2q
  have Z2 : n0 ≤ T2.heap.size := Nat.le_trans Z1 K2q.1
  have G3 : Exa Z T2.heap b1 "com/example/bounded_load/boundedload/load/Pace" := A1.keep K2q
  obtain ⟨cq4, kq4, q4a, q4b, q4c⟩ := isOf hZ rfl G3
  obtain ⟨_, _, ⟨T4, L4, k4, n4⟩, -, X4, ⟨Lc4, hQ4, l4, y4, z4⟩, st4⟩ := X2.virtualBack hx (y := (⟨"com/example/bounded_load/boundedload/load/Pace", "due", "(J)J"⟩ : MethodName)) (z := (⟨"com/example/bounded_load/boundedload/load/Pace", "due", "(J)J"⟩ : MethodName)) hown (mvT hZ (hw _ (List.mem_of_getElem? (i := 21) rfl))) (mvT hZ (hw _ (List.mem_of_getElem? (i := 22) rfl))) (notFace_of_selects (args := #[]) (mvT hZ (hw _ (List.mem_of_getElem? (i := 24) rfl)))) (mvT hZ (hw _ (List.mem_of_getElem? (i := 24) rfl))) (mvT hZ (hw _ (List.mem_of_getElem? (i := 23) rfl))) (by decide) (backOf (W := 0) (rm4 l Z a0 hw [] b1 (gi q0 q1 q2) (gp q0) T2.heap F2q (own_pnz q0)) hZ (hw _ (List.mem_of_getElem? (i := 25) rfl)) (hw _ (List.mem_of_getElem? (i := 6) rfl)) (by decide) (by decide)) q4a q4c (g := (mkF m 60 #[.val (.long q0), .second, .val (.long q1), .second, .val (.long q2), .second, .val (.long (gp q0)), .second, .val (.long (gr q0 q1)), .second, .val (.long (gq q2)), .second, .val (.long (gi q0 q1 q2)), .second, .val (.ref b1), .unset, .unset, .unset, .unset, .unset, .unset, .unset, .unset] [(.long (gi q0 q1 q2)), (.ref b1)])) rfl (by rw [hml]; rfl) (Steps.refl _) (argsL := [(.long (gi q0 q1 q2))]) (rest := []) (lenOf pd_2 rfl) rfl (by show 2 * 0 + _ ≤ _; exact Nat.le_of_eq rfl) (hb hby at_60) (fun _ _ => ⟨rfl, rfl, (by decide : 1 + 0 ≤ _), (by decide : 1 + 0 ≤ _)⟩)
  dsimp only [Pt.U, Pt.locs, Pt.cells, Pt.slots] at X4 l4 y4 z4 st4 hQ4
  subst l4 y4 z4
  obtain ⟨rfl, rfl, e4⟩ := hQ4
  try rw [List.append_nil] at X4
  have K5 : ∀ t, Steps p.tables e below (T4.setTop (mkF m 133 #[.val (.long q0), .second, .val (.long q1), .second, .val (.long q2), .second, .val (.long (gp q0)), .second, .val (.long (gr q0 q1)), .second, .val (.long (gq q2)), .second, .val (.long (gi q0 q1 q2)), .second, .val (.ref b1), .val (.long (gt q0 q1 q2)), .second, .val (.long (gd q0 q1 q2)), .second, .val (.long (gl q0 q1 q2)), .second, .val (.long (gx q0 q1)), .second] [(.int (1 : Int32))])) t → Steps p.tables e below (s₁.setTop (mkF m 0 #[.val (.long q0), .second, .val (.long q1), .second, .val (.long q2), .second, .unset, .unset, .unset, .unset, .unset, .unset, .unset, .unset, .unset, .unset, .unset, .unset, .unset, .unset, .unset, .unset, .unset] [])) t := by
    intro t kt
    show Steps p.tables e below (s₁.setTop (mkF m 0 #[.val (.long q0), .second, .val (.long q1), .second, .val (.long q2), .second, .unset, .unset, .unset, .unset, .unset, .unset, .unset, .unset, .unset, .unset, .unset, .unset, .unset, .unset, .unset, .unset, .unset] [])) _
    refine XS.lloadN X0.here hx rfl (hb hby at_0) rfl ?_
    show Steps p.tables e below (s₁.setTop (mkF m 1 #[.val (.long q0), .second, .val (.long q1), .second, .val (.long q2), .second, .unset, .unset, .unset, .unset, .unset, .unset, .unset, .unset, .unset, .unset, .unset, .unset, .unset, .unset, .unset, .unset, .unset] [(.long q0)])) _
    refine X0.ldc2Long hx hown (mvT hZ (hw _ (List.mem_of_getElem? (i := 0) rfl))) (g := (mkF m 1 #[.val (.long q0), .second, .val (.long q1), .second, .val (.long q2), .second, .unset, .unset, .unset, .unset, .unset, .unset, .unset, .unset, .unset, .unset, .unset, .unset, .unset, .unset, .unset, .unset, .unset] [(.long q0)])) rfl (hb hby at_1) _ ?_
    show Steps p.tables e below (s₁.setTop (mkF m 4 #[.val (.long q0), .second, .val (.long q1), .second, .val (.long q2), .second, .unset, .unset, .unset, .unset, .unset, .unset, .unset, .unset, .unset, .unset, .unset, .unset, .unset, .unset, .unset, .unset, .unset] [(.long (2147483647 : Int64)), (.long q0)])) _
    refine XS.land X0.here hx rfl (hb hby at_4) rfl ?_
    show Steps p.tables e below (s₁.setTop (mkF m 5 #[.val (.long q0), .second, .val (.long q1), .second, .val (.long q2), .second, .unset, .unset, .unset, .unset, .unset, .unset, .unset, .unset, .unset, .unset, .unset, .unset, .unset, .unset, .unset, .unset, .unset] [(.long (q0 &&& (2147483647 : Int64)))])) _
    refine X0.ldc2Long hx hown (mvT hZ (hw _ (List.mem_of_getElem? (i := 1) rfl))) (g := (mkF m 5 #[.val (.long q0), .second, .val (.long q1), .second, .val (.long q2), .second, .unset, .unset, .unset, .unset, .unset, .unset, .unset, .unset, .unset, .unset, .unset, .unset, .unset, .unset, .unset, .unset, .unset] [(.long (q0 &&& (2147483647 : Int64)))])) rfl (hb hby at_5) _ ?_
    show Steps p.tables e below (s₁.setTop (mkF m 8 #[.val (.long q0), .second, .val (.long q1), .second, .val (.long q2), .second, .unset, .unset, .unset, .unset, .unset, .unset, .unset, .unset, .unset, .unset, .unset, .unset, .unset, .unset, .unset, .unset, .unset] [(.long (1000000000 : Int64)), (.long (q0 &&& (2147483647 : Int64)))])) _
    refine XS.lrem X0.here hx rfl (hb hby at_8) rfl (by decide) ?_
    show Steps p.tables e below (s₁.setTop (mkF m 9 #[.val (.long q0), .second, .val (.long q1), .second, .val (.long q2), .second, .unset, .unset, .unset, .unset, .unset, .unset, .unset, .unset, .unset, .unset, .unset, .unset, .unset, .unset, .unset, .unset, .unset] [(.long ((q0 &&& (2147483647 : Int64)) - ((q0 &&& (2147483647 : Int64)) / (1000000000 : Int64)) * (1000000000 : Int64)))])) _
    refine XS.lconst X0.here hx rfl (hb hby at_9) ?_
    show Steps p.tables e below (s₁.setTop (mkF m 10 #[.val (.long q0), .second, .val (.long q1), .second, .val (.long q2), .second, .unset, .unset, .unset, .unset, .unset, .unset, .unset, .unset, .unset, .unset, .unset, .unset, .unset, .unset, .unset, .unset, .unset] [(.long (1 : Int64)), (.long ((q0 &&& (2147483647 : Int64)) - ((q0 &&& (2147483647 : Int64)) / (1000000000 : Int64)) * (1000000000 : Int64)))])) _
    refine XS.ladd X0.here hx rfl (hb hby at_10) rfl ?_
    show Steps p.tables e below (s₁.setTop (mkF m 11 #[.val (.long q0), .second, .val (.long q1), .second, .val (.long q2), .second, .unset, .unset, .unset, .unset, .unset, .unset, .unset, .unset, .unset, .unset, .unset, .unset, .unset, .unset, .unset, .unset, .unset] [(.long (((q0 &&& (2147483647 : Int64)) - ((q0 &&& (2147483647 : Int64)) / (1000000000 : Int64)) * (1000000000 : Int64)) + (1 : Int64)))])) _
    refine XS.lstore X0.here hx rfl (hb hby at_11) rfl (l' := #[.val (.long q0), .second, .val (.long q1), .second, .val (.long q2), .second, .val (.long (gp q0)), .second, .unset, .unset, .unset, .unset, .unset, .unset, .unset, .unset, .unset, .unset, .unset, .unset, .unset, .unset, .unset]) rfl ?_
    show Steps p.tables e below (s₁.setTop (mkF m 13 #[.val (.long q0), .second, .val (.long q1), .second, .val (.long q2), .second, .val (.long (gp q0)), .second, .unset, .unset, .unset, .unset, .unset, .unset, .unset, .unset, .unset, .unset, .unset, .unset, .unset, .unset, .unset] [])) _
    refine XS.lloadN X0.here hx rfl (hb hby at_13) rfl ?_
    show Steps p.tables e below (s₁.setTop (mkF m 14 #[.val (.long q0), .second, .val (.long q1), .second, .val (.long q2), .second, .val (.long (gp q0)), .second, .unset, .unset, .unset, .unset, .unset, .unset, .unset, .unset, .unset, .unset, .unset, .unset, .unset, .unset, .unset] [(.long q1)])) _
    refine X0.ldc2Long hx hown (mvT hZ (hw _ (List.mem_of_getElem? (i := 2) rfl))) (g := (mkF m 14 #[.val (.long q0), .second, .val (.long q1), .second, .val (.long q2), .second, .val (.long (gp q0)), .second, .unset, .unset, .unset, .unset, .unset, .unset, .unset, .unset, .unset, .unset, .unset, .unset, .unset, .unset, .unset] [(.long q1)])) rfl (hb hby at_14) _ ?_
    show Steps p.tables e below (s₁.setTop (mkF m 17 #[.val (.long q0), .second, .val (.long q1), .second, .val (.long q2), .second, .val (.long (gp q0)), .second, .unset, .unset, .unset, .unset, .unset, .unset, .unset, .unset, .unset, .unset, .unset, .unset, .unset, .unset, .unset] [(.long (9223372036854775807 : Int64)), (.long q1)])) _
    refine XS.land X0.here hx rfl (hb hby at_17) rfl ?_
    show Steps p.tables e below (s₁.setTop (mkF m 18 #[.val (.long q0), .second, .val (.long q1), .second, .val (.long q2), .second, .val (.long (gp q0)), .second, .unset, .unset, .unset, .unset, .unset, .unset, .unset, .unset, .unset, .unset, .unset, .unset, .unset, .unset, .unset] [(.long (q1 &&& (9223372036854775807 : Int64)))])) _
    refine XS.lload X0.here hx rfl (hb hby at_18) rfl ?_
    show Steps p.tables e below (s₁.setTop (mkF m 20 #[.val (.long q0), .second, .val (.long q1), .second, .val (.long q2), .second, .val (.long (gp q0)), .second, .unset, .unset, .unset, .unset, .unset, .unset, .unset, .unset, .unset, .unset, .unset, .unset, .unset, .unset, .unset] [(.long (gp q0)), (.long (q1 &&& (9223372036854775807 : Int64)))])) _
    refine XS.lrem X0.here hx rfl (hb hby at_20) rfl (own_pnz q0) ?_
    show Steps p.tables e below (s₁.setTop (mkF m 21 #[.val (.long q0), .second, .val (.long q1), .second, .val (.long q2), .second, .val (.long (gp q0)), .second, .unset, .unset, .unset, .unset, .unset, .unset, .unset, .unset, .unset, .unset, .unset, .unset, .unset, .unset, .unset] [(.long ((q1 &&& (9223372036854775807 : Int64)) - ((q1 &&& (9223372036854775807 : Int64)) / (gp q0)) * (gp q0)))])) _
    refine XS.lstore X0.here hx rfl (hb hby at_21) rfl (l' := #[.val (.long q0), .second, .val (.long q1), .second, .val (.long q2), .second, .val (.long (gp q0)), .second, .val (.long (gr q0 q1)), .second, .unset, .unset, .unset, .unset, .unset, .unset, .unset, .unset, .unset, .unset, .unset, .unset, .unset]) rfl ?_
    show Steps p.tables e below (s₁.setTop (mkF m 23 #[.val (.long q0), .second, .val (.long q1), .second, .val (.long q2), .second, .val (.long (gp q0)), .second, .val (.long (gr q0 q1)), .second, .unset, .unset, .unset, .unset, .unset, .unset, .unset, .unset, .unset, .unset, .unset, .unset, .unset] [])) _
    refine XS.lload X0.here hx rfl (hb hby at_23) rfl ?_
    show Steps p.tables e below (s₁.setTop (mkF m 25 #[.val (.long q0), .second, .val (.long q1), .second, .val (.long q2), .second, .val (.long (gp q0)), .second, .val (.long (gr q0 q1)), .second, .unset, .unset, .unset, .unset, .unset, .unset, .unset, .unset, .unset, .unset, .unset, .unset, .unset] [(.long q2)])) _
    refine X0.ldc2Long hx hown (mvT hZ (hw _ (List.mem_of_getElem? (i := 2) rfl))) (g := (mkF m 25 #[.val (.long q0), .second, .val (.long q1), .second, .val (.long q2), .second, .val (.long (gp q0)), .second, .val (.long (gr q0 q1)), .second, .unset, .unset, .unset, .unset, .unset, .unset, .unset, .unset, .unset, .unset, .unset, .unset, .unset] [(.long q2)])) rfl (hb hby at_25) _ ?_
    show Steps p.tables e below (s₁.setTop (mkF m 28 #[.val (.long q0), .second, .val (.long q1), .second, .val (.long q2), .second, .val (.long (gp q0)), .second, .val (.long (gr q0 q1)), .second, .unset, .unset, .unset, .unset, .unset, .unset, .unset, .unset, .unset, .unset, .unset, .unset, .unset] [(.long (9223372036854775807 : Int64)), (.long q2)])) _
    refine XS.land X0.here hx rfl (hb hby at_28) rfl ?_
    show Steps p.tables e below (s₁.setTop (mkF m 29 #[.val (.long q0), .second, .val (.long q1), .second, .val (.long q2), .second, .val (.long (gp q0)), .second, .val (.long (gr q0 q1)), .second, .unset, .unset, .unset, .unset, .unset, .unset, .unset, .unset, .unset, .unset, .unset, .unset, .unset] [(.long (q2 &&& (9223372036854775807 : Int64)))])) _
    refine X0.ldc2Long hx hown (mvT hZ (hw _ (List.mem_of_getElem? (i := 3) rfl))) (g := (mkF m 29 #[.val (.long q0), .second, .val (.long q1), .second, .val (.long q2), .second, .val (.long (gp q0)), .second, .val (.long (gr q0 q1)), .second, .unset, .unset, .unset, .unset, .unset, .unset, .unset, .unset, .unset, .unset, .unset, .unset, .unset] [(.long (q2 &&& (9223372036854775807 : Int64)))])) rfl (hb hby at_29) _ ?_
    show Steps p.tables e below (s₁.setTop (mkF m 32 #[.val (.long q0), .second, .val (.long q1), .second, .val (.long q2), .second, .val (.long (gp q0)), .second, .val (.long (gr q0 q1)), .second, .unset, .unset, .unset, .unset, .unset, .unset, .unset, .unset, .unset, .unset, .unset, .unset, .unset] [(.long (9223372036 : Int64)), (.long (q2 &&& (9223372036854775807 : Int64)))])) _
    refine XS.lrem X0.here hx rfl (hb hby at_32) rfl (by decide) ?_
    show Steps p.tables e below (s₁.setTop (mkF m 33 #[.val (.long q0), .second, .val (.long q1), .second, .val (.long q2), .second, .val (.long (gp q0)), .second, .val (.long (gr q0 q1)), .second, .unset, .unset, .unset, .unset, .unset, .unset, .unset, .unset, .unset, .unset, .unset, .unset, .unset] [(.long ((q2 &&& (9223372036854775807 : Int64)) - ((q2 &&& (9223372036854775807 : Int64)) / (9223372036 : Int64)) * (9223372036 : Int64)))])) _
    refine XS.lstore X0.here hx rfl (hb hby at_33) rfl (l' := #[.val (.long q0), .second, .val (.long q1), .second, .val (.long q2), .second, .val (.long (gp q0)), .second, .val (.long (gr q0 q1)), .second, .val (.long (gq q2)), .second, .unset, .unset, .unset, .unset, .unset, .unset, .unset, .unset, .unset, .unset, .unset]) rfl ?_
    show Steps p.tables e below (s₁.setTop (mkF m 35 #[.val (.long q0), .second, .val (.long q1), .second, .val (.long q2), .second, .val (.long (gp q0)), .second, .val (.long (gr q0 q1)), .second, .val (.long (gq q2)), .second, .unset, .unset, .unset, .unset, .unset, .unset, .unset, .unset, .unset, .unset, .unset] [])) _
    refine XS.lload X0.here hx rfl (hb hby at_35) rfl ?_
    show Steps p.tables e below (s₁.setTop (mkF m 37 #[.val (.long q0), .second, .val (.long q1), .second, .val (.long q2), .second, .val (.long (gp q0)), .second, .val (.long (gr q0 q1)), .second, .val (.long (gq q2)), .second, .unset, .unset, .unset, .unset, .unset, .unset, .unset, .unset, .unset, .unset, .unset] [(.long (gq q2))])) _
    refine XS.lload X0.here hx rfl (hb hby at_37) rfl ?_
    show Steps p.tables e below (s₁.setTop (mkF m 39 #[.val (.long q0), .second, .val (.long q1), .second, .val (.long q2), .second, .val (.long (gp q0)), .second, .val (.long (gr q0 q1)), .second, .val (.long (gq q2)), .second, .unset, .unset, .unset, .unset, .unset, .unset, .unset, .unset, .unset, .unset, .unset] [(.long (gp q0)), (.long (gq q2))])) _
    refine XS.lmul X0.here hx rfl (hb hby at_39) rfl ?_
    show Steps p.tables e below (s₁.setTop (mkF m 40 #[.val (.long q0), .second, .val (.long q1), .second, .val (.long q2), .second, .val (.long (gp q0)), .second, .val (.long (gr q0 q1)), .second, .val (.long (gq q2)), .second, .unset, .unset, .unset, .unset, .unset, .unset, .unset, .unset, .unset, .unset, .unset] [(.long ((gq q2) * (gp q0)))])) _
    refine XS.lload X0.here hx rfl (hb hby at_40) rfl ?_
    show Steps p.tables e below (s₁.setTop (mkF m 42 #[.val (.long q0), .second, .val (.long q1), .second, .val (.long q2), .second, .val (.long (gp q0)), .second, .val (.long (gr q0 q1)), .second, .val (.long (gq q2)), .second, .unset, .unset, .unset, .unset, .unset, .unset, .unset, .unset, .unset, .unset, .unset] [(.long (gr q0 q1)), (.long ((gq q2) * (gp q0)))])) _
    refine XS.ladd X0.here hx rfl (hb hby at_42) rfl ?_
    show Steps p.tables e below (s₁.setTop (mkF m 43 #[.val (.long q0), .second, .val (.long q1), .second, .val (.long q2), .second, .val (.long (gp q0)), .second, .val (.long (gr q0 q1)), .second, .val (.long (gq q2)), .second, .unset, .unset, .unset, .unset, .unset, .unset, .unset, .unset, .unset, .unset, .unset] [(.long (((gq q2) * (gp q0)) + (gr q0 q1)))])) _
    refine XS.lstore X0.here hx rfl (hb hby at_43) rfl (l' := #[.val (.long q0), .second, .val (.long q1), .second, .val (.long q2), .second, .val (.long (gp q0)), .second, .val (.long (gr q0 q1)), .second, .val (.long (gq q2)), .second, .val (.long (gi q0 q1 q2)), .second, .unset, .unset, .unset, .unset, .unset, .unset, .unset, .unset, .unset]) rfl ?_
    show Steps p.tables e below (s₁.setTop (mkF m 45 #[.val (.long q0), .second, .val (.long q1), .second, .val (.long q2), .second, .val (.long (gp q0)), .second, .val (.long (gr q0 q1)), .second, .val (.long (gq q2)), .second, .val (.long (gi q0 q1 q2)), .second, .unset, .unset, .unset, .unset, .unset, .unset, .unset, .unset, .unset] [])) _
    refine st1 _ ?_
    show Steps p.tables e below (T1.setTop (mkF m 48 #[.val (.long q0), .second, .val (.long q1), .second, .val (.long q2), .second, .val (.long (gp q0)), .second, .val (.long (gr q0 q1)), .second, .val (.long (gq q2)), .second, .val (.long (gi q0 q1 q2)), .second, .unset, .unset, .unset, .unset, .unset, .unset, .unset, .unset, .unset] [(.ref b1)])) _
    refine XS.dup X1.here hx rfl (hb hby at_48) rfl rfl ?_
    show Steps p.tables e below (T1.setTop (mkF m 49 #[.val (.long q0), .second, .val (.long q1), .second, .val (.long q2), .second, .val (.long (gp q0)), .second, .val (.long (gr q0 q1)), .second, .val (.long (gq q2)), .second, .val (.long (gi q0 q1 q2)), .second, .unset, .unset, .unset, .unset, .unset, .unset, .unset, .unset, .unset] [(.ref b1), (.ref b1)])) _
    refine XS.lload X1.here hx rfl (hb hby at_49) rfl ?_
    show Steps p.tables e below (T1.setTop (mkF m 51 #[.val (.long q0), .second, .val (.long q1), .second, .val (.long q2), .second, .val (.long (gp q0)), .second, .val (.long (gr q0 q1)), .second, .val (.long (gq q2)), .second, .val (.long (gi q0 q1 q2)), .second, .unset, .unset, .unset, .unset, .unset, .unset, .unset, .unset, .unset] [(.long (gp q0)), (.ref b1), (.ref b1)])) _
    refine st2.trans ?_
    show Steps p.tables e below (T2.setTop (mkF m 54 #[.val (.long q0), .second, .val (.long q1), .second, .val (.long q2), .second, .val (.long (gp q0)), .second, .val (.long (gr q0 q1)), .second, .val (.long (gq q2)), .second, .val (.long (gi q0 q1 q2)), .second, .unset, .unset, .unset, .unset, .unset, .unset, .unset, .unset, .unset] [(.ref b1)])) _
    refine XS.astore X2.here hx rfl (hb hby at_54) rfl rfl (l' := #[.val (.long q0), .second, .val (.long q1), .second, .val (.long q2), .second, .val (.long (gp q0)), .second, .val (.long (gr q0 q1)), .second, .val (.long (gq q2)), .second, .val (.long (gi q0 q1 q2)), .second, .val (.ref b1), .unset, .unset, .unset, .unset, .unset, .unset, .unset, .unset]) rfl ?_
    show Steps p.tables e below (T2.setTop (mkF m 56 #[.val (.long q0), .second, .val (.long q1), .second, .val (.long q2), .second, .val (.long (gp q0)), .second, .val (.long (gr q0 q1)), .second, .val (.long (gq q2)), .second, .val (.long (gi q0 q1 q2)), .second, .val (.ref b1), .unset, .unset, .unset, .unset, .unset, .unset, .unset, .unset] [])) _
    refine XS.aload X2.here hx rfl (hb hby at_56) rfl rfl ?_
    show Steps p.tables e below (T2.setTop (mkF m 58 #[.val (.long q0), .second, .val (.long q1), .second, .val (.long q2), .second, .val (.long (gp q0)), .second, .val (.long (gr q0 q1)), .second, .val (.long (gq q2)), .second, .val (.long (gi q0 q1 q2)), .second, .val (.ref b1), .unset, .unset, .unset, .unset, .unset, .unset, .unset, .unset] [(.ref b1)])) _
    refine XS.lload X2.here hx rfl (hb hby at_58) rfl ?_
    show Steps p.tables e below (T2.setTop (mkF m 60 #[.val (.long q0), .second, .val (.long q1), .second, .val (.long q2), .second, .val (.long (gp q0)), .second, .val (.long (gr q0 q1)), .second, .val (.long (gq q2)), .second, .val (.long (gi q0 q1 q2)), .second, .val (.ref b1), .unset, .unset, .unset, .unset, .unset, .unset, .unset, .unset] [(.long (gi q0 q1 q2)), (.ref b1)])) _
    refine st4.trans ?_
    show Steps p.tables e below (T4.setTop (mkF m 63 #[.val (.long q0), .second, .val (.long q1), .second, .val (.long q2), .second, .val (.long (gp q0)), .second, .val (.long (gr q0 q1)), .second, .val (.long (gq q2)), .second, .val (.long (gi q0 q1 q2)), .second, .val (.ref b1), .unset, .unset, .unset, .unset, .unset, .unset, .unset, .unset] [(.long (f4 (gi q0 q1 q2) (gp q0)))])) _
    refine XS.lstore X4.here hx rfl (hb hby at_63) rfl (l' := #[.val (.long q0), .second, .val (.long q1), .second, .val (.long q2), .second, .val (.long (gp q0)), .second, .val (.long (gr q0 q1)), .second, .val (.long (gq q2)), .second, .val (.long (gi q0 q1 q2)), .second, .val (.ref b1), .val (.long (gt q0 q1 q2)), .second, .unset, .unset, .unset, .unset, .unset, .unset]) rfl ?_
    show Steps p.tables e below (T4.setTop (mkF m 65 #[.val (.long q0), .second, .val (.long q1), .second, .val (.long q2), .second, .val (.long (gp q0)), .second, .val (.long (gr q0 q1)), .second, .val (.long (gq q2)), .second, .val (.long (gi q0 q1 q2)), .second, .val (.ref b1), .val (.long (gt q0 q1 q2)), .second, .unset, .unset, .unset, .unset, .unset, .unset] [])) _
    refine XS.lload X4.here hx rfl (hb hby at_65) rfl ?_
    show Steps p.tables e below (T4.setTop (mkF m 67 #[.val (.long q0), .second, .val (.long q1), .second, .val (.long q2), .second, .val (.long (gp q0)), .second, .val (.long (gr q0 q1)), .second, .val (.long (gq q2)), .second, .val (.long (gi q0 q1 q2)), .second, .val (.ref b1), .val (.long (gt q0 q1 q2)), .second, .unset, .unset, .unset, .unset, .unset, .unset] [(.long (gt q0 q1 q2))])) _
    refine XS.lload X4.here hx rfl (hb hby at_67) rfl ?_
    show Steps p.tables e below (T4.setTop (mkF m 69 #[.val (.long q0), .second, .val (.long q1), .second, .val (.long q2), .second, .val (.long (gp q0)), .second, .val (.long (gr q0 q1)), .second, .val (.long (gq q2)), .second, .val (.long (gi q0 q1 q2)), .second, .val (.ref b1), .val (.long (gt q0 q1 q2)), .second, .unset, .unset, .unset, .unset, .unset, .unset] [(.long (gq q2)), (.long (gt q0 q1 q2))])) _
    refine X4.ldc2Long hx hown (mvT hZ (hw _ (List.mem_of_getElem? (i := 1) rfl))) (g := (mkF m 69 #[.val (.long q0), .second, .val (.long q1), .second, .val (.long q2), .second, .val (.long (gp q0)), .second, .val (.long (gr q0 q1)), .second, .val (.long (gq q2)), .second, .val (.long (gi q0 q1 q2)), .second, .val (.ref b1), .val (.long (gt q0 q1 q2)), .second, .unset, .unset, .unset, .unset, .unset, .unset] [(.long (gq q2)), (.long (gt q0 q1 q2))])) rfl (hb hby at_69) _ ?_
    show Steps p.tables e below (T4.setTop (mkF m 72 #[.val (.long q0), .second, .val (.long q1), .second, .val (.long q2), .second, .val (.long (gp q0)), .second, .val (.long (gr q0 q1)), .second, .val (.long (gq q2)), .second, .val (.long (gi q0 q1 q2)), .second, .val (.ref b1), .val (.long (gt q0 q1 q2)), .second, .unset, .unset, .unset, .unset, .unset, .unset] [(.long (1000000000 : Int64)), (.long (gq q2)), (.long (gt q0 q1 q2))])) _
    refine XS.lmul X4.here hx rfl (hb hby at_72) rfl ?_
    show Steps p.tables e below (T4.setTop (mkF m 73 #[.val (.long q0), .second, .val (.long q1), .second, .val (.long q2), .second, .val (.long (gp q0)), .second, .val (.long (gr q0 q1)), .second, .val (.long (gq q2)), .second, .val (.long (gi q0 q1 q2)), .second, .val (.ref b1), .val (.long (gt q0 q1 q2)), .second, .unset, .unset, .unset, .unset, .unset, .unset] [(.long ((gq q2) * (1000000000 : Int64))), (.long (gt q0 q1 q2))])) _
    refine XS.lsub X4.here hx rfl (hb hby at_73) rfl ?_
    show Steps p.tables e below (T4.setTop (mkF m 74 #[.val (.long q0), .second, .val (.long q1), .second, .val (.long q2), .second, .val (.long (gp q0)), .second, .val (.long (gr q0 q1)), .second, .val (.long (gq q2)), .second, .val (.long (gi q0 q1 q2)), .second, .val (.ref b1), .val (.long (gt q0 q1 q2)), .second, .unset, .unset, .unset, .unset, .unset, .unset] [(.long ((gt q0 q1 q2) - ((gq q2) * (1000000000 : Int64))))])) _
    refine XS.lstore X4.here hx rfl (hb hby at_74) rfl (l' := #[.val (.long q0), .second, .val (.long q1), .second, .val (.long q2), .second, .val (.long (gp q0)), .second, .val (.long (gr q0 q1)), .second, .val (.long (gq q2)), .second, .val (.long (gi q0 q1 q2)), .second, .val (.ref b1), .val (.long (gt q0 q1 q2)), .second, .val (.long (gd q0 q1 q2)), .second, .unset, .unset, .unset, .unset]) rfl ?_
    show Steps p.tables e below (T4.setTop (mkF m 76 #[.val (.long q0), .second, .val (.long q1), .second, .val (.long q2), .second, .val (.long (gp q0)), .second, .val (.long (gr q0 q1)), .second, .val (.long (gq q2)), .second, .val (.long (gi q0 q1 q2)), .second, .val (.ref b1), .val (.long (gt q0 q1 q2)), .second, .val (.long (gd q0 q1 q2)), .second, .unset, .unset, .unset, .unset] [])) _
    refine XS.lload X4.here hx rfl (hb hby at_76) rfl ?_
    show Steps p.tables e below (T4.setTop (mkF m 78 #[.val (.long q0), .second, .val (.long q1), .second, .val (.long q2), .second, .val (.long (gp q0)), .second, .val (.long (gr q0 q1)), .second, .val (.long (gq q2)), .second, .val (.long (gi q0 q1 q2)), .second, .val (.ref b1), .val (.long (gt q0 q1 q2)), .second, .val (.long (gd q0 q1 q2)), .second, .unset, .unset, .unset, .unset] [(.long (gd q0 q1 q2))])) _
    refine XS.lconst X4.here hx rfl (hb hby at_78) ?_
    show Steps p.tables e below (T4.setTop (mkF m 79 #[.val (.long q0), .second, .val (.long q1), .second, .val (.long q2), .second, .val (.long (gp q0)), .second, .val (.long (gr q0 q1)), .second, .val (.long (gq q2)), .second, .val (.long (gi q0 q1 q2)), .second, .val (.ref b1), .val (.long (gt q0 q1 q2)), .second, .val (.long (gd q0 q1 q2)), .second, .unset, .unset, .unset, .unset] [(.long (0 : Int64)), (.long (gd q0 q1 q2))])) _
    refine XS.lcmp X4.here hx rfl (hb hby at_79) rfl ?_
    show Steps p.tables e below (T4.setTop (mkF m 80 #[.val (.long q0), .second, .val (.long q1), .second, .val (.long q2), .second, .val (.long (gp q0)), .second, .val (.long (gr q0 q1)), .second, .val (.long (gq q2)), .second, .val (.long (gi q0 q1 q2)), .second, .val (.ref b1), .val (.long (gt q0 q1 q2)), .second, .val (.long (gd q0 q1 q2)), .second, .unset, .unset, .unset, .unset] [(.int (lcmpW (gd q0 q1 q2) (0 : Int64)))])) _
    refine XS.ifNo X4.here hx rfl (hb hby at_80) rfl ((if0 _ _).trans (flt (mt (lw_lt _ _).mp (show ¬ ((gd q0 q1 q2) < (0 : Int64)) from (own_b80 q0 q1 q2)))).1) ?_
    show Steps p.tables e below (T4.setTop (mkF m 83 #[.val (.long q0), .second, .val (.long q1), .second, .val (.long q2), .second, .val (.long (gp q0)), .second, .val (.long (gr q0 q1)), .second, .val (.long (gq q2)), .second, .val (.long (gi q0 q1 q2)), .second, .val (.ref b1), .val (.long (gt q0 q1 q2)), .second, .val (.long (gd q0 q1 q2)), .second, .unset, .unset, .unset, .unset] [])) _
    refine XS.lload X4.here hx rfl (hb hby at_83) rfl ?_
    show Steps p.tables e below (T4.setTop (mkF m 85 #[.val (.long q0), .second, .val (.long q1), .second, .val (.long q2), .second, .val (.long (gp q0)), .second, .val (.long (gr q0 q1)), .second, .val (.long (gq q2)), .second, .val (.long (gi q0 q1 q2)), .second, .val (.ref b1), .val (.long (gt q0 q1 q2)), .second, .val (.long (gd q0 q1 q2)), .second, .unset, .unset, .unset, .unset] [(.long (gd q0 q1 q2))])) _
    refine X4.ldc2Long hx hown (mvT hZ (hw _ (List.mem_of_getElem? (i := 1) rfl))) (g := (mkF m 85 #[.val (.long q0), .second, .val (.long q1), .second, .val (.long q2), .second, .val (.long (gp q0)), .second, .val (.long (gr q0 q1)), .second, .val (.long (gq q2)), .second, .val (.long (gi q0 q1 q2)), .second, .val (.ref b1), .val (.long (gt q0 q1 q2)), .second, .val (.long (gd q0 q1 q2)), .second, .unset, .unset, .unset, .unset] [(.long (gd q0 q1 q2))])) rfl (hb hby at_85) _ ?_
    show Steps p.tables e below (T4.setTop (mkF m 88 #[.val (.long q0), .second, .val (.long q1), .second, .val (.long q2), .second, .val (.long (gp q0)), .second, .val (.long (gr q0 q1)), .second, .val (.long (gq q2)), .second, .val (.long (gi q0 q1 q2)), .second, .val (.ref b1), .val (.long (gt q0 q1 q2)), .second, .val (.long (gd q0 q1 q2)), .second, .unset, .unset, .unset, .unset] [(.long (1000000000 : Int64)), (.long (gd q0 q1 q2))])) _
    refine XS.lcmp X4.here hx rfl (hb hby at_88) rfl ?_
    show Steps p.tables e below (T4.setTop (mkF m 89 #[.val (.long q0), .second, .val (.long q1), .second, .val (.long q2), .second, .val (.long (gp q0)), .second, .val (.long (gr q0 q1)), .second, .val (.long (gq q2)), .second, .val (.long (gi q0 q1 q2)), .second, .val (.ref b1), .val (.long (gt q0 q1 q2)), .second, .val (.long (gd q0 q1 q2)), .second, .unset, .unset, .unset, .unset] [(.int (lcmpW (gd q0 q1 q2) (1000000000 : Int64)))])) _
    refine XS.ifYes X4.here hx rfl (pc0 := 89) (pc' := 94) rfl (hb hby at_89) rfl ((if0 _ _).trans (tlt ((lw_lt _ _).mpr (show (gd q0 q1 q2) < (1000000000 : Int64) from (own_b89 q0 q1 q2)))).1) (by decide) (by decide) ?_
    show Steps p.tables e below (T4.setTop (mkF m 94 #[.val (.long q0), .second, .val (.long q1), .second, .val (.long q2), .second, .val (.long (gp q0)), .second, .val (.long (gr q0 q1)), .second, .val (.long (gq q2)), .second, .val (.long (gi q0 q1 q2)), .second, .val (.ref b1), .val (.long (gt q0 q1 q2)), .second, .val (.long (gd q0 q1 q2)), .second, .unset, .unset, .unset, .unset] [])) _
    refine XS.lload X4.here hx rfl (hb hby at_94) rfl ?_
    show Steps p.tables e below (T4.setTop (mkF m 96 #[.val (.long q0), .second, .val (.long q1), .second, .val (.long q2), .second, .val (.long (gp q0)), .second, .val (.long (gr q0 q1)), .second, .val (.long (gq q2)), .second, .val (.long (gi q0 q1 q2)), .second, .val (.ref b1), .val (.long (gt q0 q1 q2)), .second, .val (.long (gd q0 q1 q2)), .second, .unset, .unset, .unset, .unset] [(.long (gd q0 q1 q2))])) _
    refine XS.lload X4.here hx rfl (hb hby at_96) rfl ?_
    show Steps p.tables e below (T4.setTop (mkF m 98 #[.val (.long q0), .second, .val (.long q1), .second, .val (.long q2), .second, .val (.long (gp q0)), .second, .val (.long (gr q0 q1)), .second, .val (.long (gq q2)), .second, .val (.long (gi q0 q1 q2)), .second, .val (.ref b1), .val (.long (gt q0 q1 q2)), .second, .val (.long (gd q0 q1 q2)), .second, .unset, .unset, .unset, .unset] [(.long (gp q0)), (.long (gd q0 q1 q2))])) _
    refine XS.lmul X4.here hx rfl (hb hby at_98) rfl ?_
    show Steps p.tables e below (T4.setTop (mkF m 99 #[.val (.long q0), .second, .val (.long q1), .second, .val (.long q2), .second, .val (.long (gp q0)), .second, .val (.long (gr q0 q1)), .second, .val (.long (gq q2)), .second, .val (.long (gi q0 q1 q2)), .second, .val (.ref b1), .val (.long (gt q0 q1 q2)), .second, .val (.long (gd q0 q1 q2)), .second, .unset, .unset, .unset, .unset] [(.long ((gd q0 q1 q2) * (gp q0)))])) _
    refine XS.lstore X4.here hx rfl (hb hby at_99) rfl (l' := #[.val (.long q0), .second, .val (.long q1), .second, .val (.long q2), .second, .val (.long (gp q0)), .second, .val (.long (gr q0 q1)), .second, .val (.long (gq q2)), .second, .val (.long (gi q0 q1 q2)), .second, .val (.ref b1), .val (.long (gt q0 q1 q2)), .second, .val (.long (gd q0 q1 q2)), .second, .val (.long (gl q0 q1 q2)), .second, .unset, .unset]) rfl ?_
    show Steps p.tables e below (T4.setTop (mkF m 101 #[.val (.long q0), .second, .val (.long q1), .second, .val (.long q2), .second, .val (.long (gp q0)), .second, .val (.long (gr q0 q1)), .second, .val (.long (gq q2)), .second, .val (.long (gi q0 q1 q2)), .second, .val (.ref b1), .val (.long (gt q0 q1 q2)), .second, .val (.long (gd q0 q1 q2)), .second, .val (.long (gl q0 q1 q2)), .second, .unset, .unset] [])) _
    refine XS.lload X4.here hx rfl (hb hby at_101) rfl ?_
    show Steps p.tables e below (T4.setTop (mkF m 103 #[.val (.long q0), .second, .val (.long q1), .second, .val (.long q2), .second, .val (.long (gp q0)), .second, .val (.long (gr q0 q1)), .second, .val (.long (gq q2)), .second, .val (.long (gi q0 q1 q2)), .second, .val (.ref b1), .val (.long (gt q0 q1 q2)), .second, .val (.long (gd q0 q1 q2)), .second, .val (.long (gl q0 q1 q2)), .second, .unset, .unset] [(.long (gr q0 q1))])) _
    refine X4.ldc2Long hx hown (mvT hZ (hw _ (List.mem_of_getElem? (i := 1) rfl))) (g := (mkF m 103 #[.val (.long q0), .second, .val (.long q1), .second, .val (.long q2), .second, .val (.long (gp q0)), .second, .val (.long (gr q0 q1)), .second, .val (.long (gq q2)), .second, .val (.long (gi q0 q1 q2)), .second, .val (.ref b1), .val (.long (gt q0 q1 q2)), .second, .val (.long (gd q0 q1 q2)), .second, .val (.long (gl q0 q1 q2)), .second, .unset, .unset] [(.long (gr q0 q1))])) rfl (hb hby at_103) _ ?_
    show Steps p.tables e below (T4.setTop (mkF m 106 #[.val (.long q0), .second, .val (.long q1), .second, .val (.long q2), .second, .val (.long (gp q0)), .second, .val (.long (gr q0 q1)), .second, .val (.long (gq q2)), .second, .val (.long (gi q0 q1 q2)), .second, .val (.ref b1), .val (.long (gt q0 q1 q2)), .second, .val (.long (gd q0 q1 q2)), .second, .val (.long (gl q0 q1 q2)), .second, .unset, .unset] [(.long (1000000000 : Int64)), (.long (gr q0 q1))])) _
    refine XS.lmul X4.here hx rfl (hb hby at_106) rfl ?_
    show Steps p.tables e below (T4.setTop (mkF m 107 #[.val (.long q0), .second, .val (.long q1), .second, .val (.long q2), .second, .val (.long (gp q0)), .second, .val (.long (gr q0 q1)), .second, .val (.long (gq q2)), .second, .val (.long (gi q0 q1 q2)), .second, .val (.ref b1), .val (.long (gt q0 q1 q2)), .second, .val (.long (gd q0 q1 q2)), .second, .val (.long (gl q0 q1 q2)), .second, .unset, .unset] [(.long ((gr q0 q1) * (1000000000 : Int64)))])) _
    refine XS.lstore X4.here hx rfl (hb hby at_107) rfl (l' := #[.val (.long q0), .second, .val (.long q1), .second, .val (.long q2), .second, .val (.long (gp q0)), .second, .val (.long (gr q0 q1)), .second, .val (.long (gq q2)), .second, .val (.long (gi q0 q1 q2)), .second, .val (.ref b1), .val (.long (gt q0 q1 q2)), .second, .val (.long (gd q0 q1 q2)), .second, .val (.long (gl q0 q1 q2)), .second, .val (.long (gx q0 q1)), .second]) rfl ?_
    show Steps p.tables e below (T4.setTop (mkF m 109 #[.val (.long q0), .second, .val (.long q1), .second, .val (.long q2), .second, .val (.long (gp q0)), .second, .val (.long (gr q0 q1)), .second, .val (.long (gq q2)), .second, .val (.long (gi q0 q1 q2)), .second, .val (.ref b1), .val (.long (gt q0 q1 q2)), .second, .val (.long (gd q0 q1 q2)), .second, .val (.long (gl q0 q1 q2)), .second, .val (.long (gx q0 q1)), .second] [])) _
    refine XS.lload X4.here hx rfl (hb hby at_109) rfl ?_
    show Steps p.tables e below (T4.setTop (mkF m 111 #[.val (.long q0), .second, .val (.long q1), .second, .val (.long q2), .second, .val (.long (gp q0)), .second, .val (.long (gr q0 q1)), .second, .val (.long (gq q2)), .second, .val (.long (gi q0 q1 q2)), .second, .val (.ref b1), .val (.long (gt q0 q1 q2)), .second, .val (.long (gd q0 q1 q2)), .second, .val (.long (gl q0 q1 q2)), .second, .val (.long (gx q0 q1)), .second] [(.long (gl q0 q1 q2))])) _
    refine XS.lload X4.here hx rfl (hb hby at_111) rfl ?_
    show Steps p.tables e below (T4.setTop (mkF m 113 #[.val (.long q0), .second, .val (.long q1), .second, .val (.long q2), .second, .val (.long (gp q0)), .second, .val (.long (gr q0 q1)), .second, .val (.long (gq q2)), .second, .val (.long (gi q0 q1 q2)), .second, .val (.ref b1), .val (.long (gt q0 q1 q2)), .second, .val (.long (gd q0 q1 q2)), .second, .val (.long (gl q0 q1 q2)), .second, .val (.long (gx q0 q1)), .second] [(.long (gx q0 q1)), (.long (gl q0 q1 q2))])) _
    refine XS.lcmp X4.here hx rfl (hb hby at_113) rfl ?_
    show Steps p.tables e below (T4.setTop (mkF m 114 #[.val (.long q0), .second, .val (.long q1), .second, .val (.long q2), .second, .val (.long (gp q0)), .second, .val (.long (gr q0 q1)), .second, .val (.long (gq q2)), .second, .val (.long (gi q0 q1 q2)), .second, .val (.ref b1), .val (.long (gt q0 q1 q2)), .second, .val (.long (gd q0 q1 q2)), .second, .val (.long (gl q0 q1 q2)), .second, .val (.long (gx q0 q1)), .second] [(.int (lcmpW (gl q0 q1 q2) (gx q0 q1)))])) _
    refine XS.ifNo X4.here hx rfl (hb hby at_114) rfl ((if0 _ _).trans (flt (mt (lw_gt _ _).mp (show ¬ ((gx q0 q1) < (gl q0 q1 q2)) from (own_b114 q0 q1 q2)))).2.2.1) ?_
    show Steps p.tables e below (T4.setTop (mkF m 117 #[.val (.long q0), .second, .val (.long q1), .second, .val (.long q2), .second, .val (.long (gp q0)), .second, .val (.long (gr q0 q1)), .second, .val (.long (gq q2)), .second, .val (.long (gi q0 q1 q2)), .second, .val (.ref b1), .val (.long (gt q0 q1 q2)), .second, .val (.long (gd q0 q1 q2)), .second, .val (.long (gl q0 q1 q2)), .second, .val (.long (gx q0 q1)), .second] [])) _
    refine XS.lload X4.here hx rfl (hb hby at_117) rfl ?_
    show Steps p.tables e below (T4.setTop (mkF m 119 #[.val (.long q0), .second, .val (.long q1), .second, .val (.long q2), .second, .val (.long (gp q0)), .second, .val (.long (gr q0 q1)), .second, .val (.long (gq q2)), .second, .val (.long (gi q0 q1 q2)), .second, .val (.ref b1), .val (.long (gt q0 q1 q2)), .second, .val (.long (gd q0 q1 q2)), .second, .val (.long (gl q0 q1 q2)), .second, .val (.long (gx q0 q1)), .second] [(.long (gx q0 q1))])) _
    refine XS.lload X4.here hx rfl (hb hby at_119) rfl ?_
    show Steps p.tables e below (T4.setTop (mkF m 121 #[.val (.long q0), .second, .val (.long q1), .second, .val (.long q2), .second, .val (.long (gp q0)), .second, .val (.long (gr q0 q1)), .second, .val (.long (gq q2)), .second, .val (.long (gi q0 q1 q2)), .second, .val (.ref b1), .val (.long (gt q0 q1 q2)), .second, .val (.long (gd q0 q1 q2)), .second, .val (.long (gl q0 q1 q2)), .second, .val (.long (gx q0 q1)), .second] [(.long (gl q0 q1 q2)), (.long (gx q0 q1))])) _
    refine XS.lsub X4.here hx rfl (hb hby at_121) rfl ?_
    show Steps p.tables e below (T4.setTop (mkF m 122 #[.val (.long q0), .second, .val (.long q1), .second, .val (.long q2), .second, .val (.long (gp q0)), .second, .val (.long (gr q0 q1)), .second, .val (.long (gq q2)), .second, .val (.long (gi q0 q1 q2)), .second, .val (.ref b1), .val (.long (gt q0 q1 q2)), .second, .val (.long (gd q0 q1 q2)), .second, .val (.long (gl q0 q1 q2)), .second, .val (.long (gx q0 q1)), .second] [(.long ((gx q0 q1) - (gl q0 q1 q2)))])) _
    refine XS.lload X4.here hx rfl (hb hby at_122) rfl ?_
    show Steps p.tables e below (T4.setTop (mkF m 124 #[.val (.long q0), .second, .val (.long q1), .second, .val (.long q2), .second, .val (.long (gp q0)), .second, .val (.long (gr q0 q1)), .second, .val (.long (gq q2)), .second, .val (.long (gi q0 q1 q2)), .second, .val (.ref b1), .val (.long (gt q0 q1 q2)), .second, .val (.long (gd q0 q1 q2)), .second, .val (.long (gl q0 q1 q2)), .second, .val (.long (gx q0 q1)), .second] [(.long (gp q0)), (.long ((gx q0 q1) - (gl q0 q1 q2)))])) _
    refine XS.lcmp X4.here hx rfl (hb hby at_124) rfl ?_
    show Steps p.tables e below (T4.setTop (mkF m 125 #[.val (.long q0), .second, .val (.long q1), .second, .val (.long q2), .second, .val (.long (gp q0)), .second, .val (.long (gr q0 q1)), .second, .val (.long (gq q2)), .second, .val (.long (gi q0 q1 q2)), .second, .val (.ref b1), .val (.long (gt q0 q1 q2)), .second, .val (.long (gd q0 q1 q2)), .second, .val (.long (gl q0 q1 q2)), .second, .val (.long (gx q0 q1)), .second] [(.int (lcmpW ((gx q0 q1) - (gl q0 q1 q2)) (gp q0)))])) _
    refine XS.ifNo X4.here hx rfl (hb hby at_125) rfl ((if0 _ _).trans (tlt ((lw_lt _ _).mpr (show ((gx q0 q1) - (gl q0 q1 q2)) < (gp q0) from (own_b125 q0 q1 q2)))).2.1) ?_
    show Steps p.tables e below (T4.setTop (mkF m 128 #[.val (.long q0), .second, .val (.long q1), .second, .val (.long q2), .second, .val (.long (gp q0)), .second, .val (.long (gr q0 q1)), .second, .val (.long (gq q2)), .second, .val (.long (gi q0 q1 q2)), .second, .val (.ref b1), .val (.long (gt q0 q1 q2)), .second, .val (.long (gd q0 q1 q2)), .second, .val (.long (gl q0 q1 q2)), .second, .val (.long (gx q0 q1)), .second] [])) _
    refine XS.iconst X4.here hx rfl (hb hby at_128) ?_
    show Steps p.tables e below (T4.setTop (mkF m 129 #[.val (.long q0), .second, .val (.long q1), .second, .val (.long q2), .second, .val (.long (gp q0)), .second, .val (.long (gr q0 q1)), .second, .val (.long (gq q2)), .second, .val (.long (gi q0 q1 q2)), .second, .val (.ref b1), .val (.long (gt q0 q1 q2)), .second, .val (.long (gd q0 q1 q2)), .second, .val (.long (gl q0 q1 q2)), .second, .val (.long (gx q0 q1)), .second] [(.int (1 : Int32))])) _
    refine XS.goto X4.here hx rfl (pc0 := 129) (pc' := 133) rfl (hb hby at_129) (by decide) (by decide) ?_
    exact kt
  obtain ⟨fs, hr, hrun, hended, hW, hsame⟩ := X4.leave (v := some (.int (1 : Int32))) (fun h => by rw [Bd.returns] at h; cases h)
  refine ⟨_, _, pre0 _ (K5 _ ?_), hrun, hended, _, _, rfl, ?_, ⟨_, rfl⟩, hW, hsame.mono (by decide) (by decide)⟩
  · show Steps p.tables e below (T4.setTop (mkF m 133 #[.val (.long q0), .second, .val (.long q1), .second, .val (.long q2), .second, .val (.long (gp q0)), .second, .val (.long (gr q0 q1)), .second, .val (.long (gq q2)), .second, .val (.long (gi q0 q1 q2)), .second, .val (.ref b1), .val (.long (gt q0 q1 q2)), .second, .val (.long (gd q0 q1 q2)), .second, .val (.long (gl q0 q1 q2)), .second, .val (.long (gx q0 q1)), .second] [(.int (1 : Int32))])) _
    exact retN X4 hx (t := .boolean) Bd.returns (by simp) (hb hby at_133) hr
  · show Q0 Z q0 q1 q2  h0 n0 _ T4.heap _
    rw [e4]
    exact ⟨rfl, N2⟩
set_option maxRecDepth 65536 in
set_option maxHeartbeats 40000000 in
theorem comes_1 {Post : Tables → Env → Array Value → State → Outcome → State → Prop} (hpost : ∀ tb e args s v u, (limb_1_1.after args s (.returned v) u = true ∧ limb_1_2.after args s (.returned v) u = true ∧ True) → FrameEnd s (.returned v) u (Jvm.fieldLocs frame_1_writes args s ++ Jvm.arrayLocs frame_1_arrays args s ++ Jvm.staticLocs frame_1_statics s) 16 128 → Post tb e args s (.returned v) u) :
    ArmFor flags0 classFile x code maxLocals ret World_1 tables_1 room_1 Calls_1 rest_1 Pre_1 Post := by
  intro l hfl _ _ p e ha hc hk s m args below hf hA hF happ hP
  obtain ⟨hcalls, hrest, hpre⟩ := hP
  obtain ⟨-, -, -, hnamed, -, -, -, hat⟩ := (Spec.applies_iff hf).mp happ
  obtain ⟨hg, hn⟩ := and_e (Cond.before_iff.mp (show (Jvm.Cond.and given_1 narrow_1).before args s = true from hpre))
  obtain ⟨hcount, hk0⟩ := and_e hg
  obtain ⟨hi0, hk1⟩ := and_e hk0
  obtain ⟨hi1, hk2⟩ := and_e hk1
  have hi2 := hk2
  obtain ⟨w0, w1, w2, rfl⟩ : ∃ w0 w1 w2 : Value, args = #[w0, w1, w2] := by
    have hs : args.size = 3 := by simpa [Cond.value, given_1] using hcount
    obtain ⟨L⟩ := args
    match L, hs with
    | [w0, w1, w2], _ => exact ⟨w0, w1, w2, rfl⟩
  have hw := fun d (hd : d ∈ tables_1) => atoms_spec (ws := Jvm.Cond.code x code maxLocals ret :: tables_1) hat d (List.mem_cons_of_mem _ hd)
  obtain ⟨i0, ei0⟩ := isL_v hi0
  obtain rfl : w0 = (.long i0) := Option.some.inj ei0
  obtain ⟨i1, ei1⟩ := isL_v hi1
  obtain rfl : w1 = (.long i1) := Option.some.inj ei1
  obtain ⟨i2, ei2⟩ := isL_v hi2
  obtain rfl : w2 = (.long i2) := Option.some.inj ei2
  obtain ⟨n, o, h1, h2, h3, v, L, rfl, hQ, hq⟩ := rm0 l s _ hw tables_1 i0 i1 i2 s.heap s.heap.size (Nat.le_refl _) p e ha hc hk s m _ below hf ((Spec.applies_iff_loose hf).mp happ).1 ⟨rfl, State.Warmed39.refl s, rfl⟩ trivial
  obtain ⟨rfl, N⟩ : v = some (.int 1) ∧ Fr s.heap.size L := by
    exact ⟨hQ.1, hQ.2⟩
  refine ⟨n, _, h1, h2, h3, hpost _ _ _ _ _ _ ⟨Cond.after_iff.mpr rfl, Cond.after_iff.mpr (eq_i res_at (Term.int_eval (1)) rfl), trivial⟩ ⟨hq.1, hq.2.1, (hq.2.2.sift fun y hy => Or.inr (N y hy)).mono (by decide) (by decide)⟩⟩
theorem main_1_1 : Claimed_1_1 := comes_1 fun _ _ _ _ _ _ h hF => ⟨h.1, hF⟩
theorem main_1_2 : Claimed_1_2 := comes_1 fun _ _ _ _ _ _ h hF => ⟨h.2.1, hF⟩
end Jvm.Pilot.@@N@@
namespace Jvm.Pilot.@@N@@
open Jvm Jvm.ClassFile Sem Op Lib Jvm.Free Jvm.Stand Jvm.Pilot.@@N@@.Jvm.D
/-! MADE BY PROGRAM (witnessworld.py) out of the Statement's table words and the real class files: 10 classes; the members and pool entries that the words name. The judged class is class 1, her method 1. -/
namespace start1
open Jvm.ClassFile
def u (s : String) : CpInfo := .utf8 (stringToUtf16 s)
/-- a pool by its gaps: so many unusable entries, then the entry; so many at the end -/
def gap : Nat → List CpInfo → List CpInfo
  | 0, r => r
  | n + 1, r => .unusable :: gap n r
def poolList (es : List (Nat × CpInfo)) (last : Nat) : List CpInfo := es.foldr (fun e r => gap e.1 (e.2 :: r)) (gap last [])
def pool (es : List (Nat × CpInfo)) (last : Nat) : Array CpInfo := ⟨poolList es last⟩
def fileOf (pool : Array CpInfo) (this : Nat) (attrs : Array Attribute := #[]) (ms : Array MethodInfo := #[]) (fl : Nat := 33) (sup : Nat := 0) (ifs : Array Nat := #[]) (fds : Array FieldInfo := #[]) : ClassFile where
  minorVersion := 0
  majorVersion := 65
  constantPool := pool
  accessFlags := fl
  thisClass := this
  superClass := sup
  interfaces := ifs
  fields := fds
  methods := ms
  attributes := attrs
def plain (name : String) (sup : Option ClassId) : Class where
  name := name
  kind := .ordinary
  loader := none
  accessFlags := 33
  super := sup
  interfaces := #[]
  cf := none
  fields := #[]
  methods := #[]
  instanceTypes := #[]
  staticTypes := #[]
  resolved := #[]
  callSites := []
  init := .initialized
  statics := none
  mirror := none

def pool0 : Array CpInfo := pool [(5, u "<init>"), (0, u "()V"), (1, .class_ 10), (1, u "java/lang/Object")] 113

def k0c0 : Code := { maxStack := 0, maxLocals := 1, code := object_method_1_code, exceptionTable := #[], attributes := #[] }
def k0m0 : Method := { name := "<init>", desc := "()V", sig := { parameters := [], returnType := none }, accessFlags := 1, code := some k0c0 }
/-- java/lang/Object -/
def k0 : Class := { plain "java/lang/Object" none with
  accessFlags := 33
  interfaces := #[]
  cf := some (fileOf pool0 8 #[] #[{ accessFlags := 1, nameIndex := 5, descriptorIndex := 6, attributes := #[] }] 33 0 #[] #[])
  fields := #[]
  methods := #[k0m0]
  instanceTypes := #[]
  staticTypes := #[]
  resolved := Array.replicate 124 none
  statics := none }

def pool1 : Array CpInfo := pool [(2, .class_ 4), (1, u "java/lang/Object"), (0, u "<init>"), (0, u "()V"), (0, .long 2147483647), (1, .class_ 10), (0, u "com/example/bounded_load/boundedload/load/PaceDuePinLaw"), (0, .long 1000000000), (3, .long 9223372036854775807), (1, .long 9223372036), (1, .class_ 20), (0, u "com/example/bounded_load/boundedload/load/Pace"), (0, .methodref 19 22), (0, .nameAndType 5 23), (0, u "(J)V"), (0, .methodref 19 25), (0, .nameAndType 26 27), (0, u "due"), (0, u "(J)J"), (0, u "N"), (0, u "J"), (3, u "law"), (0, u "(JJJ)Z")] 3

def k1m0 : Method := { name := "<init>", desc := "()V", sig := { parameters := [], returnType := none }, accessFlags := 1, code := none }
def k1c1 : Code := { maxStack := 6, maxLocals := 23, code := code, exceptionTable := #[], attributes := #[] }
def k1m1 : Method := { name := "law", desc := "(JJJ)Z", sig := { parameters := [.long, .long, .long], returnType := some .boolean }, accessFlags := 9, code := some k1c1 }
/-- com/example/bounded_load/boundedload/load/PaceDuePinLaw -/
def k1 : Class := { plain "com/example/bounded_load/boundedload/load/PaceDuePinLaw" (some 0) with
  accessFlags := 49
  interfaces := #[]
  cf := some (fileOf pool1 9 #[] #[{ accessFlags := 1, nameIndex := 5, descriptorIndex := 6, attributes := #[] }, { accessFlags := 9, nameIndex := 33, descriptorIndex := 34, attributes := #[] }] 49 2 #[] #[{ accessFlags := 26, nameIndex := 28, descriptorIndex := 29, attributes := #[] }])
  fields := #[{ name := "N", type := .long, accessFlags := 26, slot := 0, constantValue := 0 }]
  methods := #[k1m0, k1m1]
  instanceTypes := #[]
  staticTypes := #[.long]
  resolved := Array.replicate 38 none
  statics := none }

def pool2 : Array CpInfo := pool [(1, .methodref 2 3), (0, .class_ 4), (0, .nameAndType 5 6), (0, u "java/lang/Object"), (0, u "<init>"), (0, u "()V"), (0, .class_ 8), (0, u "java/lang/Record")] 13

def k2c0 : Code := { maxStack := 1, maxLocals := 1, code := jdk_30_method_1_code, exceptionTable := #[], attributes := #[] }
def k2m0 : Method := { name := "<init>", desc := "()V", sig := { parameters := [], returnType := none }, accessFlags := 4, code := some k2c0 }
/-- java/lang/Record -/
def k2 : Class := { plain "java/lang/Record" (some 0) with
  accessFlags := 1057
  interfaces := #[]
  cf := some (fileOf pool2 7 #[] #[{ accessFlags := 4, nameIndex := 5, descriptorIndex := 6, attributes := #[] }] 1057 2 #[] #[])
  fields := #[]
  methods := #[k2m0]
  instanceTypes := #[]
  staticTypes := #[]
  resolved := Array.replicate 22 none
  statics := none }

def pool3 : Array CpInfo := pool [(1, .methodref 2 3), (0, .class_ 4), (0, .nameAndType 5 6), (0, u "java/lang/Record"), (0, u "<init>"), (0, u "()V"), (0, .class_ 8), (0, u "com/example/bounded_load/boundedload/load/Pace"), (0, .long 1000000000), (10, .fieldref 7 21), (0, .nameAndType 22 23), (0, u "perSecond"), (0, u "J"), (12, u "FASTEST"), (1, u "NANOS_PER_SECOND"), (0, u "(J)V"), (4, u "due"), (0, u "(J)J")] 31

def k3c0 : Code := { maxStack := 4, maxLocals := 3, code := prog_55_method_1_code, exceptionTable := #[], attributes := #[] }
def k3m0 : Method := { name := "<init>", desc := "(J)V", sig := { parameters := [.long], returnType := none }, accessFlags := 1, code := some k3c0 }
def k3c1 : Code := { maxStack := 6, maxLocals := 3, code := prog_55_method_2_code, exceptionTable := #[], attributes := #[] }
def k3m1 : Method := { name := "due", desc := "(J)J", sig := { parameters := [.long], returnType := some .long }, accessFlags := 1, code := some k3c1 }
/-- com/example/bounded_load/boundedload/load/Pace -/
def k3 : Class := { plain "com/example/bounded_load/boundedload/load/Pace" (some 2) with
  accessFlags := 49
  interfaces := #[]
  cf := some (fileOf pool3 7 #[] #[{ accessFlags := 1, nameIndex := 5, descriptorIndex := 39, attributes := #[] }, { accessFlags := 1, nameIndex := 44, descriptorIndex := 45, attributes := #[] }] 49 2 #[] #[{ accessFlags := 18, nameIndex := 22, descriptorIndex := 23, attributes := #[] }, { accessFlags := 25, nameIndex := 36, descriptorIndex := 23, attributes := #[] }, { accessFlags := 26, nameIndex := 38, descriptorIndex := 23, attributes := #[] }])
  fields := #[{ name := "perSecond", type := .long, accessFlags := 18, slot := 0, constantValue := 0 }, { name := "FASTEST", type := .long, accessFlags := 25, slot := 0, constantValue := 0 }, { name := "NANOS_PER_SECOND", type := .long, accessFlags := 26, slot := 1, constantValue := 0 }]
  methods := #[k3m0, k3m1]
  instanceTypes := #[.long]
  staticTypes := #[.long, .long]
  resolved := Array.replicate 77 none
  statics := none }

def pool4 : Array CpInfo := pool [(1, u "java/lang/Cloneable"), (0, .class_ 1), (0, u "java/lang/Object"), (0, .class_ 3)] 3

/-- java/lang/Cloneable -/
def k4 : Class := { plain "java/lang/Cloneable" (some 0) with
  accessFlags := 1537
  interfaces := #[]
  cf := some (fileOf pool4 2 #[] #[] 1537 4 #[] #[])
  fields := #[]
  methods := #[]
  instanceTypes := #[]
  staticTypes := #[]
  resolved := Array.replicate 8 none
  statics := none }

def pool5 : Array CpInfo := pool [(1, u "java/io/Serializable"), (0, .class_ 1), (0, u "java/lang/Object"), (0, .class_ 3)] 3

/-- java/io/Serializable -/
def k5 : Class := { plain "java/io/Serializable" (some 0) with
  accessFlags := 1537
  interfaces := #[]
  cf := some (fileOf pool5 2 #[] #[] 1537 4 #[] #[])
  fields := #[]
  methods := #[]
  instanceTypes := #[]
  staticTypes := #[]
  resolved := Array.replicate 8 none
  statics := none }

/-- the primitive byte -/
def k6 : Class := { plain "byte" none with kind := .primitive 'B', accessFlags := 0x411 }
/-- [B -/
def k7 : Class := { plain "[B" (some 0) with kind := .array 6 .byte, interfaces := #[4, 5], accessFlags := 1041 }

/-- the primitive int -/
def k8 : Class := { plain "int" none with kind := .primitive 'I', accessFlags := 0x411 }
/-- [I -/
def k9 : Class := { plain "[I" (some 0) with kind := .array 8 .int, interfaces := #[4, 5], accessFlags := 1041 }

def heap : Heap := #[]
def classes : Array Class := #[k0, k1, k2, k3, k4, k5, k6, k7, k8, k9]
def interned : List (Array UInt16 × Addr) := []
def slotsUsed : Nat := 0
def theMethod : MethodId := ⟨1, 1⟩
def args0 : Array Value := #[.long 5, .long 5, .long 5]
def aboutOver (below : List Frame) : State where
  vm := { classes := classes, interned := interned.toArray }
  heap := heap
  slotsUsed := slotsUsed
  threads := #[{ frames := .invoking theMethod args0 :: below }]
def below0 : List Frame := [.native { method := ⟨0, 0⟩, args := #[] }]
def about1 : State := aboutOver below0
def p0 : Program := .bare "" "" ""
def e0 : Env := launch0.env 0 0 0
theorem w_frames : about1.frames = Frame.invoking theMethod args0 :: below0 := rfl
set_option maxRecDepth 65536 in
theorem w_args : argsFit about1.vm theMethod args0 = true := by decide +kernel
set_option maxRecDepth 65536 in
theorem w_heap : heapFits about1 = true := by decide +kernel
set_option maxRecDepth 65536 in
theorem w_runnable : about1.curStatus? = some .runnable := by decide +kernel
set_option maxRecDepth 65536 in
theorem w_alone : about1.alone = true := by decide +kernel
set_option maxRecDepth 65536 in
theorem w_named : about1.methodNamed? x = some theMethod := by decide +kernel
set_option maxRecDepth 65536 in
theorem w_hears : about1.hears theMethod below0 = true := by decide +kernel
set_option maxRecDepth 65536 in
theorem w_ripe : about1.ripe theMethod args0 below0 = true := by decide +kernel
theorem w_running : about1.status = .running := rfl
set_option maxRecDepth 65536 in
theorem w_room : about1.hasRoom e0.platform room_1 = true :=
  launch0.hasRoom_least _ room_1 (by decide +kernel) (by decide +kernel) (by decide +kernel) (by decide +kernel) (by decide +kernel) (by decide +kernel)
theorem allAtoms_all (ts : List Jvm.Cond) (a : Array Jvm.Value) (st : Jvm.State) : (allAtoms ts).before a st = ts.all (fun c => c.before a st) := by
  induction ts with
  | nil => rfl
  | cons c t ih =>
    show (Jvm.Cond.and c (allAtoms t)).before a st = _
    rw [Jvm.Cond.before_and, ih, List.all_cons]
def words1 : List Jvm.Cond := Jvm.Cond.code x code maxLocals ret :: tables_1
/-- a 'code' word, met by the world's own term for the bytes: nothing is compared byte by byte -/
theorem code_word {y : MethodName} {bytes : ByteArray} {mx : Nat} {rt : Option FieldType} {a : Array Value} {s : State} {m : MethodId} {meth : Method} {c : Code} (h1 : s.methodNamed? y = some m) (h2 : s.vm.method? m = some meth) (h3 : meth.code = some c) (h4 : c.code = bytes)
    (h5 : (c.maxLocals == mx && c.exceptionTable.isEmpty && decide (c.maxStack ≤ mostOperands) && decide (meth.sig.returnType = rt) && !meth.locks && decide (parseMethodDescriptor y.desc = some meth.sig)) = true) : (Jvm.Cond.code y bytes mx rt).before a s = true := by
  simp only [Bool.and_eq_true, beq_iff_eq, Bool.not_eq_true', decide_eq_true_eq] at h5
  obtain ⟨⟨⟨⟨⟨g1, g2⟩, g3⟩, g4⟩, g5⟩, g6⟩ := h5
  simp [Cond.before, Cond.holds, Cond.value, h1, h2, h3, h4, g1, g2, g3, g4, g5, g6]
def isCode : Jvm.Cond → Bool
  | .code _ _ _ _ => true
  | _ => false
theorem all_split {L : List Jvm.Cond} {P : Jvm.Cond → Bool} (h1 : L.all (fun c => isCode c || P c) = true) (h2 : ∀ c ∈ L.filter isCode, P c = true) : L.all P = true := by
  refine List.all_eq_true.mpr fun c hc => ?_
  have h := List.all_eq_true.mp h1 c hc
  rcases Bool.eq_false_or_eq_true (isCode c) with hi | hi
  · exact h2 c (List.mem_filter.mpr ⟨hc, hi⟩)
  · simpa [hi] using h
set_option maxRecDepth 65536 in
theorem w_c0 : (Jvm.Cond.code x code maxLocals ret).before args0 about1 = true := code_word (m := ⟨1, 1⟩) (meth := k1m1) (c := k1c1) (by decide +kernel) rfl rfl rfl (by decide +kernel)
set_option maxRecDepth 65536 in
theorem w_c1 : (Jvm.Cond.code ({ cls := "com/example/bounded_load/boundedload/load/Pace", name := "<init>", desc := "(J)V" } : Jvm.MethodName) prog_55_method_1_code (3 : Nat) (Option.none : Option Jvm.ClassFile.FieldType)).before args0 about1 = true := code_word (m := ⟨3, 0⟩) (meth := k3m0) (c := k3c0) (by decide +kernel) rfl rfl rfl (by decide +kernel)
set_option maxRecDepth 65536 in
theorem w_c2 : (Jvm.Cond.code ({ cls := "java/lang/Record", name := "<init>", desc := "()V" } : Jvm.MethodName) jdk_30_method_1_code (1 : Nat) (Option.none : Option Jvm.ClassFile.FieldType)).before args0 about1 = true := code_word (m := ⟨2, 0⟩) (meth := k2m0) (c := k2c0) (by decide +kernel) rfl rfl rfl (by decide +kernel)
set_option maxRecDepth 65536 in
theorem w_c3 : (Jvm.Cond.code ({ cls := "java/lang/Object", name := "<init>", desc := "()V" } : Jvm.MethodName) object_method_1_code (1 : Nat) (Option.none : Option Jvm.ClassFile.FieldType)).before args0 about1 = true := code_word (m := ⟨0, 0⟩) (meth := k0m0) (c := k0c0) (by decide +kernel) rfl rfl rfl (by decide +kernel)
set_option maxRecDepth 65536 in
theorem w_c4 : (Jvm.Cond.code ({ cls := "com/example/bounded_load/boundedload/load/Pace", name := "due", desc := "(J)J" } : Jvm.MethodName) prog_55_method_2_code (3 : Nat) (Option.some Jvm.ClassFile.FieldType.long)).before args0 about1 = true := code_word (m := ⟨3, 1⟩) (meth := k3m1) (c := k3c1) (by decide +kernel) rfl rfl rfl (by decide +kernel)
def codes1 : List Jvm.Cond := [Jvm.Cond.code x code maxLocals ret, Jvm.Cond.code ({ cls := "com/example/bounded_load/boundedload/load/Pace", name := "<init>", desc := "(J)V" } : Jvm.MethodName) prog_55_method_1_code (3 : Nat) (Option.none : Option Jvm.ClassFile.FieldType), Jvm.Cond.code ({ cls := "java/lang/Record", name := "<init>", desc := "()V" } : Jvm.MethodName) jdk_30_method_1_code (1 : Nat) (Option.none : Option Jvm.ClassFile.FieldType), Jvm.Cond.code ({ cls := "java/lang/Object", name := "<init>", desc := "()V" } : Jvm.MethodName) object_method_1_code (1 : Nat) (Option.none : Option Jvm.ClassFile.FieldType), Jvm.Cond.code ({ cls := "com/example/bounded_load/boundedload/load/Pace", name := "due", desc := "(J)J" } : Jvm.MethodName) prog_55_method_2_code (3 : Nat) (Option.some Jvm.ClassFile.FieldType.long)]
set_option maxRecDepth 65536 in
theorem codes_eq : words1.filter isCode = codes1 := rfl
theorem w_codes : ∀ c ∈ words1.filter isCode, c.before args0 about1 = true := by
  rw [codes_eq]
  intro c hc
  simp only [codes1, List.mem_cons, List.not_mem_nil, or_false] at hc
  rcases hc with rfl | rfl | rfl | rfl | rfl
  · exact w_c0
  · exact w_c1
  · exact w_c2
  · exact w_c3
  · exact w_c4
set_option maxRecDepth 65536 in
theorem w_t1 : (words1.take 24).all (fun c => isCode c || c.before args0 about1) = true := by decide +kernel
set_option maxRecDepth 65536 in
theorem w_t2 : (words1.drop 24).all (fun c => isCode c || c.before args0 about1) = true := by decide +kernel
theorem w_tables : (allAtoms (Jvm.Cond.code x code maxLocals ret :: tables_1)).before args0 about1 = true := by
  rw [allAtoms_all]
  show words1.all (fun c => c.before args0 about1) = true
  refine all_split ?_ w_codes
  rw [← List.take_append_drop 24 words1, List.all_append, w_t1, w_t2]
  rfl
set_option maxRecDepth 65536 in
theorem w_case : (Jvm.Cond.and given_1 narrow_1).before args0 about1 = true := by decide +kernel
theorem w_applies : (headSpec (Jvm.Cond.code x code maxLocals ret :: tables_1) room_1).applies x e0.platform about1 = true :=
  (Spec.applies_iff w_frames).mpr ⟨w_running, w_runnable, w_alone, w_named, w_hears, w_ripe, w_room, w_tables⟩
theorem atStart : AtStart classFile x code maxLocals ret World_1 tables_1 room_1 Calls_1 rest_1 Pre_1 launch0 p0 e0 about1 theMethod args0 below0 :=
  ⟨lists_1, trivial, launch0.admits_env _ _ _, launch0.least_env, fairChoices_fair.cas, fairChoices_fair.clock, w_frames, w_args, w_heap, w_applies, trivial, trivial, w_case⟩
end start1
theorem witness_1 : WitnessClaimed_1 := ⟨start1.p0, start1.e0, start1.about1, start1.theMethod, start1.args0, start1.below0, start1.atStart⟩
end Jvm.Pilot.@@N@@
