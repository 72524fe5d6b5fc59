import JvmDerived
import JvmDerived.Pilot.@@N@@Statement
import JvmDerived.Pilot.@@N@@Code
set_option linter.unusedVariables false
set_option linter.unusedSimpArgs false
namespace Jvm.Pilot.@@N@@
open Jvm Jvm.ClassFile Sem Op Lib Jvm.Free Jvm.Stand Jvm.LawKit Jvm.RoadKit Bundle Jvm.Pilot.@@N@@.Jvm.D
theorem ef_1 (m : MethodId) (x0 : Addr) (x1 : Int64) : entryFrame m #[(.ref x0), (.long x1)] 3 = mkF m 0 #[.val (.ref x0), .val (.long x1), .second] [] := by first | (simp [entryFrame, mkF, argsToLocals, Value.category]; done) | rfl
theorem pn_0 : plainName "com/example/nwx/nwx/core/MemoryShare" = true := by first | (simp [plainName, overriddenIn]; done) | decide +kernel
theorem d1_0 : decode prog_53_method_1_code 0 = .ok (.aload_n 0, 1) := by decide +kernel
theorem d1_1 : decode prog_53_method_1_code 1 = .ok (.invokespecial 1, 3) := by decide +kernel
theorem d1_4 : decode prog_53_method_1_code 4 = .ok (.aload_n 0, 1) := by decide +kernel
theorem d1_5 : decode prog_53_method_1_code 5 = .ok (.lload_n 1, 1) := by decide +kernel
theorem d1_6 : decode prog_53_method_1_code 6 = .ok (.putfield 7, 3) := by decide +kernel
theorem d1_9 : decode prog_53_method_1_code 9 = .ok (.return_, 1) := by decide +kernel
def Q1 (Z : State) (o0 : Addr) (q1 : Int64) (v1 : Value) (h0 : Heap) (n0 : Nat) (v : Option Value) (h : Heap) (L : List Loc) : Prop := v = none ∧ Fr n0 L ∧ Keep h0 h [o0] ∧ Fld Z h o0 "com/example/nwx/nwx/core/MemoryShare" "limit" "J" (.long q1) ∧ Fld Z h o0 "com/example/nwx/nwx/core/MemoryShare" "taken" "J" (.long (0 : Int64))
set_option maxRecDepth 65536 in
set_option maxHeartbeats 40000000 in
theorem rm1 (l : Launch) (Z : State) (a0 : Array Value) (hw : ∀ d ∈ tables_1, d.before a0 Z = true) (ws : List Jvm.Cond) (o0 : Addr) (q1 : Int64) (v1 : Value) (h0 : Heap) (n0 : Nat) (Z0 : n0 ≤ h0.size) (F1 : Fld Z h0 o0 "com/example/nwx/nwx/core/MemoryShare" "limit" "J" v1) (F2 : Fld Z h0 o0 "com/example/nwx/nwx/core/MemoryShare" "taken" "J" (.long (0 : Int64))) (E1 : Exa Z h0 o0 "com/example/nwx/nwx/core/MemoryShare") (g1 : n0 ≤ o0) :
    MetFree l (⟨"com/example/nwx/nwx/core/MemoryShare", "<init>", "(J)V"⟩ : MethodName) (head1 (Jvm.Cond.code (⟨"com/example/nwx/nwx/core/MemoryShare", "<init>", "(J)V"⟩ : MethodName) prog_53_method_1_code 3 none :: ws) ({ frames := 1, cells := 0, slots := 0, locals := 12 } : Room)) (fun a U => a = #[(.ref o0), (.long q1)] ∧ Z.Warmed39 U.vm ∧ U.heap = h0) (fun _ _ _ _ _ => True) (fun _ U o U' => ∃ v L, o = .returned v ∧ Q1 Z o0 q1 v1 h0 n0 v U'.heap L ∧ FrameEnd U o U' L ({ frames := 1, cells := 0, slots := 0, locals := 12 } : Room).cells ({ frames := 1, cells := 0, slots := 0, locals := 12 } : Room).slots) := by
  refine MetFree.of_bodySF (plainFor_of_name pn_0) hisR ?_
  intro p e s m args below meth c s₁ Bd hml0 hP hK
  obtain ⟨rfl, hZ, hh⟩ := hP
  have hx := Bd.exec
  have hby := Bd.bytes
  have hml : c.maxLocals = 3 := hml0
  have hown : s.vm.findClass "com/example/nwx/nwx/core/MemoryShare" = some m.cls := findClass_of_methodNamed Bd.named
  have hnm := (name_of_methodNamed Bd.named Bd.method).1
  have X0 : Stand p l e ({ frames := 1, cells := 0, slots := 0, locals := 12 } : Room) s m #[(.ref o0), (.long q1)] below meth c s₁ [] 0 0 := Stand.of_body Bd
  have e0 : s₁.heap = h0 := by rw [← hh, Bd.state]; rfl
  have pre0 : ∀ t, Steps p.tables e below (s₁.setTop (mkF m 0 #[.val (.ref o0), .val (.long q1), .second] [])) t → Steps p.tables e below (s₁.setTop (entryFrame m #[(.ref o0), (.long q1)] 3)) t := fun t k => castTop (ef_1 m o0 q1) k
  have N0 := Fr.nil n0
  have KP0 : Keep h0 h0 [o0] := Keep.refl _ _
  obtain ⟨T1, X1, e1, st1⟩ := initO X0 hx hZ hown (hw _ (List.mem_of_getElem? (i := 7) rfl)) (hw _ (List.mem_of_getElem? (i := 8) rfl)) (hw _ (List.mem_of_getElem? (i := 9) rfl)) e0 (g := (mkF m 1 #[.val (.ref o0), .val (.long q1), .second] [(.ref o0)])) rfl (by rw [hml]; rfl) rfl (hb hby d1_1) (by decide) (W := 0) (by show 2 * 0 + _ ≤ _; exact Nat.le_of_eq rfl) (by decide)
  obtain ⟨T2, h2, X2, e2, W2, st2⟩ := putF X1 hx hZ hown (host := "") (Or.inl (hw _ (List.mem_of_getElem? (i := 10) rfl))) Via.refl e1 F1 E1 (Or.inr ⟨(hw _ (List.mem_of_getElem? (i := 11) rfl)), rfl, hnm⟩) (hw _ (List.mem_of_getElem? (i := 2) rfl)) (ty := .long) (by decide) rfl rfl (g := (mkF m 6 #[.val (.ref o0), .val (.long q1), .second] [(.long q1), (.ref o0)])) rfl rfl (hb hby d1_6)
  have G3 : Exa Z h2 o0 "com/example/nwx/nwx/core/MemoryShare" := E1.wr W2
  have G4 : Fld Z h2 o0 "com/example/nwx/nwx/core/MemoryShare" "limit" "J" (.long q1) := F1.same W2
  have G5 : Fld Z h2 o0 "com/example/nwx/nwx/core/MemoryShare" "taken" "J" (.long (0 : Int64)) := F2.other W2 (Or.inr (slot_ne (Or.inl (hw _ (List.mem_of_getElem? (i := 23) rfl))) (Or.inr (hw _ (List.mem_of_getElem? (i := 11) rfl))) (by decide) (t := .long) (t' := .long) (by decide) (by decide)))
  have Z2 : n0 ≤ h2.size := Nat.le_trans Z0 (Keep.of_wr W2).1
  have N2 := Fr.snoc X2 N0 g1
  have KP2 : Keep h0 h2 [o0] := KP0.wr W2 (Or.inl (List.mem_of_getElem? (i := 0) rfl))
  have K6 : ∀ t, Steps p.tables e below (T2.setTop (mkF m 9 #[.val (.ref o0), .val (.long q1), .second] [])) t → Steps p.tables e below (s₁.setTop (mkF m 0 #[.val (.ref o0), .val (.long q1), .second] [])) t := by
    intro t kt
    show Steps p.tables e below (s₁.setTop (mkF m 0 #[.val (.ref o0), .val (.long q1), .second] [])) _
    refine XS.aloadN X0.here hx rfl (hb hby d1_0) rfl rfl ?_
    show Steps p.tables e below (s₁.setTop (mkF m 1 #[.val (.ref o0), .val (.long q1), .second] [(.ref o0)])) _
    refine st1 _ ?_
    show Steps p.tables e below (T1.setTop (mkF m 4 #[.val (.ref o0), .val (.long q1), .second] [])) _
    refine XS.aloadN X1.here hx rfl (hb hby d1_4) rfl rfl ?_
    show Steps p.tables e below (T1.setTop (mkF m 5 #[.val (.ref o0), .val (.long q1), .second] [(.ref o0)])) _
    refine XS.lloadN X1.here hx rfl (hb hby d1_5) rfl ?_
    show Steps p.tables e below (T1.setTop (mkF m 6 #[.val (.ref o0), .val (.long q1), .second] [(.long q1), (.ref o0)])) _
    refine st2 _ ?_
    exact kt
  obtain ⟨fs, hr, hrun, hended, hW, hsame⟩ := X2.leave (v := none) (fun _ => rfl)
  refine ⟨_, _, pre0 _ (K6 _ ?_), hrun, hended, _, _, rfl, ?_, ⟨_, rfl⟩, hW, hsame.mono (by decide) (by decide)⟩
  · show Steps p.tables e below (T2.setTop (mkF m 9 #[.val (.ref o0), .val (.long q1), .second] [])) _
    exact X2.returnOut hx Bd.returns (hb hby d1_9) hr
  · show Q1 Z o0 q1 v1 h0 n0 _ T2.heap _
    rw [e2]
    exact ⟨rfl, N2, KP2, G4, G5⟩
theorem ef_4 (m : MethodId) (x0 : Addr) (x1 : Int64) : entryFrame m #[(.ref x0), (.long x1)] 3 = mkF m 0 #[.val (.ref x0), .val (.long x1), .second] [] := by first | (simp [entryFrame, mkF, argsToLocals, Value.category]; done) | rfl
theorem d4_0 : decode prog_53_method_4_code 0 = .ok (.lload_n 1, 1) := by decide +kernel
theorem d4_1 : decode prog_53_method_4_code 1 = .ok (.aload_n 0, 1) := by decide +kernel
theorem d4_2 : decode prog_53_method_4_code 2 = .ok (.getfield 7, 3) := by decide +kernel
theorem d4_5 : decode prog_53_method_4_code 5 = .ok (.aload_n 0, 1) := by decide +kernel
theorem d4_6 : decode prog_53_method_4_code 6 = .ok (.getfield 13, 3) := by decide +kernel
theorem d4_9 : decode prog_53_method_4_code 9 = .ok (.lsub, 1) := by decide +kernel
theorem d4_10 : decode prog_53_method_4_code 10 = .ok (.lcmp, 1) := by decide +kernel
theorem d4_11 : decode prog_53_method_4_code 11 = .ok (.ifCond .gt 7, 3) := by decide +kernel
theorem d4_18 : decode prog_53_method_4_code 18 = .ok (.iconst 0, 1) := by decide +kernel
theorem d4_19 : decode prog_53_method_4_code 19 = .ok (.ireturn, 1) := by decide +kernel
theorem d4_14 : decode prog_53_method_4_code 14 = .ok (.iconst 1, 1) := by decide +kernel
theorem d4_15 : decode prog_53_method_4_code 15 = .ok (.goto 4, 3) := by decide +kernel
def f4 (q1 : Int64) (wl : Int64) (wt : Int64) : Int32 := if (wl - wt) < q1 then (0 : Int32)
  else (1 : Int32)
def Q4 (Z : State) (o0 : Addr) (q1 : Int64) (wl : Int64) (wt : Int64) (h0 : Heap) (v : Option Value) (h : Heap) (L : List Loc) : Prop := v = some (.int (f4 q1 wl wt)) ∧ L = [] ∧ h = h0
set_option maxRecDepth 65536 in
set_option maxHeartbeats 40000000 in
theorem rm4 (l : Launch) (Z : State) (a0 : Array Value) (hw : ∀ d ∈ tables_1, d.before a0 Z = true) (ws : List Jvm.Cond) (o0 : Addr) (q1 : Int64) (wl : Int64) (wt : Int64) (h0 : Heap) (F1 : Fld Z h0 o0 "com/example/nwx/nwx/core/MemoryShare" "limit" "J" (.long wl)) (F2 : Fld Z h0 o0 "com/example/nwx/nwx/core/MemoryShare" "taken" "J" (.long wt)) :
    MetFree l (⟨"com/example/nwx/nwx/core/MemoryShare", "fits", "(J)Z"⟩ : MethodName) (head1 (Jvm.Cond.code (⟨"com/example/nwx/nwx/core/MemoryShare", "fits", "(J)Z"⟩ : MethodName) prog_53_method_4_code 3 (some .boolean) :: ws) ({ frames := 0, cells := 0, slots := 0, locals := 0 } : Room)) (fun a U => a = #[(.ref o0), (.long q1)] ∧ Z.Warmed39 U.vm ∧ U.heap = h0) (fun _ _ _ _ _ => True) (fun _ U o U' => ∃ v L, o = .returned v ∧ Q4 Z o0 q1 wl wt h0 v U'.heap L ∧ FrameEnd U o U' L ({ frames := 0, cells := 0, slots := 0, locals := 0 } : Room).cells ({ frames := 0, cells := 0, slots := 0, locals := 0 } : Room).slots) := by
  refine MetFree.of_bodySF (plainFor_of_name pn_0) hisR ?_
  intro p e s m args below meth c s₁ Bd hml0 hP hK
  obtain ⟨rfl, hZ, hh⟩ := hP
  have hx := Bd.exec
  have hby := Bd.bytes
  have hml : c.maxLocals = 3 := hml0
  have hown : s.vm.findClass "com/example/nwx/nwx/core/MemoryShare" = some m.cls := findClass_of_methodNamed Bd.named
  have hnm := (name_of_methodNamed Bd.named Bd.method).1
  have X0 : Stand p l e ({ frames := 0, cells := 0, slots := 0, locals := 0 } : Room) s m #[(.ref o0), (.long q1)] below meth c s₁ [] 0 0 := Stand.of_body Bd
  have e0 : s₁.heap = h0 := by rw [← hh, Bd.state]; rfl
  have pre0 : ∀ t, Steps p.tables e below (s₁.setTop (mkF m 0 #[.val (.ref o0), .val (.long q1), .second] [])) t → Steps p.tables e below (s₁.setTop (entryFrame m #[(.ref o0), (.long q1)] 3)) t := fun t k => castTop (ef_4 m o0 q1) k
  obtain ⟨T1, X1, e1, st1⟩ := getF X0 hx hZ hown (host := "") (Or.inl (hw _ (List.mem_of_getElem? (i := 10) rfl))) Via.refl e0 F1 (g := (mkF m 2 #[.val (.ref o0), .val (.long q1), .second] [(.ref o0), (.long q1)])) rfl rfl (hb hby d4_2)
  obtain ⟨T2, X2, e2, st2⟩ := getF X1 hx hZ hown (host := "") (Or.inl (hw _ (List.mem_of_getElem? (i := 22) rfl))) Via.refl e1 F2 (g := (mkF m 6 #[.val (.ref o0), .val (.long q1), .second] [(.ref o0), (.long wl), (.long q1)])) rfl rfl (hb hby d4_6)
  have K3 : ∀ t, Steps p.tables e below (T2.setTop (mkF m 11 #[.val (.ref o0), .val (.long q1), .second] [(.int (lcmpW q1 (wl - wt)))])) t → Steps p.tables e below (s₁.setTop (mkF m 0 #[.val (.ref o0), .val (.long q1), .second] [])) t := by
    intro t kt
    show Steps p.tables e below (s₁.setTop (mkF m 0 #[.val (.ref o0), .val (.long q1), .second] [])) _
    refine XS.lloadN X0.here hx rfl (hb hby d4_0) rfl ?_
    show Steps p.tables e below (s₁.setTop (mkF m 1 #[.val (.ref o0), .val (.long q1), .second] [(.long q1)])) _
    refine XS.aloadN X0.here hx rfl (hb hby d4_1) rfl rfl ?_
    show Steps p.tables e below (s₁.setTop (mkF m 2 #[.val (.ref o0), .val (.long q1), .second] [(.ref o0), (.long q1)])) _
    refine st1 _ ?_
    show Steps p.tables e below (T1.setTop (mkF m 5 #[.val (.ref o0), .val (.long q1), .second] [(.long wl), (.long q1)])) _
    refine XS.aloadN X1.here hx rfl (hb hby d4_5) rfl rfl ?_
    show Steps p.tables e below (T1.setTop (mkF m 6 #[.val (.ref o0), .val (.long q1), .second] [(.ref o0), (.long wl), (.long q1)])) _
    refine st2 _ ?_
    show Steps p.tables e below (T2.setTop (mkF m 9 #[.val (.ref o0), .val (.long q1), .second] [(.long wt), (.long wl), (.long q1)])) _
    refine XS.lsub X2.here hx rfl (hb hby d4_9) rfl ?_
    show Steps p.tables e below (T2.setTop (mkF m 10 #[.val (.ref o0), .val (.long q1), .second] [(.long (wl - wt)), (.long q1)])) _
    refine XS.lcmp X2.here hx rfl (hb hby d4_10) rfl ?_
    exact kt
  by_cases hc4 : (wl - wt) < q1
  · skip
    have K5 : ∀ t, Steps p.tables e below (T2.setTop (mkF m 19 #[.val (.ref o0), .val (.long q1), .second] [(.int (0 : Int32))])) t → Steps p.tables e below (s₁.setTop (mkF m 0 #[.val (.ref o0), .val (.long q1), .second] [])) t := by
      intro t kt
      refine K3 _ ?_
      show Steps p.tables e below (T2.setTop (mkF m 11 #[.val (.ref o0), .val (.long q1), .second] [(.int (lcmpW q1 (wl - wt)))])) _
      refine XS.ifYes X2.here hx rfl (pc0 := 11) (pc' := 18) rfl (hb hby d4_11) rfl ((if0 _ _).trans (tlt ((lw_gt _ _).mpr hc4)).2.2.1) (by decide) (by decide) ?_
      show Steps p.tables e below (T2.setTop (mkF m 18 #[.val (.ref o0), .val (.long q1), .second] [])) _
      refine XS.iconst X2.here hx rfl (hb hby d4_18) ?_
      exact kt
    have hv : f4 q1 wl wt = (0 : Int32) := by simp only [f4, if_pos hc4]
    obtain ⟨fs, hr, hrun, hended, hW, hsame⟩ := X2.leave (v := some (.int (0 : Int32))) (fun h => by rw [Bd.returns] at h; cases h)
    refine ⟨_, _, pre0 _ (K5 _ ?_), hrun, hended, _, _, rfl, ?_, ⟨_, rfl⟩, hW, hsame.mono (by decide) (by decide)⟩
    · show Steps p.tables e below (T2.setTop (mkF m 19 #[.val (.ref o0), .val (.long q1), .second] [(.int (0 : Int32))])) _
      exact retN X2 hx (t := .boolean) Bd.returns (by simp) (hb hby d4_19) hr
    · show Q4 Z o0 q1 wl wt h0 _ T2.heap _
      rw [e2]
      exact ⟨by rw [hv], rfl, rfl⟩
  · skip
    have K6 : ∀ t, Steps p.tables e below (T2.setTop (mkF m 19 #[.val (.ref o0), .val (.long q1), .second] [(.int (1 : Int32))])) t → Steps p.tables e below (s₁.setTop (mkF m 0 #[.val (.ref o0), .val (.long q1), .second] [])) t := by
      intro t kt
      refine K3 _ ?_
      show Steps p.tables e below (T2.setTop (mkF m 11 #[.val (.ref o0), .val (.long q1), .second] [(.int (lcmpW q1 (wl - wt)))])) _
      refine XS.ifNo X2.here hx rfl (hb hby d4_11) rfl ((if0 _ _).trans (flt (mt (lw_gt _ _).mp hc4)).2.2.1) ?_
      show Steps p.tables e below (T2.setTop (mkF m 14 #[.val (.ref o0), .val (.long q1), .second] [])) _
      refine XS.iconst X2.here hx rfl (hb hby d4_14) ?_
      show Steps p.tables e below (T2.setTop (mkF m 15 #[.val (.ref o0), .val (.long q1), .second] [(.int (1 : Int32))])) _
      refine XS.goto X2.here hx rfl (pc0 := 15) (pc' := 19) rfl (hb hby d4_15) (by decide) (by decide) ?_
      exact kt
    have hv : f4 q1 wl wt = (1 : Int32) := by simp only [f4, if_neg hc4]
    obtain ⟨fs, hr, hrun, hended, hW, hsame⟩ := X2.leave (v := some (.int (1 : Int32))) (fun h => by rw [Bd.returns] at h; cases h)
    refine ⟨_, _, pre0 _ (K6 _ ?_), hrun, hended, _, _, rfl, ?_, ⟨_, rfl⟩, hW, hsame.mono (by decide) (by decide)⟩
    · show Steps p.tables e below (T2.setTop (mkF m 19 #[.val (.ref o0), .val (.long q1), .second] [(.int (1 : Int32))])) _
      exact retN X2 hx (t := .boolean) Bd.returns (by simp) (hb hby d4_19) hr
    · show Q4 Z o0 q1 wl wt h0 _ T2.heap _
      rw [e2]
      exact ⟨by rw [hv], rfl, rfl⟩
theorem ef_5 (m : MethodId) (x0 : Addr) : entryFrame m #[(.ref x0)] 1 = mkF m 0 #[.val (.ref x0)] [] := by first | (simp [entryFrame, mkF, argsToLocals, Value.category]; done) | rfl
theorem d5_0 : decode prog_53_method_3_code 0 = .ok (.aload_n 0, 1) := by decide +kernel
theorem d5_1 : decode prog_53_method_3_code 1 = .ok (.getfield 13, 3) := by decide +kernel
theorem d5_4 : decode prog_53_method_3_code 4 = .ok (.lreturn, 1) := by decide +kernel
def f5 (wt : Int64) : Int64 := wt
def Q5 (Z : State) (o0 : Addr) (wt : Int64) (h0 : Heap) (v : Option Value) (h : Heap) (L : List Loc) : Prop := v = some (.long (f5 wt)) ∧ L = [] ∧ h = h0
set_option maxRecDepth 65536 in
set_option maxHeartbeats 40000000 in
theorem rm5 (l : Launch) (Z : State) (a0 : Array Value) (hw : ∀ d ∈ tables_1, d.before a0 Z = true) (ws : List Jvm.Cond) (o0 : Addr) (wt : Int64) (h0 : Heap) (F2 : Fld Z h0 o0 "com/example/nwx/nwx/core/MemoryShare" "taken" "J" (.long wt)) :
    MetFree l (⟨"com/example/nwx/nwx/core/MemoryShare", "taken", "()J"⟩ : MethodName) (head1 (Jvm.Cond.code (⟨"com/example/nwx/nwx/core/MemoryShare", "taken", "()J"⟩ : MethodName) prog_53_method_3_code 1 (some .long) :: ws) ({ frames := 0, cells := 0, slots := 0, locals := 0 } : Room)) (fun a U => a = #[(.ref o0)] ∧ Z.Warmed39 U.vm ∧ U.heap = h0) (fun _ _ _ _ _ => True) (fun _ U o U' => ∃ v L, o = .returned v ∧ Q5 Z o0 wt h0 v U'.heap L ∧ FrameEnd U o U' L ({ frames := 0, cells := 0, slots := 0, locals := 0 } : Room).cells ({ frames := 0, cells := 0, slots := 0, locals := 0 } : Room).slots) := by
  refine MetFree.of_bodySF (plainFor_of_name pn_0) hisR ?_
  intro p e s m args below meth c s₁ Bd hml0 hP hK
  obtain ⟨rfl, hZ, hh⟩ := hP
  have hx := Bd.exec
  have hby := Bd.bytes
  have hml : c.maxLocals = 1 := hml0
  have hown : s.vm.findClass "com/example/nwx/nwx/core/MemoryShare" = some m.cls := findClass_of_methodNamed Bd.named
  have hnm := (name_of_methodNamed Bd.named Bd.method).1
  have X0 : Stand p l e ({ frames := 0, cells := 0, slots := 0, locals := 0 } : Room) s m #[(.ref o0)] below meth c s₁ [] 0 0 := Stand.of_body Bd
  have e0 : s₁.heap = h0 := by rw [← hh, Bd.state]; rfl
  have pre0 : ∀ t, Steps p.tables e below (s₁.setTop (mkF m 0 #[.val (.ref o0)] [])) t → Steps p.tables e below (s₁.setTop (entryFrame m #[(.ref o0)] 1)) t := fun t k => castTop (ef_5 m o0) k
  obtain ⟨T1, X1, e1, st1⟩ := getF X0 hx hZ hown (host := "") (Or.inl (hw _ (List.mem_of_getElem? (i := 22) rfl))) Via.refl e0 F2 (g := (mkF m 1 #[.val (.ref o0)] [(.ref o0)])) rfl rfl (hb hby d5_1)
  have K2 : ∀ t, Steps p.tables e below (T1.setTop (mkF m 4 #[.val (.ref o0)] [(.long wt)])) t → Steps p.tables e below (s₁.setTop (mkF m 0 #[.val (.ref o0)] [])) t := by
    intro t kt
    show Steps p.tables e below (s₁.setTop (mkF m 0 #[.val (.ref o0)] [])) _
    refine XS.aloadN X0.here hx rfl (hb hby d5_0) rfl rfl ?_
    show Steps p.tables e below (s₁.setTop (mkF m 1 #[.val (.ref o0)] [(.ref o0)])) _
    refine st1 _ ?_
    exact kt
  have hv : f5 wt = wt := rfl
  obtain ⟨fs, hr, hrun, hended, hW, hsame⟩ := X1.leave (v := some (.long wt)) (fun h => by rw [Bd.returns] at h; cases h)
  refine ⟨_, _, pre0 _ (K2 _ ?_), hrun, hended, _, _, rfl, ?_, ⟨_, rfl⟩, hW, hsame.mono (by decide) (by decide)⟩
  · show Steps p.tables e below (T1.setTop (mkF m 4 #[.val (.ref o0)] [(.long wt)])) _
    exact retOut X1 hx Bd.returns rfl (Or.inr (Or.inl ⟨rfl, rfl, _, rfl⟩)) (hb hby d5_4) hr
  · show Q5 Z o0 wt h0 _ T1.heap _
    rw [e1]
    exact ⟨by rw [hv], rfl, rfl⟩
theorem ef_3 (m : MethodId) (x0 : Addr) (x1 : Int64) : entryFrame m #[(.ref x0), (.long x1)] 3 = mkF m 0 #[.val (.ref x0), .val (.long x1), .second] [] := by first | (simp [entryFrame, mkF, argsToLocals, Value.category]; done) | rfl
theorem d3_0 : decode prog_53_method_5_code 0 = .ok (.aload_n 0, 1) := by decide +kernel
theorem d3_1 : decode prog_53_method_5_code 1 = .ok (.lload_n 1, 1) := by decide +kernel
theorem d3_2 : decode prog_53_method_5_code 2 = .ok (.invokevirtual 16, 3) := by decide +kernel
theorem pd_0 : parseMethodDescriptor "(J)Z" = some ⟨[.long], some .boolean⟩ := by decide +kernel
theorem d3_5 : decode prog_53_method_5_code 5 = .ok (.ifCond .ne 21, 3) := by decide +kernel
theorem d3_26 : decode prog_53_method_5_code 26 = .ok (.aload_n 0, 1) := by decide +kernel
theorem d3_27 : decode prog_53_method_5_code 27 = .ok (.dup, 1) := by decide +kernel
theorem d3_28 : decode prog_53_method_5_code 28 = .ok (.getfield 13, 3) := by decide +kernel
theorem d3_31 : decode prog_53_method_5_code 31 = .ok (.lload_n 1, 1) := by decide +kernel
theorem d3_32 : decode prog_53_method_5_code 32 = .ok (.ladd, 1) := by decide +kernel
theorem d3_33 : decode prog_53_method_5_code 33 = .ok (.putfield 13, 3) := by decide +kernel
theorem d3_36 : decode prog_53_method_5_code 36 = .ok (.return_, 1) := by decide +kernel
def Q3 (Z : State) (o0 : Addr) (q1 : Int64) (wl : Int64) (wt : Int64) (h0 : Heap) (n0 : Nat) (v : Option Value) (h : Heap) (L : List Loc) : Prop := v = none ∧ Fr n0 L ∧ Keep h0 h [o0] ∧ Fld Z h o0 "com/example/nwx/nwx/core/MemoryShare" "limit" "J" (.long wl) ∧ Fld Z h o0 "com/example/nwx/nwx/core/MemoryShare" "taken" "J" (.long (wt + q1))
set_option maxRecDepth 65536 in
set_option maxHeartbeats 40000000 in
theorem rm3 (l : Launch) (Z : State) (a0 : Array Value) (hw : ∀ d ∈ tables_1, d.before a0 Z = true) (ws : List Jvm.Cond) (o0 : Addr) (q1 : Int64) (wl : Int64) (wt : Int64) (h0 : Heap) (n0 : Nat) (Z0 : n0 ≤ h0.size) (F1 : Fld Z h0 o0 "com/example/nwx/nwx/core/MemoryShare" "limit" "J" (.long wl)) (F2 : Fld Z h0 o0 "com/example/nwx/nwx/core/MemoryShare" "taken" "J" (.long wt)) (E1 : Exa Z h0 o0 "com/example/nwx/nwx/core/MemoryShare") (g1 : n0 ≤ o0) (hf : ¬ f4 q1 wl wt = (0 : Int32)) :
    MetFree l (⟨"com/example/nwx/nwx/core/MemoryShare", "take", "(J)V"⟩ : MethodName) (head1 (Jvm.Cond.code (⟨"com/example/nwx/nwx/core/MemoryShare", "take", "(J)V"⟩ : MethodName) prog_53_method_5_code 3 none :: ws) ({ frames := 1, cells := 0, slots := 0, locals := 14 } : Room)) (fun a U => a = #[(.ref o0), (.long q1)] ∧ Z.Warmed39 U.vm ∧ U.heap = h0) (fun _ _ _ _ _ => True) (fun _ U o U' => ∃ v L, o = .returned v ∧ Q3 Z o0 q1 wl wt h0 n0 v U'.heap L ∧ FrameEnd U o U' L ({ frames := 1, cells := 0, slots := 0, locals := 14 } : Room).cells ({ frames := 1, cells := 0, slots := 0, locals := 14 } : Room).slots) := by
  refine MetFree.of_bodySF (plainFor_of_name pn_0) hisR ?_
  intro p e s m args below meth c s₁ Bd hml0 hP hK
  obtain ⟨rfl, hZ, hh⟩ := hP
  have hx := Bd.exec
  have hby := Bd.bytes
  have hml : c.maxLocals = 3 := hml0
  have hown : s.vm.findClass "com/example/nwx/nwx/core/MemoryShare" = some m.cls := findClass_of_methodNamed Bd.named
  have hnm := (name_of_methodNamed Bd.named Bd.method).1
  have X0 : Stand p l e ({ frames := 1, cells := 0, slots := 0, locals := 14 } : Room) s m #[(.ref o0), (.long q1)] below meth c s₁ [] 0 0 := Stand.of_body Bd
  have e0 : s₁.heap = h0 := by rw [← hh, Bd.state]; rfl
  have pre0 : ∀ t, Steps p.tables e below (s₁.setTop (mkF m 0 #[.val (.ref o0), .val (.long q1), .second] [])) t → Steps p.tables e below (s₁.setTop (entryFrame m #[(.ref o0), (.long q1)] 3)) t := fun t k => castTop (ef_3 m o0 q1) k
  have N0 := Fr.nil n0
  have KP0 : Keep h0 h0 [o0] := Keep.refl _ _
  obtain ⟨cq1, kq1, q1a, q1b, q1c⟩ := isOf hZ e0 E1
  obtain ⟨_, _, ⟨T1, L1, k1, n1⟩, -, X1, ⟨Lc1, hQ1, l1, y1, z1⟩, st1⟩ := X0.virtualBack hx (y := (⟨"com/example/nwx/nwx/core/MemoryShare", "fits", "(J)Z"⟩ : MethodName)) (z := (⟨"com/example/nwx/nwx/core/MemoryShare", "fits", "(J)Z"⟩ : MethodName)) hown (mvT hZ (hw _ (List.mem_of_getElem? (i := 17) rfl))) (mvT hZ (hw _ (List.mem_of_getElem? (i := 18) rfl))) (notFace_of_selects (args := #[]) (mvT hZ (hw _ (List.mem_of_getElem? (i := 20) rfl)))) (mvT hZ (hw _ (List.mem_of_getElem? (i := 20) rfl))) (mvT hZ (hw _ (List.mem_of_getElem? (i := 19) rfl))) (by decide) (backOf (W := 0) (rm4 l Z a0 hw [] o0 q1 wl wt h0 F1 F2) hZ (hw _ (List.mem_of_getElem? (i := 21) rfl)) (hw _ (List.mem_of_getElem? (i := 3) rfl)) (by decide) (by decide)) q1a q1c (g := (mkF m 2 #[.val (.ref o0), .val (.long q1), .second] [(.long q1), (.ref o0)])) rfl (by rw [hml]; rfl) (Steps.refl _) (argsL := [(.long q1)]) (rest := []) (lenOf pd_0 rfl) rfl (by show 2 * 0 + _ ≤ _; exact Nat.le_of_eq rfl) (hb hby d3_2) (fun _ _ => ⟨rfl, e0, (by decide : 0 + 0 ≤ _), (by decide : 0 + 0 ≤ _)⟩)
  dsimp only [Pt.U, Pt.locs, Pt.cells, Pt.slots] at X1 l1 y1 z1 st1 hQ1
  subst l1 y1 z1
  obtain ⟨rfl, rfl, e1⟩ := hQ1
  try rw [List.append_nil] at X1
  obtain ⟨T2, X2, e2, st2⟩ := getF X1 hx hZ hown (host := "") (Or.inl (hw _ (List.mem_of_getElem? (i := 22) rfl))) Via.refl e1 F2 (g := (mkF m 28 #[.val (.ref o0), .val (.long q1), .second] [(.ref o0), (.ref o0)])) rfl rfl (hb hby d3_28)
  obtain ⟨T3, h3, X3, e3, W3, st3⟩ := putF X2 hx hZ hown (host := "") (Or.inl (hw _ (List.mem_of_getElem? (i := 22) rfl))) Via.refl e2 F2 E1 (Or.inl (hw _ (List.mem_of_getElem? (i := 23) rfl))) (hw _ (List.mem_of_getElem? (i := 2) rfl)) (ty := .long) (by decide) rfl rfl (g := (mkF m 33 #[.val (.ref o0), .val (.long q1), .second] [(.long (wt + q1)), (.ref o0)])) rfl rfl (hb hby d3_33)
  have G4 : Exa Z h3 o0 "com/example/nwx/nwx/core/MemoryShare" := E1.wr W3
  have G5 : Fld Z h3 o0 "com/example/nwx/nwx/core/MemoryShare" "limit" "J" (.long wl) := F1.other W3 (Or.inr (slot_ne (Or.inr (hw _ (List.mem_of_getElem? (i := 11) rfl))) (Or.inl (hw _ (List.mem_of_getElem? (i := 23) rfl))) (by decide) (t := .long) (t' := .long) (by decide) (by decide)))
  have G6 : Fld Z h3 o0 "com/example/nwx/nwx/core/MemoryShare" "taken" "J" (.long (wt + q1)) := F2.same W3
  have Z3 : n0 ≤ h3.size := Nat.le_trans Z0 (Keep.of_wr W3).1
  have N3 := Fr.snoc X3 N0 g1
  have KP3 : Keep h0 h3 [o0] := KP0.wr W3 (Or.inl (List.mem_of_getElem? (i := 0) rfl))
  have K7 : ∀ t, Steps p.tables e below (T3.setTop (mkF m 36 #[.val (.ref o0), .val (.long q1), .second] [])) t → Steps p.tables e below (s₁.setTop (mkF m 0 #[.val (.ref o0), .val (.long q1), .second] [])) t := by
    intro t kt
    show Steps p.tables e below (s₁.setTop (mkF m 0 #[.val (.ref o0), .val (.long q1), .second] [])) _
    refine XS.aloadN X0.here hx rfl (hb hby d3_0) rfl rfl ?_
    show Steps p.tables e below (s₁.setTop (mkF m 1 #[.val (.ref o0), .val (.long q1), .second] [(.ref o0)])) _
    refine XS.lloadN X0.here hx rfl (hb hby d3_1) rfl ?_
    show Steps p.tables e below (s₁.setTop (mkF m 2 #[.val (.ref o0), .val (.long q1), .second] [(.long q1), (.ref o0)])) _
    refine st1.trans ?_
    show Steps p.tables e below (T1.setTop (mkF m 5 #[.val (.ref o0), .val (.long q1), .second] [(.int (f4 q1 wl wt))])) _
    refine XS.ifYes X1.here hx rfl (pc0 := 5) (pc' := 26) rfl (hb hby d3_5) rfl ((if0 _ _).trans (feq (show ¬ ((f4 q1 wl wt) = (0 : Int32)) from hf)).2) (by decide) (by decide) ?_
    show Steps p.tables e below (T1.setTop (mkF m 26 #[.val (.ref o0), .val (.long q1), .second] [])) _
    refine XS.aloadN X1.here hx rfl (hb hby d3_26) rfl rfl ?_
    show Steps p.tables e below (T1.setTop (mkF m 27 #[.val (.ref o0), .val (.long q1), .second] [(.ref o0)])) _
    refine XS.dup X1.here hx rfl (hb hby d3_27) rfl rfl ?_
    show Steps p.tables e below (T1.setTop (mkF m 28 #[.val (.ref o0), .val (.long q1), .second] [(.ref o0), (.ref o0)])) _
    refine st2 _ ?_
    show Steps p.tables e below (T2.setTop (mkF m 31 #[.val (.ref o0), .val (.long q1), .second] [(.long wt), (.ref o0)])) _
    refine XS.lloadN X2.here hx rfl (hb hby d3_31) rfl ?_
    show Steps p.tables e below (T2.setTop (mkF m 32 #[.val (.ref o0), .val (.long q1), .second] [(.long q1), (.long wt), (.ref o0)])) _
    refine XS.ladd X2.here hx rfl (hb hby d3_32) rfl ?_
    show Steps p.tables e below (T2.setTop (mkF m 33 #[.val (.ref o0), .val (.long q1), .second] [(.long (wt + q1)), (.ref o0)])) _
    refine st3 _ ?_
    exact kt
  obtain ⟨fs, hr, hrun, hended, hW, hsame⟩ := X3.leave (v := none) (fun _ => rfl)
  refine ⟨_, _, pre0 _ (K7 _ ?_), hrun, hended, _, _, rfl, ?_, ⟨_, rfl⟩, hW, hsame.mono (by decide) (by decide)⟩
  · show Steps p.tables e below (T3.setTop (mkF m 36 #[.val (.ref o0), .val (.long q1), .second] [])) _
    exact X3.returnOut hx Bd.returns (hb hby d3_36) hr
  · show Q3 Z o0 q1 wl wt h0 n0 _ T3.heap _
    rw [e3]
    exact ⟨rfl, N3, KP3, G5, G6⟩
theorem ef_0 (m : MethodId) (x0 : Int64) (x1 : Int64) (x2 : Int64) (x3 : Int32) : entryFrame m #[(.long x0), (.long x1), (.long x2), (.int x3)] maxLocals = mkF m 0 #[.val (.long x0), .second, .val (.long x1), .second, .val (.long x2), .second, .val (.int x3), .unset, .unset, .unset, .unset, .unset, .unset, .unset, .unset, .unset, .unset] [] := by first | (simp [entryFrame, mkF, argsToLocals, Value.category, maxLocals]; done) | rfl
theorem pn_1 : plainName "com/example/nwx/nwx/core/MemoryShareFitsPinLaw" = true := by first | (simp [plainName, overriddenIn]; done) | decide +kernel
def gl (q0 : Int64) : Int64 := (q0 &&& (9223372036854775807 : Int64))
def gt (q0 : Int64) (q1 : Int64) : Int64 := if (gl q0) = (9223372036854775807 : Int64) then (q1 &&& (9223372036854775807 : Int64)) else ((q1 &&& (9223372036854775807 : Int64)) - ((q1 &&& (9223372036854775807 : Int64)) / ((gl q0) + (1 : Int64))) * ((gl q0) + (1 : Int64)))
theorem pd_1 : parseMethodDescriptor "(J)V" = some ⟨[.long], none⟩ := by decide +kernel
theorem pd_2 : parseMethodDescriptor "()J" = some ⟨[], some .long⟩ := by decide +kernel
def gb (q0 : Int64) (q1 : Int64) (p3 : Int32) : Int64 := (((gl q0) - (gt q0 q1)) + (((((p3.toUInt32 >>> ((1 : Int32) &&& 31).toUInt32).toInt32) % (3 : Int32)).toInt64) - (1 : Int64)))
theorem own_i64 (x : Int) (h1 : -9223372036854775808 ≤ x) (h2 : x < 9223372036854775808) (y : Int) (h : (y - x) % 18446744073709551616 = 0) (h3 : -9223372036854775808 ≤ y) (h4 : y < 9223372036854775808) : y = x := by omega
theorem own_add {a b : Int64} (h1 : -9223372036854775808 ≤ a.toInt + b.toInt) (h2 : a.toInt + b.toInt < 9223372036854775808) : (a + b).toInt = a.toInt + b.toInt :=
  own_i64 _ h1 h2 _ (c_ladd a b) (rng64 _).1 (rng64 _).2
theorem own_sub {a b : Int64} (h1 : -9223372036854775808 ≤ a.toInt - b.toInt) (h2 : a.toInt - b.toInt < 9223372036854775808) : (a - b).toInt = a.toInt - b.toInt :=
  own_i64 _ h1 h2 _ (c_lsub a b) (rng64 _).1 (rng64 _).2
theorem own_z0 : (0 : Int64).toInt = 0 := rfl
theorem own_gl (l : Int64) : 0 ≤ (gl l).toInt ∧ (gl l).toInt ≤ 9223372036854775807 := by
  have h1 : (l &&& (9223372036854775807 : Int64)).toInt = l.toInt % (2 ^ 63 : Nat) := c_maskL l _ 63 (by decide) (by decide)
  unfold gl
  rw [h1]
  omega
theorem own_l1 (l : Int64) (h : ¬ gl l = (9223372036854775807 : Int64)) : (gl l + (1 : Int64)).toInt = (gl l).toInt + 1 := by
  have h1 := own_gl l
  have h2 : (gl l).toInt ≠ 9223372036854775807 := fun q => h (Int64.toInt_inj.mp q)
  exact own_add (by rw [show (1 : Int64).toInt = 1 from rfl]; omega) (by rw [show (1 : Int64).toInt = 1 from rfl]; omega)
theorem own_nz (l : Int64) (h : ¬ gl l = (9223372036854775807 : Int64)) : (gl l + (1 : Int64)) ≠ 0 := fun q => by
  have h1 := own_l1 l h
  have h2 := own_gl l
  rw [q, own_z0] at h1
  omega
theorem own_gt (l t : Int64) : 0 ≤ (gt l t).toInt ∧ (gt l t).toInt ≤ (gl l).toInt := by
  have h1 : (t &&& (9223372036854775807 : Int64)).toInt = t.toInt % (2 ^ 63 : Nat) := c_maskL t _ 63 (by decide) (by decide)
  have h2 := own_gl l
  unfold gt
  by_cases h : gl l = (9223372036854775807 : Int64)
  · rw [if_pos h, h1, h, show (9223372036854775807 : Int64).toInt = 9223372036854775807 from rfl]
    omega
  · rw [if_neg h]
    have h3 := own_l1 l h
    have h4 := (c_lrem (t &&& (9223372036854775807 : Int64)) (gl l + (1 : Int64)) ((gl l).toInt + 1) h3).1 (by omega)
    rw [h4]
    have h5 := Int.emod_nonneg (t &&& (9223372036854775807 : Int64)).toInt (show (gl l).toInt + 1 ≠ 0 by omega)
    have h6 := Int.emod_lt_of_pos (t &&& (9223372036854775807 : Int64)).toInt (show 0 < (gl l).toInt + 1 by omega)
    omega
theorem own_ft (l t b : Int64) : f4 b (gl l) ((0 : Int64) + gt l t) = if (gl l).toInt - (gt l t).toInt < b.toInt then 0 else 1 := by
  have h1 := own_gl l
  have h2 := own_gt l t
  have e : (gl l - ((0 : Int64) + gt l t)).toInt = (gl l).toInt - (gt l t).toInt := by
    rw [Int64.zero_add]; exact own_sub (by omega) (by omega)
  unfold f4
  simp only [Int64.lt_iff_toInt_lt, e]
theorem own_take (l t : Int64) : ¬ f4 (gt l t) (gl l) (0 : Int64) = (0 : Int32) := by
  have h1 := own_gl l
  have h2 := own_gt l t
  unfold f4
  rw [if_neg ?_]
  · decide
  · rw [Int64.lt_iff_toInt_lt, Int64.sub_zero]; omega
theorem own_neg (l t b : Int64) (h : b < (0 : Int64)) : f4 b (gl l) ((0 : Int64) + gt l t) = (1 : Int32) := by
  have h2 := own_gt l t
  rw [Int64.lt_iff_toInt_lt, own_z0] at h
  rw [own_ft, if_neg (by omega)]
theorem own_over (l t b : Int64) (h : ¬ b < (0 : Int64)) (h' : (gt l t + b) < (0 : Int64)) : f4 b (gl l) ((0 : Int64) + gt l t) = (0 : Int32) := by
  have h1 := own_gl l
  have h2 := own_gt l t
  have h3 := rng64 b
  have h4 := c_ladd (gt l t) b
  have h5 := rng64 (gt l t + b)
  rw [Int64.lt_iff_toInt_lt, own_z0] at h h'
  rw [own_ft, if_pos (by omega)]
theorem own_sum (l t b : Int64) (h : ¬ b < (0 : Int64)) (h' : ¬ (gt l t + b) < (0 : Int64)) : (gt l t + b).toInt = (gt l t).toInt + b.toInt := by
  have h1 := own_gl l
  have h2 := own_gt l t
  have h3 := rng64 b
  have h4 := c_ladd (gt l t) b
  have h5 := rng64 (gt l t + b)
  rw [Int64.lt_iff_toInt_lt, own_z0] at h h'
  omega
theorem own_big (l t b : Int64) (h : ¬ b < (0 : Int64)) (h' : ¬ (gt l t + b) < (0 : Int64)) (h'' : gl l < (gt l t + b)) : f4 b (gl l) ((0 : Int64) + gt l t) = (0 : Int32) := by
  rw [Int64.lt_iff_toInt_lt, own_sum l t b h h'] at h''
  rw [own_ft, if_pos (by omega)]
theorem own_fit (l t b : Int64) (h : ¬ b < (0 : Int64)) (h' : ¬ (gt l t + b) < (0 : Int64)) (h'' : ¬ gl l < (gt l t + b)) : f4 b (gl l) ((0 : Int64) + gt l t) = (1 : Int32) := by
  rw [Int64.lt_iff_toInt_lt, own_sum l t b h h'] at h''
  rw [own_ft, if_neg (by omega)]
def Q0 (Z : State) (q0 : Int64) (q1 : Int64) (q2 : Int64) (p3 : Int32)  (h0 : Heap) (n0 : Nat) (v : Option Value) (h : Heap) (L : List Loc) : Prop := v = some (.int 1) ∧ Fr n0 L
set_option maxRecDepth 65536 in
set_option maxHeartbeats 40000000 in
theorem rm0 (l : Launch) (Z : State) (a0 : Array Value) (hw : ∀ d ∈ tables_1, d.before a0 Z = true) (ws : List Jvm.Cond) (q0 : Int64) (q1 : Int64) (q2 : Int64) (p3 : Int32)  (h0 : Heap) (n0 : Nat) (Z0 : n0 ≤ h0.size)  :
    MetFree l x (head1 (Jvm.Cond.code x code maxLocals ret :: ws) room_1) (fun a U => a = #[(.long q0), (.long q1), (.long q2), (.int p3)] ∧ Z.Warmed39 U.vm ∧ U.heap = h0) (fun _ _ _ _ _ => True) (fun _ U o U' => ∃ v L, o = .returned v ∧ Q0 Z q0 q1 q2 p3  h0 n0 v U'.heap L ∧ FrameEnd U o U' L room_1.cells room_1.slots) := by
  refine MetFree.of_bodySF (plainFor_of_name pn_1) hisR ?_
  intro p e s m args below meth c s₁ Bd hml0 hP hK
  obtain ⟨rfl, hZ, hh⟩ := hP
  have hx := Bd.exec
  have hby := Bd.bytes
  have hml : c.maxLocals = 17 := hml0
  have hown : s.vm.findClass "com/example/nwx/nwx/core/MemoryShareFitsPinLaw" = some m.cls := findClass_of_methodNamed Bd.named
  have hnm := (name_of_methodNamed Bd.named Bd.method).1
  have X0 : Stand p l e room_1 s m #[(.long q0), (.long q1), (.long q2), (.int p3)] below meth c s₁ [] 0 0 := Stand.of_body Bd
  have e0 : s₁.heap = h0 := by rw [← hh, Bd.state]; rfl
  have pre0 : ∀ t, Steps p.tables e below (s₁.setTop (mkF m 0 #[.val (.long q0), .second, .val (.long q1), .second, .val (.long q2), .second, .val (.int p3), .unset, .unset, .unset, .unset, .unset, .unset, .unset, .unset, .unset, .unset] [])) t → Steps p.tables e below (s₁.setTop (entryFrame m #[(.long q0), (.long q1), (.long q2), (.int p3)] maxLocals)) t := fun t k => castTop (ef_0 m q0 q1 q2 p3) k
  have N0 := Fr.nil n0
  have K1 : ∀ t, Steps p.tables e below (s₁.setTop (mkF m 13 #[.val (.long q0), .second, .val (.long q1), .second, .val (.long q2), .second, .val (.int p3), .val (.long (gl q0)), .second, .unset, .unset, .unset, .unset, .unset, .unset, .unset, .unset] [(.int (lcmpW (gl q0) (9223372036854775807 : Int64)))])) t → Steps p.tables e below (s₁.setTop (mkF m 0 #[.val (.long q0), .second, .val (.long q1), .second, .val (.long q2), .second, .val (.int p3), .unset, .unset, .unset, .unset, .unset, .unset, .unset, .unset, .unset, .unset] [])) t := by
    intro t kt
    show Steps p.tables e below (s₁.setTop (mkF m 0 #[.val (.long q0), .second, .val (.long q1), .second, .val (.long q2), .second, .val (.int p3), .unset, .unset, .unset, .unset, .unset, .unset, .unset, .unset, .unset, .unset] [])) _
    refine XS.lloadN X0.here hx rfl (hb hby at_0) rfl ?_
    show Steps p.tables e below (s₁.setTop (mkF m 1 #[.val (.long q0), .second, .val (.long q1), .second, .val (.long q2), .second, .val (.int p3), .unset, .unset, .unset, .unset, .unset, .unset, .unset, .unset, .unset, .unset] [(.long q0)])) _
    refine X0.ldc2Long hx hown (mvT hZ (hw _ (List.mem_of_getElem? (i := 0) rfl))) (g := (mkF m 1 #[.val (.long q0), .second, .val (.long q1), .second, .val (.long q2), .second, .val (.int p3), .unset, .unset, .unset, .unset, .unset, .unset, .unset, .unset, .unset, .unset] [(.long q0)])) rfl (hb hby at_1) _ ?_
    show Steps p.tables e below (s₁.setTop (mkF m 4 #[.val (.long q0), .second, .val (.long q1), .second, .val (.long q2), .second, .val (.int p3), .unset, .unset, .unset, .unset, .unset, .unset, .unset, .unset, .unset, .unset] [(.long (9223372036854775807 : Int64)), (.long q0)])) _
    refine XS.land X0.here hx rfl (hb hby at_4) rfl ?_
    show Steps p.tables e below (s₁.setTop (mkF m 5 #[.val (.long q0), .second, .val (.long q1), .second, .val (.long q2), .second, .val (.int p3), .unset, .unset, .unset, .unset, .unset, .unset, .unset, .unset, .unset, .unset] [(.long (q0 &&& (9223372036854775807 : Int64)))])) _
    refine XS.lstore X0.here hx rfl (hb hby at_5) rfl (l' := #[.val (.long q0), .second, .val (.long q1), .second, .val (.long q2), .second, .val (.int p3), .val (.long (gl q0)), .second, .unset, .unset, .unset, .unset, .unset, .unset, .unset, .unset]) rfl ?_
    show Steps p.tables e below (s₁.setTop (mkF m 7 #[.val (.long q0), .second, .val (.long q1), .second, .val (.long q2), .second, .val (.int p3), .val (.long (gl q0)), .second, .unset, .unset, .unset, .unset, .unset, .unset, .unset, .unset] [])) _
    refine XS.lload X0.here hx rfl (hb hby at_7) rfl ?_
    show Steps p.tables e below (s₁.setTop (mkF m 9 #[.val (.long q0), .second, .val (.long q1), .second, .val (.long q2), .second, .val (.int p3), .val (.long (gl q0)), .second, .unset, .unset, .unset, .unset, .unset, .unset, .unset, .unset] [(.long (gl q0))])) _
    refine X0.ldc2Long hx hown (mvT hZ (hw _ (List.mem_of_getElem? (i := 0) rfl))) (g := (mkF m 9 #[.val (.long q0), .second, .val (.long q1), .second, .val (.long q2), .second, .val (.int p3), .val (.long (gl q0)), .second, .unset, .unset, .unset, .unset, .unset, .unset, .unset, .unset] [(.long (gl q0))])) rfl (hb hby at_9) _ ?_
    show Steps p.tables e below (s₁.setTop (mkF m 12 #[.val (.long q0), .second, .val (.long q1), .second, .val (.long q2), .second, .val (.int p3), .val (.long (gl q0)), .second, .unset, .unset, .unset, .unset, .unset, .unset, .unset, .unset] [(.long (9223372036854775807 : Int64)), (.long (gl q0))])) _
    refine XS.lcmp X0.here hx rfl (hb hby at_12) rfl ?_
    exact kt
  have K3 : ∀ t, Steps p.tables e below (s₁.setTop (mkF m 38 #[.val (.long q0), .second, .val (.long q1), .second, .val (.long q2), .second, .val (.int p3), .val (.long (gl q0)), .second, .val (.long (gt q0 q1)), .second, .unset, .unset, .unset, .unset, .unset, .unset] [])) t → Steps p.tables e below (s₁.setTop (mkF m 0 #[.val (.long q0), .second, .val (.long q1), .second, .val (.long q2), .second, .val (.int p3), .unset, .unset, .unset, .unset, .unset, .unset, .unset, .unset, .unset, .unset] [])) t := by
    intro t kt
    by_cases hc2 : (gl q0) = (9223372036854775807 : Int64)
    · skip
      simp only [gt, if_pos hc2] at kt
      refine K1 _ ?_
      show Steps p.tables e below (s₁.setTop (mkF m 13 #[.val (.long q0), .second, .val (.long q1), .second, .val (.long q2), .second, .val (.int p3), .val (.long (gl q0)), .second, .unset, .unset, .unset, .unset, .unset, .unset, .unset, .unset] [(.int (lcmpW (gl q0) (9223372036854775807 : Int64)))])) _
      refine XS.ifNo X0.here hx rfl (hb hby at_13) rfl ((if0 _ _).trans (teq ((lw_eq _ _).mpr hc2)).2) ?_
      show Steps p.tables e below (s₁.setTop (mkF m 16 #[.val (.long q0), .second, .val (.long q1), .second, .val (.long q2), .second, .val (.int p3), .val (.long (gl q0)), .second, .unset, .unset, .unset, .unset, .unset, .unset, .unset, .unset] [])) _
      refine XS.lloadN X0.here hx rfl (hb hby at_16) rfl ?_
      show Steps p.tables e below (s₁.setTop (mkF m 17 #[.val (.long q0), .second, .val (.long q1), .second, .val (.long q2), .second, .val (.int p3), .val (.long (gl q0)), .second, .unset, .unset, .unset, .unset, .unset, .unset, .unset, .unset] [(.long q1)])) _
      refine X0.ldc2Long hx hown (mvT hZ (hw _ (List.mem_of_getElem? (i := 0) rfl))) (g := (mkF m 17 #[.val (.long q0), .second, .val (.long q1), .second, .val (.long q2), .second, .val (.int p3), .val (.long (gl q0)), .second, .unset, .unset, .unset, .unset, .unset, .unset, .unset, .unset] [(.long q1)])) rfl (hb hby at_17) _ ?_
      show Steps p.tables e below (s₁.setTop (mkF m 20 #[.val (.long q0), .second, .val (.long q1), .second, .val (.long q2), .second, .val (.int p3), .val (.long (gl q0)), .second, .unset, .unset, .unset, .unset, .unset, .unset, .unset, .unset] [(.long (9223372036854775807 : Int64)), (.long q1)])) _
      refine XS.land X0.here hx rfl (hb hby at_20) rfl ?_
      show Steps p.tables e below (s₁.setTop (mkF m 21 #[.val (.long q0), .second, .val (.long q1), .second, .val (.long q2), .second, .val (.int p3), .val (.long (gl q0)), .second, .unset, .unset, .unset, .unset, .unset, .unset, .unset, .unset] [(.long (q1 &&& (9223372036854775807 : Int64)))])) _
      refine XS.lstore X0.here hx rfl (hb hby at_21) rfl (l' := #[.val (.long q0), .second, .val (.long q1), .second, .val (.long q2), .second, .val (.int p3), .val (.long (gl q0)), .second, .val (.long (q1 &&& (9223372036854775807 : Int64))), .second, .unset, .unset, .unset, .unset, .unset, .unset]) rfl ?_
      show Steps p.tables e below (s₁.setTop (mkF m 23 #[.val (.long q0), .second, .val (.long q1), .second, .val (.long q2), .second, .val (.int p3), .val (.long (gl q0)), .second, .val (.long (q1 &&& (9223372036854775807 : Int64))), .second, .unset, .unset, .unset, .unset, .unset, .unset] [])) _
      refine XS.goto X0.here hx rfl (pc0 := 23) (pc' := 38) rfl (hb hby at_23) (by decide) (by decide) ?_
      exact kt
    · skip
      simp only [gt, if_neg hc2] at kt
      refine K1 _ ?_
      show Steps p.tables e below (s₁.setTop (mkF m 13 #[.val (.long q0), .second, .val (.long q1), .second, .val (.long q2), .second, .val (.int p3), .val (.long (gl q0)), .second, .unset, .unset, .unset, .unset, .unset, .unset, .unset, .unset] [(.int (lcmpW (gl q0) (9223372036854775807 : Int64)))])) _
      refine XS.ifYes X0.here hx rfl (pc0 := 13) (pc' := 26) rfl (hb hby at_13) rfl ((if0 _ _).trans (feq (mt (lw_eq _ _).mp hc2)).2) (by decide) (by decide) ?_
      show Steps p.tables e below (s₁.setTop (mkF m 26 #[.val (.long q0), .second, .val (.long q1), .second, .val (.long q2), .second, .val (.int p3), .val (.long (gl q0)), .second, .unset, .unset, .unset, .unset, .unset, .unset, .unset, .unset] [])) _
      refine XS.lloadN X0.here hx rfl (hb hby at_26) rfl ?_
      show Steps p.tables e below (s₁.setTop (mkF m 27 #[.val (.long q0), .second, .val (.long q1), .second, .val (.long q2), .second, .val (.int p3), .val (.long (gl q0)), .second, .unset, .unset, .unset, .unset, .unset, .unset, .unset, .unset] [(.long q1)])) _
      refine X0.ldc2Long hx hown (mvT hZ (hw _ (List.mem_of_getElem? (i := 0) rfl))) (g := (mkF m 27 #[.val (.long q0), .second, .val (.long q1), .second, .val (.long q2), .second, .val (.int p3), .val (.long (gl q0)), .second, .unset, .unset, .unset, .unset, .unset, .unset, .unset, .unset] [(.long q1)])) rfl (hb hby at_27) _ ?_
      show Steps p.tables e below (s₁.setTop (mkF m 30 #[.val (.long q0), .second, .val (.long q1), .second, .val (.long q2), .second, .val (.int p3), .val (.long (gl q0)), .second, .unset, .unset, .unset, .unset, .unset, .unset, .unset, .unset] [(.long (9223372036854775807 : Int64)), (.long q1)])) _
      refine XS.land X0.here hx rfl (hb hby at_30) rfl ?_
      show Steps p.tables e below (s₁.setTop (mkF m 31 #[.val (.long q0), .second, .val (.long q1), .second, .val (.long q2), .second, .val (.int p3), .val (.long (gl q0)), .second, .unset, .unset, .unset, .unset, .unset, .unset, .unset, .unset] [(.long (q1 &&& (9223372036854775807 : Int64)))])) _
      refine XS.lload X0.here hx rfl (hb hby at_31) rfl ?_
      show Steps p.tables e below (s₁.setTop (mkF m 33 #[.val (.long q0), .second, .val (.long q1), .second, .val (.long q2), .second, .val (.int p3), .val (.long (gl q0)), .second, .unset, .unset, .unset, .unset, .unset, .unset, .unset, .unset] [(.long (gl q0)), (.long (q1 &&& (9223372036854775807 : Int64)))])) _
      refine XS.lconst X0.here hx rfl (hb hby at_33) ?_
      show Steps p.tables e below (s₁.setTop (mkF m 34 #[.val (.long q0), .second, .val (.long q1), .second, .val (.long q2), .second, .val (.int p3), .val (.long (gl q0)), .second, .unset, .unset, .unset, .unset, .unset, .unset, .unset, .unset] [(.long (1 : Int64)), (.long (gl q0)), (.long (q1 &&& (9223372036854775807 : Int64)))])) _
      refine XS.ladd X0.here hx rfl (hb hby at_34) rfl ?_
      show Steps p.tables e below (s₁.setTop (mkF m 35 #[.val (.long q0), .second, .val (.long q1), .second, .val (.long q2), .second, .val (.int p3), .val (.long (gl q0)), .second, .unset, .unset, .unset, .unset, .unset, .unset, .unset, .unset] [(.long ((gl q0) + (1 : Int64))), (.long (q1 &&& (9223372036854775807 : Int64)))])) _
      refine XS.lrem X0.here hx rfl (hb hby at_35) rfl (own_nz q0 (by assumption)) ?_
      show Steps p.tables e below (s₁.setTop (mkF m 36 #[.val (.long q0), .second, .val (.long q1), .second, .val (.long q2), .second, .val (.int p3), .val (.long (gl q0)), .second, .unset, .unset, .unset, .unset, .unset, .unset, .unset, .unset] [(.long ((q1 &&& (9223372036854775807 : Int64)) - ((q1 &&& (9223372036854775807 : Int64)) / ((gl q0) + (1 : Int64))) * ((gl q0) + (1 : Int64))))])) _
      refine XS.lstore X0.here hx rfl (hb hby at_36) rfl (l' := #[.val (.long q0), .second, .val (.long q1), .second, .val (.long q2), .second, .val (.int p3), .val (.long (gl q0)), .second, .val (.long ((q1 &&& (9223372036854775807 : Int64)) - ((q1 &&& (9223372036854775807 : Int64)) / ((gl q0) + (1 : Int64))) * ((gl q0) + (1 : Int64)))), .second, .unset, .unset, .unset, .unset, .unset, .unset]) rfl ?_
      exact kt
  obtain ⟨T4, h4, X4, e4, E4, A4, D4, -, st4⟩ := newO X0 hx hZ hown (hw _ (List.mem_of_getElem? (i := 1) rfl)) (hw _ (List.mem_of_getElem? (i := 2) rfl)) (hw _ (List.mem_of_getElem? (i := 3) rfl)) e0 (g := (mkF m 38 #[.val (.long q0), .second, .val (.long q1), .second, .val (.long q2), .second, .val (.int p3), .val (.long (gl q0)), .second, .val (.long (gt q0 q1)), .second, .unset, .unset, .unset, .unset, .unset, .unset] [])) rfl (hb hby at_38) (by decide) (by decide)
  obtain ⟨b4, g4⟩ : ∃ z, z = h0.size := ⟨_, rfl⟩
  rw [← g4] at A4 D4 st4
  have gn4 : n0 ≤ b4 := Nat.le_trans Z0 (Nat.le_of_eq g4.symm)
  have Z4 : n0 ≤ h4.size := Nat.le_trans Z0 E4.1
  have F4_limit : Fld Z h4 b4 "com/example/nwx/nwx/core/MemoryShare" "limit" "J" (.long (0 : Int64)) := D4 (Or.inr (hw _ (List.mem_of_getElem? (i := 11) rfl))) (ty := .long) (by decide)
  have F4_taken : Fld Z h4 b4 "com/example/nwx/nwx/core/MemoryShare" "taken" "J" (.long (0 : Int64)) := D4 (Or.inl (hw _ (List.mem_of_getElem? (i := 23) rfl))) (ty := .long) (by decide)
  obtain ⟨_, _, ⟨T5, L5, k5, n5⟩, -, X5, ⟨Lc5, hQ5, l5, y5, z5⟩, st5⟩ := X4.specialBack hx (y := (⟨"com/example/nwx/nwx/core/MemoryShare", "<init>", "(J)V"⟩ : MethodName)) rfl hown (mvT hZ (hw _ (List.mem_of_getElem? (i := 4) rfl))) (mvT hZ (hw _ (List.mem_of_getElem? (i := 5) rfl))) (mvT hZ (hw _ (List.mem_of_getElem? (i := 6) rfl))) (by decide) (backOf (W := 1) (rm1 l Z a0 hw [] b4 (gl q0) (.long (0 : Int64)) h4 n0 Z4 F4_limit F4_taken A4 gn4) hZ (hw _ (List.mem_of_getElem? (i := 6) rfl)) (hw _ (List.mem_of_getElem? (i := 3) rfl)) (by decide) (by decide)) (g := (mkF m 44 #[.val (.long q0), .second, .val (.long q1), .second, .val (.long q2), .second, .val (.int p3), .val (.long (gl q0)), .second, .val (.long (gt q0 q1)), .second, .unset, .unset, .unset, .unset, .unset, .unset] [(.long (gl q0)), (.ref b4), (.ref b4)])) rfl (by rw [hml]; rfl) (Steps.refl _) (a := b4) (argsL := [(.long (gl q0))]) (rest := [(.ref b4)]) (lenOf pd_1 rfl) rfl (by show 2 * 0 + _ ≤ _; exact Nat.le_of_eq rfl) (hb hby at_44) (fun _ _ => ⟨rfl, e4, (by decide : 1 + 0 ≤ _), (by decide : 2 + 0 ≤ _)⟩)
  dsimp only [Pt.U, Pt.locs, Pt.cells, Pt.slots] at X5 l5 y5 z5 st5 hQ5
  subst l5 y5 z5
  obtain ⟨rfl, N5q, K5q, F5q, G5q⟩ := hQ5
  have N5 := Fr.app N0 N5q
  have Z5 : n0 ≤ T5.heap.size := Nat.le_trans Z4 K5q.1
  have G6 : Exa Z T5.heap b4 "com/example/nwx/nwx/core/MemoryShare" := A4.keep K5q
  obtain ⟨cq7, kq7, q7a, q7b, q7c⟩ := isOf hZ rfl G6
  obtain ⟨_, _, ⟨T7, L7, k7, n7⟩, -, X7, ⟨Lc7, hQ7, l7, y7, z7⟩, st7⟩ := X5.virtualBack hx (y := (⟨"com/example/nwx/nwx/core/MemoryShare", "take", "(J)V"⟩ : MethodName)) (z := (⟨"com/example/nwx/nwx/core/MemoryShare", "take", "(J)V"⟩ : MethodName)) hown (mvT hZ (hw _ (List.mem_of_getElem? (i := 12) rfl))) (mvT hZ (hw _ (List.mem_of_getElem? (i := 13) rfl))) (notFace_of_selects (args := #[]) (mvT hZ (hw _ (List.mem_of_getElem? (i := 15) rfl)))) (mvT hZ (hw _ (List.mem_of_getElem? (i := 15) rfl))) (mvT hZ (hw _ (List.mem_of_getElem? (i := 14) rfl))) (by decide) (backOf (W := 0) (rm3 l Z a0 hw [] b4 (gt q0 q1) (gl q0) (0 : Int64) T5.heap n0 Z5 F5q G5q G6 gn4 (own_take q0 q1)) hZ (hw _ (List.mem_of_getElem? (i := 16) rfl)) (hw _ (List.mem_of_getElem? (i := 3) rfl)) (by decide) (by decide)) q7a q7c (g := (mkF m 53 #[.val (.long q0), .second, .val (.long q1), .second, .val (.long q2), .second, .val (.int p3), .val (.long (gl q0)), .second, .val (.long (gt q0 q1)), .second, .val (.ref b4), .unset, .unset, .unset, .unset, .unset] [(.long (gt q0 q1)), (.ref b4)])) rfl (by rw [hml]; rfl) (Steps.refl _) (argsL := [(.long (gt q0 q1))]) (rest := []) (lenOf pd_1 rfl) rfl (by show 2 * 0 + _ ≤ _; exact Nat.le_of_eq rfl) (hb hby at_53) (fun _ _ => ⟨rfl, rfl, (by decide : 1 + 0 ≤ _), (by decide : 2 + 0 ≤ _)⟩)
  dsimp only [Pt.U, Pt.locs, Pt.cells, Pt.slots] at X7 l7 y7 z7 st7 hQ7
  subst l7 y7 z7
  obtain ⟨rfl, N7q, K7q, F7q, G7q⟩ := hQ7
  have N7 := Fr.app N5 N7q
  have Z7 : n0 ≤ T7.heap.size := Nat.le_trans Z5 K7q.1
  have G8 : Exa Z T7.heap b4 "com/example/nwx/nwx/core/MemoryShare" := G6.keep K7q
  obtain ⟨cq9, kq9, q9a, q9b, q9c⟩ := isOf hZ rfl G8
  obtain ⟨_, _, ⟨T9, L9, k9, n9⟩, -, X9, ⟨Lc9, hQ9, l9, y9, z9⟩, st9⟩ := X7.virtualBack hx (y := (⟨"com/example/nwx/nwx/core/MemoryShare", "taken", "()J"⟩ : MethodName)) (z := (⟨"com/example/nwx/nwx/core/MemoryShare", "taken", "()J"⟩ : MethodName)) hown (mvT hZ (hw _ (List.mem_of_getElem? (i := 24) rfl))) (mvT hZ (hw _ (List.mem_of_getElem? (i := 25) rfl))) (notFace_of_selects (args := #[]) (mvT hZ (hw _ (List.mem_of_getElem? (i := 27) rfl)))) (mvT hZ (hw _ (List.mem_of_getElem? (i := 27) rfl))) (mvT hZ (hw _ (List.mem_of_getElem? (i := 26) rfl))) (by decide) (backOf (W := 0) (rm5 l Z a0 hw [] b4 ((0 : Int64) + (gt q0 q1)) T7.heap G7q) hZ (hw _ (List.mem_of_getElem? (i := 28) rfl)) (hw _ (List.mem_of_getElem? (i := 3) rfl)) (by decide) (by decide)) q9a q9c (g := (mkF m 58 #[.val (.long q0), .second, .val (.long q1), .second, .val (.long q2), .second, .val (.int p3), .val (.long (gl q0)), .second, .val (.long (gt q0 q1)), .second, .val (.ref b4), .unset, .unset, .unset, .unset, .unset] [(.ref b4)])) rfl (by rw [hml]; rfl) (Steps.refl _) (argsL := []) (rest := []) (lenOf pd_2 rfl) rfl (by show 2 * 0 + _ ≤ _; exact Nat.le_of_eq rfl) (hb hby at_58) (fun _ _ => ⟨rfl, rfl, (by decide : 1 + 0 ≤ _), (by decide : 2 + 0 ≤ _)⟩)
  dsimp only [Pt.U, Pt.locs, Pt.cells, Pt.slots] at X9 l9 y9 z9 st9 hQ9
  subst l9 y9 z9
  obtain ⟨rfl, rfl, e9⟩ := hQ9
  try rw [List.append_nil] at X9
  have K10 : ∀ t, Steps p.tables e below (T9.setTop (mkF m 77 #[.val (.long q0), .second, .val (.long q1), .second, .val (.long q2), .second, .val (.int p3), .val (.long (gl q0)), .second, .val (.long (gt q0 q1)), .second, .val (.ref b4), .val (.long q2), .second, .unset, .unset, .unset] [(.int (p3 &&& (1 : Int32)))])) t → Steps p.tables e below (s₁.setTop (mkF m 0 #[.val (.long q0), .second, .val (.long q1), .second, .val (.long q2), .second, .val (.int p3), .unset, .unset, .unset, .unset, .unset, .unset, .unset, .unset, .unset, .unset] [])) t := by
    intro t kt
    refine K3 _ ?_
    show Steps p.tables e below (s₁.setTop (mkF m 38 #[.val (.long q0), .second, .val (.long q1), .second, .val (.long q2), .second, .val (.int p3), .val (.long (gl q0)), .second, .val (.long (gt q0 q1)), .second, .unset, .unset, .unset, .unset, .unset, .unset] [])) _
    refine st4 _ ?_
    show Steps p.tables e below (T4.setTop (mkF m 41 #[.val (.long q0), .second, .val (.long q1), .second, .val (.long q2), .second, .val (.int p3), .val (.long (gl q0)), .second, .val (.long (gt q0 q1)), .second, .unset, .unset, .unset, .unset, .unset, .unset] [(.ref b4)])) _
    refine XS.dup X4.here hx rfl (hb hby at_41) rfl rfl ?_
    show Steps p.tables e below (T4.setTop (mkF m 42 #[.val (.long q0), .second, .val (.long q1), .second, .val (.long q2), .second, .val (.int p3), .val (.long (gl q0)), .second, .val (.long (gt q0 q1)), .second, .unset, .unset, .unset, .unset, .unset, .unset] [(.ref b4), (.ref b4)])) _
    refine XS.lload X4.here hx rfl (hb hby at_42) rfl ?_
    show Steps p.tables e below (T4.setTop (mkF m 44 #[.val (.long q0), .second, .val (.long q1), .second, .val (.long q2), .second, .val (.int p3), .val (.long (gl q0)), .second, .val (.long (gt q0 q1)), .second, .unset, .unset, .unset, .unset, .unset, .unset] [(.long (gl q0)), (.ref b4), (.ref b4)])) _
    refine st5.trans ?_
    show Steps p.tables e below (T5.setTop (mkF m 47 #[.val (.long q0), .second, .val (.long q1), .second, .val (.long q2), .second, .val (.int p3), .val (.long (gl q0)), .second, .val (.long (gt q0 q1)), .second, .unset, .unset, .unset, .unset, .unset, .unset] [(.ref b4)])) _
    refine XS.astore X5.here hx rfl (hb hby at_47) rfl rfl (l' := #[.val (.long q0), .second, .val (.long q1), .second, .val (.long q2), .second, .val (.int p3), .val (.long (gl q0)), .second, .val (.long (gt q0 q1)), .second, .val (.ref b4), .unset, .unset, .unset, .unset, .unset]) rfl ?_
    show Steps p.tables e below (T5.setTop (mkF m 49 #[.val (.long q0), .second, .val (.long q1), .second, .val (.long q2), .second, .val (.int p3), .val (.long (gl q0)), .second, .val (.long (gt q0 q1)), .second, .val (.ref b4), .unset, .unset, .unset, .unset, .unset] [])) _
    refine XS.aload X5.here hx rfl (hb hby at_49) rfl rfl ?_
    show Steps p.tables e below (T5.setTop (mkF m 51 #[.val (.long q0), .second, .val (.long q1), .second, .val (.long q2), .second, .val (.int p3), .val (.long (gl q0)), .second, .val (.long (gt q0 q1)), .second, .val (.ref b4), .unset, .unset, .unset, .unset, .unset] [(.ref b4)])) _
    refine XS.lload X5.here hx rfl (hb hby at_51) rfl ?_
    show Steps p.tables e below (T5.setTop (mkF m 53 #[.val (.long q0), .second, .val (.long q1), .second, .val (.long q2), .second, .val (.int p3), .val (.long (gl q0)), .second, .val (.long (gt q0 q1)), .second, .val (.ref b4), .unset, .unset, .unset, .unset, .unset] [(.long (gt q0 q1)), (.ref b4)])) _
    refine st7.trans ?_
    show Steps p.tables e below (T7.setTop (mkF m 56 #[.val (.long q0), .second, .val (.long q1), .second, .val (.long q2), .second, .val (.int p3), .val (.long (gl q0)), .second, .val (.long (gt q0 q1)), .second, .val (.ref b4), .unset, .unset, .unset, .unset, .unset] [])) _
    refine XS.aload X7.here hx rfl (hb hby at_56) rfl rfl ?_
    show Steps p.tables e below (T7.setTop (mkF m 58 #[.val (.long q0), .second, .val (.long q1), .second, .val (.long q2), .second, .val (.int p3), .val (.long (gl q0)), .second, .val (.long (gt q0 q1)), .second, .val (.ref b4), .unset, .unset, .unset, .unset, .unset] [(.ref b4)])) _
    refine st9.trans ?_
    show Steps p.tables e below (T9.setTop (mkF m 61 #[.val (.long q0), .second, .val (.long q1), .second, .val (.long q2), .second, .val (.int p3), .val (.long (gl q0)), .second, .val (.long (gt q0 q1)), .second, .val (.ref b4), .unset, .unset, .unset, .unset, .unset] [(.long (f5 ((0 : Int64) + (gt q0 q1))))])) _
    refine XS.lload X9.here hx rfl (hb hby at_61) rfl ?_
    show Steps p.tables e below (T9.setTop (mkF m 63 #[.val (.long q0), .second, .val (.long q1), .second, .val (.long q2), .second, .val (.int p3), .val (.long (gl q0)), .second, .val (.long (gt q0 q1)), .second, .val (.ref b4), .unset, .unset, .unset, .unset, .unset] [(.long (gt q0 q1)), (.long (f5 ((0 : Int64) + (gt q0 q1))))])) _
    refine XS.lcmp X9.here hx rfl (hb hby at_63) rfl ?_
    show Steps p.tables e below (T9.setTop (mkF m 64 #[.val (.long q0), .second, .val (.long q1), .second, .val (.long q2), .second, .val (.int p3), .val (.long (gl q0)), .second, .val (.long (gt q0 q1)), .second, .val (.ref b4), .unset, .unset, .unset, .unset, .unset] [(.int (lcmpW (f5 ((0 : Int64) + (gt q0 q1))) (gt q0 q1)))])) _
    refine XS.ifYes X9.here hx rfl (pc0 := 64) (pc' := 69) rfl (hb hby at_64) rfl ((if0 _ _).trans (teq ((lw_eq _ _).mpr (show (f5 ((0 : Int64) + (gt q0 q1))) = (gt q0 q1) from (Int64.zero_add _)))).1) (by decide) (by decide) ?_
    show Steps p.tables e below (T9.setTop (mkF m 69 #[.val (.long q0), .second, .val (.long q1), .second, .val (.long q2), .second, .val (.int p3), .val (.long (gl q0)), .second, .val (.long (gt q0 q1)), .second, .val (.ref b4), .unset, .unset, .unset, .unset, .unset] [])) _
    refine XS.lload X9.here hx rfl (hb hby at_69) rfl ?_
    show Steps p.tables e below (T9.setTop (mkF m 71 #[.val (.long q0), .second, .val (.long q1), .second, .val (.long q2), .second, .val (.int p3), .val (.long (gl q0)), .second, .val (.long (gt q0 q1)), .second, .val (.ref b4), .unset, .unset, .unset, .unset, .unset] [(.long q2)])) _
    refine XS.lstore X9.here hx rfl (hb hby at_71) rfl (l' := #[.val (.long q0), .second, .val (.long q1), .second, .val (.long q2), .second, .val (.int p3), .val (.long (gl q0)), .second, .val (.long (gt q0 q1)), .second, .val (.ref b4), .val (.long q2), .second, .unset, .unset, .unset]) rfl ?_
    show Steps p.tables e below (T9.setTop (mkF m 73 #[.val (.long q0), .second, .val (.long q1), .second, .val (.long q2), .second, .val (.int p3), .val (.long (gl q0)), .second, .val (.long (gt q0 q1)), .second, .val (.ref b4), .val (.long q2), .second, .unset, .unset, .unset] [])) _
    refine XS.iload X9.here hx rfl (hb hby at_73) rfl ?_
    show Steps p.tables e below (T9.setTop (mkF m 75 #[.val (.long q0), .second, .val (.long q1), .second, .val (.long q2), .second, .val (.int p3), .val (.long (gl q0)), .second, .val (.long (gt q0 q1)), .second, .val (.ref b4), .val (.long q2), .second, .unset, .unset, .unset] [(.int p3)])) _
    refine XS.iconst X9.here hx rfl (hb hby at_75) ?_
    show Steps p.tables e below (T9.setTop (mkF m 76 #[.val (.long q0), .second, .val (.long q1), .second, .val (.long q2), .second, .val (.int p3), .val (.long (gl q0)), .second, .val (.long (gt q0 q1)), .second, .val (.ref b4), .val (.long q2), .second, .unset, .unset, .unset] [(.int (1 : Int32)), (.int p3)])) _
    refine XS.iand X9.here hx rfl (hb hby at_76) rfl ?_
    exact kt
  by_cases hc11 : (p3 &&& (1 : Int32)) = (0 : Int32)
  · skip
    have K12 : ∀ t, Steps p.tables e below (T9.setTop (mkF m 105 #[.val (.long q0), .second, .val (.long q1), .second, .val (.long q2), .second, .val (.int p3), .val (.long (gl q0)), .second, .val (.long (gt q0 q1)), .second, .val (.ref b4), .val (.long q2), .second, .unset, .unset, .unset] [(.int (lcmpW q2 (0 : Int64)))])) t → Steps p.tables e below (s₁.setTop (mkF m 0 #[.val (.long q0), .second, .val (.long q1), .second, .val (.long q2), .second, .val (.int p3), .unset, .unset, .unset, .unset, .unset, .unset, .unset, .unset, .unset, .unset] [])) t := by
      intro t kt
      refine K10 _ ?_
      show Steps p.tables e below (T9.setTop (mkF m 77 #[.val (.long q0), .second, .val (.long q1), .second, .val (.long q2), .second, .val (.int p3), .val (.long (gl q0)), .second, .val (.long (gt q0 q1)), .second, .val (.ref b4), .val (.long q2), .second, .unset, .unset, .unset] [(.int (p3 &&& (1 : Int32)))])) _
      refine XS.ifYes X9.here hx rfl (pc0 := 77) (pc' := 101) rfl (hb hby at_77) rfl ((if0 _ _).trans (teq hc11).1) (by decide) (by decide) ?_
      show Steps p.tables e below (T9.setTop (mkF m 101 #[.val (.long q0), .second, .val (.long q1), .second, .val (.long q2), .second, .val (.int p3), .val (.long (gl q0)), .second, .val (.long (gt q0 q1)), .second, .val (.ref b4), .val (.long q2), .second, .unset, .unset, .unset] [])) _
      refine XS.lload X9.here hx rfl (hb hby at_101) rfl ?_
      show Steps p.tables e below (T9.setTop (mkF m 103 #[.val (.long q0), .second, .val (.long q1), .second, .val (.long q2), .second, .val (.int p3), .val (.long (gl q0)), .second, .val (.long (gt q0 q1)), .second, .val (.ref b4), .val (.long q2), .second, .unset, .unset, .unset] [(.long q2)])) _
      refine XS.lconst X9.here hx rfl (hb hby at_103) ?_
      show Steps p.tables e below (T9.setTop (mkF m 104 #[.val (.long q0), .second, .val (.long q1), .second, .val (.long q2), .second, .val (.int p3), .val (.long (gl q0)), .second, .val (.long (gt q0 q1)), .second, .val (.ref b4), .val (.long q2), .second, .unset, .unset, .unset] [(.long (0 : Int64)), (.long q2)])) _
      refine XS.lcmp X9.here hx rfl (hb hby at_104) rfl ?_
      exact kt
    by_cases hc13 : q2 < (0 : Int64)
    · skip
      obtain ⟨cq14, kq14, q14a, q14b, q14c⟩ := isOf hZ e9 G8
      obtain ⟨_, _, ⟨T14, L14, k14, n14⟩, -, X14, ⟨Lc14, hQ14, l14, y14, z14⟩, st14⟩ := X9.virtualBack hx (y := (⟨"com/example/nwx/nwx/core/MemoryShare", "fits", "(J)Z"⟩ : MethodName)) (z := (⟨"com/example/nwx/nwx/core/MemoryShare", "fits", "(J)Z"⟩ : MethodName)) hown (mvT hZ (hw _ (List.mem_of_getElem? (i := 29) rfl))) (mvT hZ (hw _ (List.mem_of_getElem? (i := 18) rfl))) (notFace_of_selects (args := #[]) (mvT hZ (hw _ (List.mem_of_getElem? (i := 20) rfl)))) (mvT hZ (hw _ (List.mem_of_getElem? (i := 20) rfl))) (mvT hZ (hw _ (List.mem_of_getElem? (i := 19) rfl))) (by decide) (backOf (W := 0) (rm4 l Z a0 hw [] b4 q2 (gl q0) ((0 : Int64) + (gt q0 q1)) T7.heap F7q G7q) hZ (hw _ (List.mem_of_getElem? (i := 21) rfl)) (hw _ (List.mem_of_getElem? (i := 3) rfl)) (by decide) (by decide)) q14a q14c (g := (mkF m 147 #[.val (.long q0), .second, .val (.long q1), .second, .val (.long q2), .second, .val (.int p3), .val (.long (gl q0)), .second, .val (.long (gt q0 q1)), .second, .val (.ref b4), .val (.long q2), .second, .val (.int (1 : Int32)), .unset, .unset] [(.long q2), (.ref b4)])) rfl (by rw [hml]; rfl) (Steps.refl _) (argsL := [(.long q2)]) (rest := []) (lenOf pd_0 rfl) rfl (by show 2 * 0 + _ ≤ _; exact Nat.le_of_eq rfl) (hb hby at_147) (fun _ _ => ⟨rfl, e9, (by decide : 1 + 0 ≤ _), (by decide : 2 + 0 ≤ _)⟩)
      dsimp only [Pt.U, Pt.locs, Pt.cells, Pt.slots] at X14 l14 y14 z14 st14 hQ14
      subst l14 y14 z14
      obtain ⟨rfl, rfl, e14⟩ := hQ14
      try rw [List.append_nil] at X14
      have K15 : ∀ t, Steps p.tables e below (T14.setTop (mkF m 160 #[.val (.long q0), .second, .val (.long q1), .second, .val (.long q2), .second, .val (.int p3), .val (.long (gl q0)), .second, .val (.long (gt q0 q1)), .second, .val (.ref b4), .val (.long q2), .second, .val (.int (1 : Int32)), .unset, .unset] [(.int (1 : Int32))])) t → Steps p.tables e below (s₁.setTop (mkF m 0 #[.val (.long q0), .second, .val (.long q1), .second, .val (.long q2), .second, .val (.int p3), .unset, .unset, .unset, .unset, .unset, .unset, .unset, .unset, .unset, .unset] [])) t := by
        intro t kt
        refine K12 _ ?_
        show Steps p.tables e below (T9.setTop (mkF m 105 #[.val (.long q0), .second, .val (.long q1), .second, .val (.long q2), .second, .val (.int p3), .val (.long (gl q0)), .second, .val (.long (gt q0 q1)), .second, .val (.ref b4), .val (.long q2), .second, .unset, .unset, .unset] [(.int (lcmpW q2 (0 : Int64)))])) _
        refine XS.ifNo X9.here hx rfl (hb hby at_105) rfl ((if0 _ _).trans (tlt ((lw_lt _ _).mpr hc13)).2.1) ?_
        show Steps p.tables e below (T9.setTop (mkF m 108 #[.val (.long q0), .second, .val (.long q1), .second, .val (.long q2), .second, .val (.int p3), .val (.long (gl q0)), .second, .val (.long (gt q0 q1)), .second, .val (.ref b4), .val (.long q2), .second, .unset, .unset, .unset] [])) _
        refine XS.iconst X9.here hx rfl (hb hby at_108) ?_
        show Steps p.tables e below (T9.setTop (mkF m 109 #[.val (.long q0), .second, .val (.long q1), .second, .val (.long q2), .second, .val (.int p3), .val (.long (gl q0)), .second, .val (.long (gt q0 q1)), .second, .val (.ref b4), .val (.long q2), .second, .unset, .unset, .unset] [(.int (1 : Int32))])) _
        refine XS.istore X9.here hx rfl (hb hby at_109) rfl (l' := #[.val (.long q0), .second, .val (.long q1), .second, .val (.long q2), .second, .val (.int p3), .val (.long (gl q0)), .second, .val (.long (gt q0 q1)), .second, .val (.ref b4), .val (.long q2), .second, .val (.int (1 : Int32)), .unset, .unset]) rfl ?_
        show Steps p.tables e below (T9.setTop (mkF m 111 #[.val (.long q0), .second, .val (.long q1), .second, .val (.long q2), .second, .val (.int p3), .val (.long (gl q0)), .second, .val (.long (gt q0 q1)), .second, .val (.ref b4), .val (.long q2), .second, .val (.int (1 : Int32)), .unset, .unset] [])) _
        refine XS.goto X9.here hx rfl (pc0 := 111) (pc' := 143) rfl (hb hby at_111) (by decide) (by decide) ?_
        show Steps p.tables e below (T9.setTop (mkF m 143 #[.val (.long q0), .second, .val (.long q1), .second, .val (.long q2), .second, .val (.int p3), .val (.long (gl q0)), .second, .val (.long (gt q0 q1)), .second, .val (.ref b4), .val (.long q2), .second, .val (.int (1 : Int32)), .unset, .unset] [])) _
        refine XS.aload X9.here hx rfl (hb hby at_143) rfl rfl ?_
        show Steps p.tables e below (T9.setTop (mkF m 145 #[.val (.long q0), .second, .val (.long q1), .second, .val (.long q2), .second, .val (.int p3), .val (.long (gl q0)), .second, .val (.long (gt q0 q1)), .second, .val (.ref b4), .val (.long q2), .second, .val (.int (1 : Int32)), .unset, .unset] [(.ref b4)])) _
        refine XS.lload X9.here hx rfl (hb hby at_145) rfl ?_
        show Steps p.tables e below (T9.setTop (mkF m 147 #[.val (.long q0), .second, .val (.long q1), .second, .val (.long q2), .second, .val (.int p3), .val (.long (gl q0)), .second, .val (.long (gt q0 q1)), .second, .val (.ref b4), .val (.long q2), .second, .val (.int (1 : Int32)), .unset, .unset] [(.long q2), (.ref b4)])) _
        refine st14.trans ?_
        show Steps p.tables e below (T14.setTop (mkF m 150 #[.val (.long q0), .second, .val (.long q1), .second, .val (.long q2), .second, .val (.int p3), .val (.long (gl q0)), .second, .val (.long (gt q0 q1)), .second, .val (.ref b4), .val (.long q2), .second, .val (.int (1 : Int32)), .unset, .unset] [(.int (f4 q2 (gl q0) ((0 : Int64) + (gt q0 q1))))])) _
        refine XS.iload X14.here hx rfl (hb hby at_150) rfl ?_
        show Steps p.tables e below (T14.setTop (mkF m 152 #[.val (.long q0), .second, .val (.long q1), .second, .val (.long q2), .second, .val (.int p3), .val (.long (gl q0)), .second, .val (.long (gt q0 q1)), .second, .val (.ref b4), .val (.long q2), .second, .val (.int (1 : Int32)), .unset, .unset] [(.int (1 : Int32)), (.int (f4 q2 (gl q0) ((0 : Int64) + (gt q0 q1))))])) _
        refine XS.icmpNo X14.here hx rfl (hb hby at_152) rfl (teq (show (f4 q2 (gl q0) ((0 : Int64) + (gt q0 q1))) = (1 : Int32) from (own_neg q0 q1 q2 hc13))).2 ?_
        show Steps p.tables e below (T14.setTop (mkF m 155 #[.val (.long q0), .second, .val (.long q1), .second, .val (.long q2), .second, .val (.int p3), .val (.long (gl q0)), .second, .val (.long (gt q0 q1)), .second, .val (.ref b4), .val (.long q2), .second, .val (.int (1 : Int32)), .unset, .unset] [])) _
        refine XS.iconst X14.here hx rfl (hb hby at_155) ?_
        show Steps p.tables e below (T14.setTop (mkF m 156 #[.val (.long q0), .second, .val (.long q1), .second, .val (.long q2), .second, .val (.int p3), .val (.long (gl q0)), .second, .val (.long (gt q0 q1)), .second, .val (.ref b4), .val (.long q2), .second, .val (.int (1 : Int32)), .unset, .unset] [(.int (1 : Int32))])) _
        refine XS.goto X14.here hx rfl (pc0 := 156) (pc' := 160) rfl (hb hby at_156) (by decide) (by decide) ?_
        exact kt
      obtain ⟨fs, hr, hrun, hended, hW, hsame⟩ := X14.leave (v := some (.int (1 : Int32))) (fun h => by rw [Bd.returns] at h; cases h)
      refine ⟨_, _, pre0 _ (K15 _ ?_), hrun, hended, _, _, rfl, ?_, ⟨_, rfl⟩, hW, hsame.mono (by decide) (by decide)⟩
      · show Steps p.tables e below (T14.setTop (mkF m 160 #[.val (.long q0), .second, .val (.long q1), .second, .val (.long q2), .second, .val (.int p3), .val (.long (gl q0)), .second, .val (.long (gt q0 q1)), .second, .val (.ref b4), .val (.long q2), .second, .val (.int (1 : Int32)), .unset, .unset] [(.int (1 : Int32))])) _
        exact retN X14 hx (t := .boolean) Bd.returns (by simp) (hb hby at_160) hr
      · show Q0 Z q0 q1 q2 p3  h0 n0 _ T14.heap _
        rw [e14]
        exact ⟨rfl, N7⟩
    · skip
      have K16 : ∀ t, Steps p.tables e below (T9.setTop (mkF m 125 #[.val (.long q0), .second, .val (.long q1), .second, .val (.long q2), .second, .val (.int p3), .val (.long (gl q0)), .second, .val (.long (gt q0 q1)), .second, .val (.ref b4), .val (.long q2), .second, .unset, .val (.long ((gt q0 q1) + q2)), .second] [(.int (lcmpW ((gt q0 q1) + q2) (0 : Int64)))])) t → Steps p.tables e below (s₁.setTop (mkF m 0 #[.val (.long q0), .second, .val (.long q1), .second, .val (.long q2), .second, .val (.int p3), .unset, .unset, .unset, .unset, .unset, .unset, .unset, .unset, .unset, .unset] [])) t := by
        intro t kt
        refine K12 _ ?_
        show Steps p.tables e below (T9.setTop (mkF m 105 #[.val (.long q0), .second, .val (.long q1), .second, .val (.long q2), .second, .val (.int p3), .val (.long (gl q0)), .second, .val (.long (gt q0 q1)), .second, .val (.ref b4), .val (.long q2), .second, .unset, .unset, .unset] [(.int (lcmpW q2 (0 : Int64)))])) _
        refine XS.ifYes X9.here hx rfl (pc0 := 105) (pc' := 114) rfl (hb hby at_105) rfl ((if0 _ _).trans (flt (mt (lw_lt _ _).mp hc13)).2.1) (by decide) (by decide) ?_
        show Steps p.tables e below (T9.setTop (mkF m 114 #[.val (.long q0), .second, .val (.long q1), .second, .val (.long q2), .second, .val (.int p3), .val (.long (gl q0)), .second, .val (.long (gt q0 q1)), .second, .val (.ref b4), .val (.long q2), .second, .unset, .unset, .unset] [])) _
        refine XS.lload X9.here hx rfl (hb hby at_114) rfl ?_
        show Steps p.tables e below (T9.setTop (mkF m 116 #[.val (.long q0), .second, .val (.long q1), .second, .val (.long q2), .second, .val (.int p3), .val (.long (gl q0)), .second, .val (.long (gt q0 q1)), .second, .val (.ref b4), .val (.long q2), .second, .unset, .unset, .unset] [(.long (gt q0 q1))])) _
        refine XS.lload X9.here hx rfl (hb hby at_116) rfl ?_
        show Steps p.tables e below (T9.setTop (mkF m 118 #[.val (.long q0), .second, .val (.long q1), .second, .val (.long q2), .second, .val (.int p3), .val (.long (gl q0)), .second, .val (.long (gt q0 q1)), .second, .val (.ref b4), .val (.long q2), .second, .unset, .unset, .unset] [(.long q2), (.long (gt q0 q1))])) _
        refine XS.ladd X9.here hx rfl (hb hby at_118) rfl ?_
        show Steps p.tables e below (T9.setTop (mkF m 119 #[.val (.long q0), .second, .val (.long q1), .second, .val (.long q2), .second, .val (.int p3), .val (.long (gl q0)), .second, .val (.long (gt q0 q1)), .second, .val (.ref b4), .val (.long q2), .second, .unset, .unset, .unset] [(.long ((gt q0 q1) + q2))])) _
        refine XS.lstore X9.here hx rfl (hb hby at_119) rfl (l' := #[.val (.long q0), .second, .val (.long q1), .second, .val (.long q2), .second, .val (.int p3), .val (.long (gl q0)), .second, .val (.long (gt q0 q1)), .second, .val (.ref b4), .val (.long q2), .second, .unset, .val (.long ((gt q0 q1) + q2)), .second]) rfl ?_
        show Steps p.tables e below (T9.setTop (mkF m 121 #[.val (.long q0), .second, .val (.long q1), .second, .val (.long q2), .second, .val (.int p3), .val (.long (gl q0)), .second, .val (.long (gt q0 q1)), .second, .val (.ref b4), .val (.long q2), .second, .unset, .val (.long ((gt q0 q1) + q2)), .second] [])) _
        refine XS.lload X9.here hx rfl (hb hby at_121) rfl ?_
        show Steps p.tables e below (T9.setTop (mkF m 123 #[.val (.long q0), .second, .val (.long q1), .second, .val (.long q2), .second, .val (.int p3), .val (.long (gl q0)), .second, .val (.long (gt q0 q1)), .second, .val (.ref b4), .val (.long q2), .second, .unset, .val (.long ((gt q0 q1) + q2)), .second] [(.long ((gt q0 q1) + q2))])) _
        refine XS.lconst X9.here hx rfl (hb hby at_123) ?_
        show Steps p.tables e below (T9.setTop (mkF m 124 #[.val (.long q0), .second, .val (.long q1), .second, .val (.long q2), .second, .val (.int p3), .val (.long (gl q0)), .second, .val (.long (gt q0 q1)), .second, .val (.ref b4), .val (.long q2), .second, .unset, .val (.long ((gt q0 q1) + q2)), .second] [(.long (0 : Int64)), (.long ((gt q0 q1) + q2))])) _
        refine XS.lcmp X9.here hx rfl (hb hby at_124) rfl ?_
        exact kt
      by_cases hc17 : ((gt q0 q1) + q2) < (0 : Int64)
      · skip
        obtain ⟨cq18, kq18, q18a, q18b, q18c⟩ := isOf hZ e9 G8
        obtain ⟨_, _, ⟨T18, L18, k18, n18⟩, -, X18, ⟨Lc18, hQ18, l18, y18, z18⟩, st18⟩ := X9.virtualBack hx (y := (⟨"com/example/nwx/nwx/core/MemoryShare", "fits", "(J)Z"⟩ : MethodName)) (z := (⟨"com/example/nwx/nwx/core/MemoryShare", "fits", "(J)Z"⟩ : MethodName)) hown (mvT hZ (hw _ (List.mem_of_getElem? (i := 29) rfl))) (mvT hZ (hw _ (List.mem_of_getElem? (i := 18) rfl))) (notFace_of_selects (args := #[]) (mvT hZ (hw _ (List.mem_of_getElem? (i := 20) rfl)))) (mvT hZ (hw _ (List.mem_of_getElem? (i := 20) rfl))) (mvT hZ (hw _ (List.mem_of_getElem? (i := 19) rfl))) (by decide) (backOf (W := 0) (rm4 l Z a0 hw [] b4 q2 (gl q0) ((0 : Int64) + (gt q0 q1)) T7.heap F7q G7q) hZ (hw _ (List.mem_of_getElem? (i := 21) rfl)) (hw _ (List.mem_of_getElem? (i := 3) rfl)) (by decide) (by decide)) q18a q18c (g := (mkF m 147 #[.val (.long q0), .second, .val (.long q1), .second, .val (.long q2), .second, .val (.int p3), .val (.long (gl q0)), .second, .val (.long (gt q0 q1)), .second, .val (.ref b4), .val (.long q2), .second, .val (.int (0 : Int32)), .val (.long ((gt q0 q1) + q2)), .second] [(.long q2), (.ref b4)])) rfl (by rw [hml]; rfl) (Steps.refl _) (argsL := [(.long q2)]) (rest := []) (lenOf pd_0 rfl) rfl (by show 2 * 0 + _ ≤ _; exact Nat.le_of_eq rfl) (hb hby at_147) (fun _ _ => ⟨rfl, e9, (by decide : 1 + 0 ≤ _), (by decide : 2 + 0 ≤ _)⟩)
        dsimp only [Pt.U, Pt.locs, Pt.cells, Pt.slots] at X18 l18 y18 z18 st18 hQ18
        subst l18 y18 z18
        obtain ⟨rfl, rfl, e18⟩ := hQ18
        try rw [List.append_nil] at X18
        have K19 : ∀ t, Steps p.tables e below (T18.setTop (mkF m 160 #[.val (.long q0), .second, .val (.long q1), .second, .val (.long q2), .second, .val (.int p3), .val (.long (gl q0)), .second, .val (.long (gt q0 q1)), .second, .val (.ref b4), .val (.long q2), .second, .val (.int (0 : Int32)), .val (.long ((gt q0 q1) + q2)), .second] [(.int (1 : Int32))])) t → Steps p.tables e below (s₁.setTop (mkF m 0 #[.val (.long q0), .second, .val (.long q1), .second, .val (.long q2), .second, .val (.int p3), .unset, .unset, .unset, .unset, .unset, .unset, .unset, .unset, .unset, .unset] [])) t := by
          intro t kt
          refine K16 _ ?_
          show Steps p.tables e below (T9.setTop (mkF m 125 #[.val (.long q0), .second, .val (.long q1), .second, .val (.long q2), .second, .val (.int p3), .val (.long (gl q0)), .second, .val (.long (gt q0 q1)), .second, .val (.ref b4), .val (.long q2), .second, .unset, .val (.long ((gt q0 q1) + q2)), .second] [(.int (lcmpW ((gt q0 q1) + q2) (0 : Int64)))])) _
          refine XS.ifYes X9.here hx rfl (pc0 := 125) (pc' := 140) rfl (hb hby at_125) rfl ((if0 _ _).trans (tlt ((lw_lt _ _).mpr hc17)).1) (by decide) (by decide) ?_
          show Steps p.tables e below (T9.setTop (mkF m 140 #[.val (.long q0), .second, .val (.long q1), .second, .val (.long q2), .second, .val (.int p3), .val (.long (gl q0)), .second, .val (.long (gt q0 q1)), .second, .val (.ref b4), .val (.long q2), .second, .unset, .val (.long ((gt q0 q1) + q2)), .second] [])) _
          refine XS.iconst X9.here hx rfl (hb hby at_140) ?_
          show Steps p.tables e below (T9.setTop (mkF m 141 #[.val (.long q0), .second, .val (.long q1), .second, .val (.long q2), .second, .val (.int p3), .val (.long (gl q0)), .second, .val (.long (gt q0 q1)), .second, .val (.ref b4), .val (.long q2), .second, .unset, .val (.long ((gt q0 q1) + q2)), .second] [(.int (0 : Int32))])) _
          refine XS.istore X9.here hx rfl (hb hby at_141) rfl (l' := #[.val (.long q0), .second, .val (.long q1), .second, .val (.long q2), .second, .val (.int p3), .val (.long (gl q0)), .second, .val (.long (gt q0 q1)), .second, .val (.ref b4), .val (.long q2), .second, .val (.int (0 : Int32)), .val (.long ((gt q0 q1) + q2)), .second]) rfl ?_
          show Steps p.tables e below (T9.setTop (mkF m 143 #[.val (.long q0), .second, .val (.long q1), .second, .val (.long q2), .second, .val (.int p3), .val (.long (gl q0)), .second, .val (.long (gt q0 q1)), .second, .val (.ref b4), .val (.long q2), .second, .val (.int (0 : Int32)), .val (.long ((gt q0 q1) + q2)), .second] [])) _
          refine XS.aload X9.here hx rfl (hb hby at_143) rfl rfl ?_
          show Steps p.tables e below (T9.setTop (mkF m 145 #[.val (.long q0), .second, .val (.long q1), .second, .val (.long q2), .second, .val (.int p3), .val (.long (gl q0)), .second, .val (.long (gt q0 q1)), .second, .val (.ref b4), .val (.long q2), .second, .val (.int (0 : Int32)), .val (.long ((gt q0 q1) + q2)), .second] [(.ref b4)])) _
          refine XS.lload X9.here hx rfl (hb hby at_145) rfl ?_
          show Steps p.tables e below (T9.setTop (mkF m 147 #[.val (.long q0), .second, .val (.long q1), .second, .val (.long q2), .second, .val (.int p3), .val (.long (gl q0)), .second, .val (.long (gt q0 q1)), .second, .val (.ref b4), .val (.long q2), .second, .val (.int (0 : Int32)), .val (.long ((gt q0 q1) + q2)), .second] [(.long q2), (.ref b4)])) _
          refine st18.trans ?_
          show Steps p.tables e below (T18.setTop (mkF m 150 #[.val (.long q0), .second, .val (.long q1), .second, .val (.long q2), .second, .val (.int p3), .val (.long (gl q0)), .second, .val (.long (gt q0 q1)), .second, .val (.ref b4), .val (.long q2), .second, .val (.int (0 : Int32)), .val (.long ((gt q0 q1) + q2)), .second] [(.int (f4 q2 (gl q0) ((0 : Int64) + (gt q0 q1))))])) _
          refine XS.iload X18.here hx rfl (hb hby at_150) rfl ?_
          show Steps p.tables e below (T18.setTop (mkF m 152 #[.val (.long q0), .second, .val (.long q1), .second, .val (.long q2), .second, .val (.int p3), .val (.long (gl q0)), .second, .val (.long (gt q0 q1)), .second, .val (.ref b4), .val (.long q2), .second, .val (.int (0 : Int32)), .val (.long ((gt q0 q1) + q2)), .second] [(.int (0 : Int32)), (.int (f4 q2 (gl q0) ((0 : Int64) + (gt q0 q1))))])) _
          refine XS.icmpNo X18.here hx rfl (hb hby at_152) rfl (teq (show (f4 q2 (gl q0) ((0 : Int64) + (gt q0 q1))) = (0 : Int32) from (own_over q0 q1 q2 hc13 hc17))).2 ?_
          show Steps p.tables e below (T18.setTop (mkF m 155 #[.val (.long q0), .second, .val (.long q1), .second, .val (.long q2), .second, .val (.int p3), .val (.long (gl q0)), .second, .val (.long (gt q0 q1)), .second, .val (.ref b4), .val (.long q2), .second, .val (.int (0 : Int32)), .val (.long ((gt q0 q1) + q2)), .second] [])) _
          refine XS.iconst X18.here hx rfl (hb hby at_155) ?_
          show Steps p.tables e below (T18.setTop (mkF m 156 #[.val (.long q0), .second, .val (.long q1), .second, .val (.long q2), .second, .val (.int p3), .val (.long (gl q0)), .second, .val (.long (gt q0 q1)), .second, .val (.ref b4), .val (.long q2), .second, .val (.int (0 : Int32)), .val (.long ((gt q0 q1) + q2)), .second] [(.int (1 : Int32))])) _
          refine XS.goto X18.here hx rfl (pc0 := 156) (pc' := 160) rfl (hb hby at_156) (by decide) (by decide) ?_
          exact kt
        obtain ⟨fs, hr, hrun, hended, hW, hsame⟩ := X18.leave (v := some (.int (1 : Int32))) (fun h => by rw [Bd.returns] at h; cases h)
        refine ⟨_, _, pre0 _ (K19 _ ?_), hrun, hended, _, _, rfl, ?_, ⟨_, rfl⟩, hW, hsame.mono (by decide) (by decide)⟩
        · show Steps p.tables e below (T18.setTop (mkF m 160 #[.val (.long q0), .second, .val (.long q1), .second, .val (.long q2), .second, .val (.int p3), .val (.long (gl q0)), .second, .val (.long (gt q0 q1)), .second, .val (.ref b4), .val (.long q2), .second, .val (.int (0 : Int32)), .val (.long ((gt q0 q1) + q2)), .second] [(.int (1 : Int32))])) _
          exact retN X18 hx (t := .boolean) Bd.returns (by simp) (hb hby at_160) hr
        · show Q0 Z q0 q1 q2 p3  h0 n0 _ T18.heap _
          rw [e18]
          exact ⟨rfl, N7⟩
      · skip
        have K20 : ∀ t, Steps p.tables e below (T9.setTop (mkF m 133 #[.val (.long q0), .second, .val (.long q1), .second, .val (.long q2), .second, .val (.int p3), .val (.long (gl q0)), .second, .val (.long (gt q0 q1)), .second, .val (.ref b4), .val (.long q2), .second, .unset, .val (.long ((gt q0 q1) + q2)), .second] [(.int (lcmpW ((gt q0 q1) + q2) (gl q0)))])) t → Steps p.tables e below (s₁.setTop (mkF m 0 #[.val (.long q0), .second, .val (.long q1), .second, .val (.long q2), .second, .val (.int p3), .unset, .unset, .unset, .unset, .unset, .unset, .unset, .unset, .unset, .unset] [])) t := by
          intro t kt
          refine K16 _ ?_
          show Steps p.tables e below (T9.setTop (mkF m 125 #[.val (.long q0), .second, .val (.long q1), .second, .val (.long q2), .second, .val (.int p3), .val (.long (gl q0)), .second, .val (.long (gt q0 q1)), .second, .val (.ref b4), .val (.long q2), .second, .unset, .val (.long ((gt q0 q1) + q2)), .second] [(.int (lcmpW ((gt q0 q1) + q2) (0 : Int64)))])) _
          refine XS.ifNo X9.here hx rfl (hb hby at_125) rfl ((if0 _ _).trans (flt (mt (lw_lt _ _).mp hc17)).1) ?_
          show Steps p.tables e below (T9.setTop (mkF m 128 #[.val (.long q0), .second, .val (.long q1), .second, .val (.long q2), .second, .val (.int p3), .val (.long (gl q0)), .second, .val (.long (gt q0 q1)), .second, .val (.ref b4), .val (.long q2), .second, .unset, .val (.long ((gt q0 q1) + q2)), .second] [])) _
          refine XS.lload X9.here hx rfl (hb hby at_128) rfl ?_
          show Steps p.tables e below (T9.setTop (mkF m 130 #[.val (.long q0), .second, .val (.long q1), .second, .val (.long q2), .second, .val (.int p3), .val (.long (gl q0)), .second, .val (.long (gt q0 q1)), .second, .val (.ref b4), .val (.long q2), .second, .unset, .val (.long ((gt q0 q1) + q2)), .second] [(.long ((gt q0 q1) + q2))])) _
          refine XS.lload X9.here hx rfl (hb hby at_130) rfl ?_
          show Steps p.tables e below (T9.setTop (mkF m 132 #[.val (.long q0), .second, .val (.long q1), .second, .val (.long q2), .second, .val (.int p3), .val (.long (gl q0)), .second, .val (.long (gt q0 q1)), .second, .val (.ref b4), .val (.long q2), .second, .unset, .val (.long ((gt q0 q1) + q2)), .second] [(.long (gl q0)), (.long ((gt q0 q1) + q2))])) _
          refine XS.lcmp X9.here hx rfl (hb hby at_132) rfl ?_
          exact kt
        by_cases hc21 : (gl q0) < ((gt q0 q1) + q2)
        · skip
          obtain ⟨cq22, kq22, q22a, q22b, q22c⟩ := isOf hZ e9 G8
          obtain ⟨_, _, ⟨T22, L22, k22, n22⟩, -, X22, ⟨Lc22, hQ22, l22, y22, z22⟩, st22⟩ := X9.virtualBack hx (y := (⟨"com/example/nwx/nwx/core/MemoryShare", "fits", "(J)Z"⟩ : MethodName)) (z := (⟨"com/example/nwx/nwx/core/MemoryShare", "fits", "(J)Z"⟩ : MethodName)) hown (mvT hZ (hw _ (List.mem_of_getElem? (i := 29) rfl))) (mvT hZ (hw _ (List.mem_of_getElem? (i := 18) rfl))) (notFace_of_selects (args := #[]) (mvT hZ (hw _ (List.mem_of_getElem? (i := 20) rfl)))) (mvT hZ (hw _ (List.mem_of_getElem? (i := 20) rfl))) (mvT hZ (hw _ (List.mem_of_getElem? (i := 19) rfl))) (by decide) (backOf (W := 0) (rm4 l Z a0 hw [] b4 q2 (gl q0) ((0 : Int64) + (gt q0 q1)) T7.heap F7q G7q) hZ (hw _ (List.mem_of_getElem? (i := 21) rfl)) (hw _ (List.mem_of_getElem? (i := 3) rfl)) (by decide) (by decide)) q22a q22c (g := (mkF m 147 #[.val (.long q0), .second, .val (.long q1), .second, .val (.long q2), .second, .val (.int p3), .val (.long (gl q0)), .second, .val (.long (gt q0 q1)), .second, .val (.ref b4), .val (.long q2), .second, .val (.int (0 : Int32)), .val (.long ((gt q0 q1) + q2)), .second] [(.long q2), (.ref b4)])) rfl (by rw [hml]; rfl) (Steps.refl _) (argsL := [(.long q2)]) (rest := []) (lenOf pd_0 rfl) rfl (by show 2 * 0 + _ ≤ _; exact Nat.le_of_eq rfl) (hb hby at_147) (fun _ _ => ⟨rfl, e9, (by decide : 1 + 0 ≤ _), (by decide : 2 + 0 ≤ _)⟩)
          dsimp only [Pt.U, Pt.locs, Pt.cells, Pt.slots] at X22 l22 y22 z22 st22 hQ22
          subst l22 y22 z22
          obtain ⟨rfl, rfl, e22⟩ := hQ22
          try rw [List.append_nil] at X22
          have K23 : ∀ t, Steps p.tables e below (T22.setTop (mkF m 160 #[.val (.long q0), .second, .val (.long q1), .second, .val (.long q2), .second, .val (.int p3), .val (.long (gl q0)), .second, .val (.long (gt q0 q1)), .second, .val (.ref b4), .val (.long q2), .second, .val (.int (0 : Int32)), .val (.long ((gt q0 q1) + q2)), .second] [(.int (1 : Int32))])) t → Steps p.tables e below (s₁.setTop (mkF m 0 #[.val (.long q0), .second, .val (.long q1), .second, .val (.long q2), .second, .val (.int p3), .unset, .unset, .unset, .unset, .unset, .unset, .unset, .unset, .unset, .unset] [])) t := by
            intro t kt
            refine K20 _ ?_
            show Steps p.tables e below (T9.setTop (mkF m 133 #[.val (.long q0), .second, .val (.long q1), .second, .val (.long q2), .second, .val (.int p3), .val (.long (gl q0)), .second, .val (.long (gt q0 q1)), .second, .val (.ref b4), .val (.long q2), .second, .unset, .val (.long ((gt q0 q1) + q2)), .second] [(.int (lcmpW ((gt q0 q1) + q2) (gl q0)))])) _
            refine XS.ifYes X9.here hx rfl (pc0 := 133) (pc' := 140) rfl (hb hby at_133) rfl ((if0 _ _).trans (tlt ((lw_gt _ _).mpr hc21)).2.2.1) (by decide) (by decide) ?_
            show Steps p.tables e below (T9.setTop (mkF m 140 #[.val (.long q0), .second, .val (.long q1), .second, .val (.long q2), .second, .val (.int p3), .val (.long (gl q0)), .second, .val (.long (gt q0 q1)), .second, .val (.ref b4), .val (.long q2), .second, .unset, .val (.long ((gt q0 q1) + q2)), .second] [])) _
            refine XS.iconst X9.here hx rfl (hb hby at_140) ?_
            show Steps p.tables e below (T9.setTop (mkF m 141 #[.val (.long q0), .second, .val (.long q1), .second, .val (.long q2), .second, .val (.int p3), .val (.long (gl q0)), .second, .val (.long (gt q0 q1)), .second, .val (.ref b4), .val (.long q2), .second, .unset, .val (.long ((gt q0 q1) + q2)), .second] [(.int (0 : Int32))])) _
            refine XS.istore X9.here hx rfl (hb hby at_141) rfl (l' := #[.val (.long q0), .second, .val (.long q1), .second, .val (.long q2), .second, .val (.int p3), .val (.long (gl q0)), .second, .val (.long (gt q0 q1)), .second, .val (.ref b4), .val (.long q2), .second, .val (.int (0 : Int32)), .val (.long ((gt q0 q1) + q2)), .second]) rfl ?_
            show Steps p.tables e below (T9.setTop (mkF m 143 #[.val (.long q0), .second, .val (.long q1), .second, .val (.long q2), .second, .val (.int p3), .val (.long (gl q0)), .second, .val (.long (gt q0 q1)), .second, .val (.ref b4), .val (.long q2), .second, .val (.int (0 : Int32)), .val (.long ((gt q0 q1) + q2)), .second] [])) _
            refine XS.aload X9.here hx rfl (hb hby at_143) rfl rfl ?_
            show Steps p.tables e below (T9.setTop (mkF m 145 #[.val (.long q0), .second, .val (.long q1), .second, .val (.long q2), .second, .val (.int p3), .val (.long (gl q0)), .second, .val (.long (gt q0 q1)), .second, .val (.ref b4), .val (.long q2), .second, .val (.int (0 : Int32)), .val (.long ((gt q0 q1) + q2)), .second] [(.ref b4)])) _
            refine XS.lload X9.here hx rfl (hb hby at_145) rfl ?_
            show Steps p.tables e below (T9.setTop (mkF m 147 #[.val (.long q0), .second, .val (.long q1), .second, .val (.long q2), .second, .val (.int p3), .val (.long (gl q0)), .second, .val (.long (gt q0 q1)), .second, .val (.ref b4), .val (.long q2), .second, .val (.int (0 : Int32)), .val (.long ((gt q0 q1) + q2)), .second] [(.long q2), (.ref b4)])) _
            refine st22.trans ?_
            show Steps p.tables e below (T22.setTop (mkF m 150 #[.val (.long q0), .second, .val (.long q1), .second, .val (.long q2), .second, .val (.int p3), .val (.long (gl q0)), .second, .val (.long (gt q0 q1)), .second, .val (.ref b4), .val (.long q2), .second, .val (.int (0 : Int32)), .val (.long ((gt q0 q1) + q2)), .second] [(.int (f4 q2 (gl q0) ((0 : Int64) + (gt q0 q1))))])) _
            refine XS.iload X22.here hx rfl (hb hby at_150) rfl ?_
            show Steps p.tables e below (T22.setTop (mkF m 152 #[.val (.long q0), .second, .val (.long q1), .second, .val (.long q2), .second, .val (.int p3), .val (.long (gl q0)), .second, .val (.long (gt q0 q1)), .second, .val (.ref b4), .val (.long q2), .second, .val (.int (0 : Int32)), .val (.long ((gt q0 q1) + q2)), .second] [(.int (0 : Int32)), (.int (f4 q2 (gl q0) ((0 : Int64) + (gt q0 q1))))])) _
            refine XS.icmpNo X22.here hx rfl (hb hby at_152) rfl (teq (show (f4 q2 (gl q0) ((0 : Int64) + (gt q0 q1))) = (0 : Int32) from (own_big q0 q1 q2 hc13 hc17 hc21))).2 ?_
            show Steps p.tables e below (T22.setTop (mkF m 155 #[.val (.long q0), .second, .val (.long q1), .second, .val (.long q2), .second, .val (.int p3), .val (.long (gl q0)), .second, .val (.long (gt q0 q1)), .second, .val (.ref b4), .val (.long q2), .second, .val (.int (0 : Int32)), .val (.long ((gt q0 q1) + q2)), .second] [])) _
            refine XS.iconst X22.here hx rfl (hb hby at_155) ?_
            show Steps p.tables e below (T22.setTop (mkF m 156 #[.val (.long q0), .second, .val (.long q1), .second, .val (.long q2), .second, .val (.int p3), .val (.long (gl q0)), .second, .val (.long (gt q0 q1)), .second, .val (.ref b4), .val (.long q2), .second, .val (.int (0 : Int32)), .val (.long ((gt q0 q1) + q2)), .second] [(.int (1 : Int32))])) _
            refine XS.goto X22.here hx rfl (pc0 := 156) (pc' := 160) rfl (hb hby at_156) (by decide) (by decide) ?_
            exact kt
          obtain ⟨fs, hr, hrun, hended, hW, hsame⟩ := X22.leave (v := some (.int (1 : Int32))) (fun h => by rw [Bd.returns] at h; cases h)
          refine ⟨_, _, pre0 _ (K23 _ ?_), hrun, hended, _, _, rfl, ?_, ⟨_, rfl⟩, hW, hsame.mono (by decide) (by decide)⟩
          · show Steps p.tables e below (T22.setTop (mkF m 160 #[.val (.long q0), .second, .val (.long q1), .second, .val (.long q2), .second, .val (.int p3), .val (.long (gl q0)), .second, .val (.long (gt q0 q1)), .second, .val (.ref b4), .val (.long q2), .second, .val (.int (0 : Int32)), .val (.long ((gt q0 q1) + q2)), .second] [(.int (1 : Int32))])) _
            exact retN X22 hx (t := .boolean) Bd.returns (by simp) (hb hby at_160) hr
          · show Q0 Z q0 q1 q2 p3  h0 n0 _ T22.heap _
            rw [e22]
            exact ⟨rfl, N7⟩
        · skip
          obtain ⟨cq24, kq24, q24a, q24b, q24c⟩ := isOf hZ e9 G8
          obtain ⟨_, _, ⟨T24, L24, k24, n24⟩, -, X24, ⟨Lc24, hQ24, l24, y24, z24⟩, st24⟩ := X9.virtualBack hx (y := (⟨"com/example/nwx/nwx/core/MemoryShare", "fits", "(J)Z"⟩ : MethodName)) (z := (⟨"com/example/nwx/nwx/core/MemoryShare", "fits", "(J)Z"⟩ : MethodName)) hown (mvT hZ (hw _ (List.mem_of_getElem? (i := 29) rfl))) (mvT hZ (hw _ (List.mem_of_getElem? (i := 18) rfl))) (notFace_of_selects (args := #[]) (mvT hZ (hw _ (List.mem_of_getElem? (i := 20) rfl)))) (mvT hZ (hw _ (List.mem_of_getElem? (i := 20) rfl))) (mvT hZ (hw _ (List.mem_of_getElem? (i := 19) rfl))) (by decide) (backOf (W := 0) (rm4 l Z a0 hw [] b4 q2 (gl q0) ((0 : Int64) + (gt q0 q1)) T7.heap F7q G7q) hZ (hw _ (List.mem_of_getElem? (i := 21) rfl)) (hw _ (List.mem_of_getElem? (i := 3) rfl)) (by decide) (by decide)) q24a q24c (g := (mkF m 147 #[.val (.long q0), .second, .val (.long q1), .second, .val (.long q2), .second, .val (.int p3), .val (.long (gl q0)), .second, .val (.long (gt q0 q1)), .second, .val (.ref b4), .val (.long q2), .second, .val (.int (1 : Int32)), .val (.long ((gt q0 q1) + q2)), .second] [(.long q2), (.ref b4)])) rfl (by rw [hml]; rfl) (Steps.refl _) (argsL := [(.long q2)]) (rest := []) (lenOf pd_0 rfl) rfl (by show 2 * 0 + _ ≤ _; exact Nat.le_of_eq rfl) (hb hby at_147) (fun _ _ => ⟨rfl, e9, (by decide : 1 + 0 ≤ _), (by decide : 2 + 0 ≤ _)⟩)
          dsimp only [Pt.U, Pt.locs, Pt.cells, Pt.slots] at X24 l24 y24 z24 st24 hQ24
          subst l24 y24 z24
          obtain ⟨rfl, rfl, e24⟩ := hQ24
          try rw [List.append_nil] at X24
          have K25 : ∀ t, Steps p.tables e below (T24.setTop (mkF m 160 #[.val (.long q0), .second, .val (.long q1), .second, .val (.long q2), .second, .val (.int p3), .val (.long (gl q0)), .second, .val (.long (gt q0 q1)), .second, .val (.ref b4), .val (.long q2), .second, .val (.int (1 : Int32)), .val (.long ((gt q0 q1) + q2)), .second] [(.int (1 : Int32))])) t → Steps p.tables e below (s₁.setTop (mkF m 0 #[.val (.long q0), .second, .val (.long q1), .second, .val (.long q2), .second, .val (.int p3), .unset, .unset, .unset, .unset, .unset, .unset, .unset, .unset, .unset, .unset] [])) t := by
            intro t kt
            refine K20 _ ?_
            show Steps p.tables e below (T9.setTop (mkF m 133 #[.val (.long q0), .second, .val (.long q1), .second, .val (.long q2), .second, .val (.int p3), .val (.long (gl q0)), .second, .val (.long (gt q0 q1)), .second, .val (.ref b4), .val (.long q2), .second, .unset, .val (.long ((gt q0 q1) + q2)), .second] [(.int (lcmpW ((gt q0 q1) + q2) (gl q0)))])) _
            refine XS.ifNo X9.here hx rfl (hb hby at_133) rfl ((if0 _ _).trans (flt (mt (lw_gt _ _).mp hc21)).2.2.1) ?_
            show Steps p.tables e below (T9.setTop (mkF m 136 #[.val (.long q0), .second, .val (.long q1), .second, .val (.long q2), .second, .val (.int p3), .val (.long (gl q0)), .second, .val (.long (gt q0 q1)), .second, .val (.ref b4), .val (.long q2), .second, .unset, .val (.long ((gt q0 q1) + q2)), .second] [])) _
            refine XS.iconst X9.here hx rfl (hb hby at_136) ?_
            show Steps p.tables e below (T9.setTop (mkF m 137 #[.val (.long q0), .second, .val (.long q1), .second, .val (.long q2), .second, .val (.int p3), .val (.long (gl q0)), .second, .val (.long (gt q0 q1)), .second, .val (.ref b4), .val (.long q2), .second, .unset, .val (.long ((gt q0 q1) + q2)), .second] [(.int (1 : Int32))])) _
            refine XS.goto X9.here hx rfl (pc0 := 137) (pc' := 141) rfl (hb hby at_137) (by decide) (by decide) ?_
            show Steps p.tables e below (T9.setTop (mkF m 141 #[.val (.long q0), .second, .val (.long q1), .second, .val (.long q2), .second, .val (.int p3), .val (.long (gl q0)), .second, .val (.long (gt q0 q1)), .second, .val (.ref b4), .val (.long q2), .second, .unset, .val (.long ((gt q0 q1) + q2)), .second] [(.int (1 : Int32))])) _
            refine XS.istore X9.here hx rfl (hb hby at_141) rfl (l' := #[.val (.long q0), .second, .val (.long q1), .second, .val (.long q2), .second, .val (.int p3), .val (.long (gl q0)), .second, .val (.long (gt q0 q1)), .second, .val (.ref b4), .val (.long q2), .second, .val (.int (1 : Int32)), .val (.long ((gt q0 q1) + q2)), .second]) rfl ?_
            show Steps p.tables e below (T9.setTop (mkF m 143 #[.val (.long q0), .second, .val (.long q1), .second, .val (.long q2), .second, .val (.int p3), .val (.long (gl q0)), .second, .val (.long (gt q0 q1)), .second, .val (.ref b4), .val (.long q2), .second, .val (.int (1 : Int32)), .val (.long ((gt q0 q1) + q2)), .second] [])) _
            refine XS.aload X9.here hx rfl (hb hby at_143) rfl rfl ?_
            show Steps p.tables e below (T9.setTop (mkF m 145 #[.val (.long q0), .second, .val (.long q1), .second, .val (.long q2), .second, .val (.int p3), .val (.long (gl q0)), .second, .val (.long (gt q0 q1)), .second, .val (.ref b4), .val (.long q2), .second, .val (.int (1 : Int32)), .val (.long ((gt q0 q1) + q2)), .second] [(.ref b4)])) _
            refine XS.lload X9.here hx rfl (hb hby at_145) rfl ?_
            show Steps p.tables e below (T9.setTop (mkF m 147 #[.val (.long q0), .second, .val (.long q1), .second, .val (.long q2), .second, .val (.int p3), .val (.long (gl q0)), .second, .val (.long (gt q0 q1)), .second, .val (.ref b4), .val (.long q2), .second, .val (.int (1 : Int32)), .val (.long ((gt q0 q1) + q2)), .second] [(.long q2), (.ref b4)])) _
            refine st24.trans ?_
            show Steps p.tables e below (T24.setTop (mkF m 150 #[.val (.long q0), .second, .val (.long q1), .second, .val (.long q2), .second, .val (.int p3), .val (.long (gl q0)), .second, .val (.long (gt q0 q1)), .second, .val (.ref b4), .val (.long q2), .second, .val (.int (1 : Int32)), .val (.long ((gt q0 q1) + q2)), .second] [(.int (f4 q2 (gl q0) ((0 : Int64) + (gt q0 q1))))])) _
            refine XS.iload X24.here hx rfl (hb hby at_150) rfl ?_
            show Steps p.tables e below (T24.setTop (mkF m 152 #[.val (.long q0), .second, .val (.long q1), .second, .val (.long q2), .second, .val (.int p3), .val (.long (gl q0)), .second, .val (.long (gt q0 q1)), .second, .val (.ref b4), .val (.long q2), .second, .val (.int (1 : Int32)), .val (.long ((gt q0 q1) + q2)), .second] [(.int (1 : Int32)), (.int (f4 q2 (gl q0) ((0 : Int64) + (gt q0 q1))))])) _
            refine XS.icmpNo X24.here hx rfl (hb hby at_152) rfl (teq (show (f4 q2 (gl q0) ((0 : Int64) + (gt q0 q1))) = (1 : Int32) from (own_fit q0 q1 q2 hc13 hc17 hc21))).2 ?_
            show Steps p.tables e below (T24.setTop (mkF m 155 #[.val (.long q0), .second, .val (.long q1), .second, .val (.long q2), .second, .val (.int p3), .val (.long (gl q0)), .second, .val (.long (gt q0 q1)), .second, .val (.ref b4), .val (.long q2), .second, .val (.int (1 : Int32)), .val (.long ((gt q0 q1) + q2)), .second] [])) _
            refine XS.iconst X24.here hx rfl (hb hby at_155) ?_
            show Steps p.tables e below (T24.setTop (mkF m 156 #[.val (.long q0), .second, .val (.long q1), .second, .val (.long q2), .second, .val (.int p3), .val (.long (gl q0)), .second, .val (.long (gt q0 q1)), .second, .val (.ref b4), .val (.long q2), .second, .val (.int (1 : Int32)), .val (.long ((gt q0 q1) + q2)), .second] [(.int (1 : Int32))])) _
            refine XS.goto X24.here hx rfl (pc0 := 156) (pc' := 160) rfl (hb hby at_156) (by decide) (by decide) ?_
            exact kt
          obtain ⟨fs, hr, hrun, hended, hW, hsame⟩ := X24.leave (v := some (.int (1 : Int32))) (fun h => by rw [Bd.returns] at h; cases h)
          refine ⟨_, _, pre0 _ (K25 _ ?_), hrun, hended, _, _, rfl, ?_, ⟨_, rfl⟩, hW, hsame.mono (by decide) (by decide)⟩
          · show Steps p.tables e below (T24.setTop (mkF m 160 #[.val (.long q0), .second, .val (.long q1), .second, .val (.long q2), .second, .val (.int p3), .val (.long (gl q0)), .second, .val (.long (gt q0 q1)), .second, .val (.ref b4), .val (.long q2), .second, .val (.int (1 : Int32)), .val (.long ((gt q0 q1) + q2)), .second] [(.int (1 : Int32))])) _
            exact retN X24 hx (t := .boolean) Bd.returns (by simp) (hb hby at_160) hr
          · show Q0 Z q0 q1 q2 p3  h0 n0 _ T24.heap _
            rw [e24]
            exact ⟨rfl, N7⟩
  · skip
    have K26 : ∀ t, Steps p.tables e below (T9.setTop (mkF m 105 #[.val (.long q0), .second, .val (.long q1), .second, .val (.long q2), .second, .val (.int p3), .val (.long (gl q0)), .second, .val (.long (gt q0 q1)), .second, .val (.ref b4), .val (.long (gb q0 q1 p3)), .second, .val (.long (((((p3.toUInt32 >>> ((1 : Int32) &&& 31).toUInt32).toInt32) % (3 : Int32)).toInt64) - (1 : Int64))), .second, .unset] [(.int (lcmpW (gb q0 q1 p3) (0 : Int64)))])) t → Steps p.tables e below (s₁.setTop (mkF m 0 #[.val (.long q0), .second, .val (.long q1), .second, .val (.long q2), .second, .val (.int p3), .unset, .unset, .unset, .unset, .unset, .unset, .unset, .unset, .unset, .unset] [])) t := by
      intro t kt
      refine K10 _ ?_
      show Steps p.tables e below (T9.setTop (mkF m 77 #[.val (.long q0), .second, .val (.long q1), .second, .val (.long q2), .second, .val (.int p3), .val (.long (gl q0)), .second, .val (.long (gt q0 q1)), .second, .val (.ref b4), .val (.long q2), .second, .unset, .unset, .unset] [(.int (p3 &&& (1 : Int32)))])) _
      refine XS.ifNo X9.here hx rfl (hb hby at_77) rfl ((if0 _ _).trans (feq hc11).1) ?_
      show Steps p.tables e below (T9.setTop (mkF m 80 #[.val (.long q0), .second, .val (.long q1), .second, .val (.long q2), .second, .val (.int p3), .val (.long (gl q0)), .second, .val (.long (gt q0 q1)), .second, .val (.ref b4), .val (.long q2), .second, .unset, .unset, .unset] [])) _
      refine XS.iload X9.here hx rfl (hb hby at_80) rfl ?_
      show Steps p.tables e below (T9.setTop (mkF m 82 #[.val (.long q0), .second, .val (.long q1), .second, .val (.long q2), .second, .val (.int p3), .val (.long (gl q0)), .second, .val (.long (gt q0 q1)), .second, .val (.ref b4), .val (.long q2), .second, .unset, .unset, .unset] [(.int p3)])) _
      refine XS.iconst X9.here hx rfl (hb hby at_82) ?_
      show Steps p.tables e below (T9.setTop (mkF m 83 #[.val (.long q0), .second, .val (.long q1), .second, .val (.long q2), .second, .val (.int p3), .val (.long (gl q0)), .second, .val (.long (gt q0 q1)), .second, .val (.ref b4), .val (.long q2), .second, .unset, .unset, .unset] [(.int (1 : Int32)), (.int p3)])) _
      refine XS.iushr X9.here hx rfl (hb hby at_83) rfl ?_
      show Steps p.tables e below (T9.setTop (mkF m 84 #[.val (.long q0), .second, .val (.long q1), .second, .val (.long q2), .second, .val (.int p3), .val (.long (gl q0)), .second, .val (.long (gt q0 q1)), .second, .val (.ref b4), .val (.long q2), .second, .unset, .unset, .unset] [(.int ((p3.toUInt32 >>> ((1 : Int32) &&& 31).toUInt32).toInt32))])) _
      refine XS.iconst X9.here hx rfl (hb hby at_84) ?_
      show Steps p.tables e below (T9.setTop (mkF m 85 #[.val (.long q0), .second, .val (.long q1), .second, .val (.long q2), .second, .val (.int p3), .val (.long (gl q0)), .second, .val (.long (gt q0 q1)), .second, .val (.ref b4), .val (.long q2), .second, .unset, .unset, .unset] [(.int (3 : Int32)), (.int ((p3.toUInt32 >>> ((1 : Int32) &&& 31).toUInt32).toInt32))])) _
      refine iremM X9 hx rfl (hb hby at_85) rfl (by decide) ?_
      show Steps p.tables e below (T9.setTop (mkF m 86 #[.val (.long q0), .second, .val (.long q1), .second, .val (.long q2), .second, .val (.int p3), .val (.long (gl q0)), .second, .val (.long (gt q0 q1)), .second, .val (.ref b4), .val (.long q2), .second, .unset, .unset, .unset] [(.int (((p3.toUInt32 >>> ((1 : Int32) &&& 31).toUInt32).toInt32) % (3 : Int32)))])) _
      refine XS.i2l X9.here hx rfl (hb hby at_86) rfl ?_
      show Steps p.tables e below (T9.setTop (mkF m 87 #[.val (.long q0), .second, .val (.long q1), .second, .val (.long q2), .second, .val (.int p3), .val (.long (gl q0)), .second, .val (.long (gt q0 q1)), .second, .val (.ref b4), .val (.long q2), .second, .unset, .unset, .unset] [(.long ((((p3.toUInt32 >>> ((1 : Int32) &&& 31).toUInt32).toInt32) % (3 : Int32)).toInt64))])) _
      refine XS.lconst X9.here hx rfl (hb hby at_87) ?_
      show Steps p.tables e below (T9.setTop (mkF m 88 #[.val (.long q0), .second, .val (.long q1), .second, .val (.long q2), .second, .val (.int p3), .val (.long (gl q0)), .second, .val (.long (gt q0 q1)), .second, .val (.ref b4), .val (.long q2), .second, .unset, .unset, .unset] [(.long (1 : Int64)), (.long ((((p3.toUInt32 >>> ((1 : Int32) &&& 31).toUInt32).toInt32) % (3 : Int32)).toInt64))])) _
      refine XS.lsub X9.here hx rfl (hb hby at_88) rfl ?_
      show Steps p.tables e below (T9.setTop (mkF m 89 #[.val (.long q0), .second, .val (.long q1), .second, .val (.long q2), .second, .val (.int p3), .val (.long (gl q0)), .second, .val (.long (gt q0 q1)), .second, .val (.ref b4), .val (.long q2), .second, .unset, .unset, .unset] [(.long (((((p3.toUInt32 >>> ((1 : Int32) &&& 31).toUInt32).toInt32) % (3 : Int32)).toInt64) - (1 : Int64)))])) _
      refine XS.lstore X9.here hx rfl (hb hby at_89) rfl (l' := #[.val (.long q0), .second, .val (.long q1), .second, .val (.long q2), .second, .val (.int p3), .val (.long (gl q0)), .second, .val (.long (gt q0 q1)), .second, .val (.ref b4), .val (.long q2), .second, .val (.long (((((p3.toUInt32 >>> ((1 : Int32) &&& 31).toUInt32).toInt32) % (3 : Int32)).toInt64) - (1 : Int64))), .second, .unset]) rfl ?_
      show Steps p.tables e below (T9.setTop (mkF m 91 #[.val (.long q0), .second, .val (.long q1), .second, .val (.long q2), .second, .val (.int p3), .val (.long (gl q0)), .second, .val (.long (gt q0 q1)), .second, .val (.ref b4), .val (.long q2), .second, .val (.long (((((p3.toUInt32 >>> ((1 : Int32) &&& 31).toUInt32).toInt32) % (3 : Int32)).toInt64) - (1 : Int64))), .second, .unset] [])) _
      refine XS.lload X9.here hx rfl (hb hby at_91) rfl ?_
      show Steps p.tables e below (T9.setTop (mkF m 93 #[.val (.long q0), .second, .val (.long q1), .second, .val (.long q2), .second, .val (.int p3), .val (.long (gl q0)), .second, .val (.long (gt q0 q1)), .second, .val (.ref b4), .val (.long q2), .second, .val (.long (((((p3.toUInt32 >>> ((1 : Int32) &&& 31).toUInt32).toInt32) % (3 : Int32)).toInt64) - (1 : Int64))), .second, .unset] [(.long (gl q0))])) _
      refine XS.lload X9.here hx rfl (hb hby at_93) rfl ?_
      show Steps p.tables e below (T9.setTop (mkF m 95 #[.val (.long q0), .second, .val (.long q1), .second, .val (.long q2), .second, .val (.int p3), .val (.long (gl q0)), .second, .val (.long (gt q0 q1)), .second, .val (.ref b4), .val (.long q2), .second, .val (.long (((((p3.toUInt32 >>> ((1 : Int32) &&& 31).toUInt32).toInt32) % (3 : Int32)).toInt64) - (1 : Int64))), .second, .unset] [(.long (gt q0 q1)), (.long (gl q0))])) _
      refine XS.lsub X9.here hx rfl (hb hby at_95) rfl ?_
      show Steps p.tables e below (T9.setTop (mkF m 96 #[.val (.long q0), .second, .val (.long q1), .second, .val (.long q2), .second, .val (.int p3), .val (.long (gl q0)), .second, .val (.long (gt q0 q1)), .second, .val (.ref b4), .val (.long q2), .second, .val (.long (((((p3.toUInt32 >>> ((1 : Int32) &&& 31).toUInt32).toInt32) % (3 : Int32)).toInt64) - (1 : Int64))), .second, .unset] [(.long ((gl q0) - (gt q0 q1)))])) _
      refine XS.lload X9.here hx rfl (hb hby at_96) rfl ?_
      show Steps p.tables e below (T9.setTop (mkF m 98 #[.val (.long q0), .second, .val (.long q1), .second, .val (.long q2), .second, .val (.int p3), .val (.long (gl q0)), .second, .val (.long (gt q0 q1)), .second, .val (.ref b4), .val (.long q2), .second, .val (.long (((((p3.toUInt32 >>> ((1 : Int32) &&& 31).toUInt32).toInt32) % (3 : Int32)).toInt64) - (1 : Int64))), .second, .unset] [(.long (((((p3.toUInt32 >>> ((1 : Int32) &&& 31).toUInt32).toInt32) % (3 : Int32)).toInt64) - (1 : Int64))), (.long ((gl q0) - (gt q0 q1)))])) _
      refine XS.ladd X9.here hx rfl (hb hby at_98) rfl ?_
      show Steps p.tables e below (T9.setTop (mkF m 99 #[.val (.long q0), .second, .val (.long q1), .second, .val (.long q2), .second, .val (.int p3), .val (.long (gl q0)), .second, .val (.long (gt q0 q1)), .second, .val (.ref b4), .val (.long q2), .second, .val (.long (((((p3.toUInt32 >>> ((1 : Int32) &&& 31).toUInt32).toInt32) % (3 : Int32)).toInt64) - (1 : Int64))), .second, .unset] [(.long (((gl q0) - (gt q0 q1)) + (((((p3.toUInt32 >>> ((1 : Int32) &&& 31).toUInt32).toInt32) % (3 : Int32)).toInt64) - (1 : Int64))))])) _
      refine XS.lstore X9.here hx rfl (hb hby at_99) rfl (l' := #[.val (.long q0), .second, .val (.long q1), .second, .val (.long q2), .second, .val (.int p3), .val (.long (gl q0)), .second, .val (.long (gt q0 q1)), .second, .val (.ref b4), .val (.long (gb q0 q1 p3)), .second, .val (.long (((((p3.toUInt32 >>> ((1 : Int32) &&& 31).toUInt32).toInt32) % (3 : Int32)).toInt64) - (1 : Int64))), .second, .unset]) rfl ?_
      show Steps p.tables e below (T9.setTop (mkF m 101 #[.val (.long q0), .second, .val (.long q1), .second, .val (.long q2), .second, .val (.int p3), .val (.long (gl q0)), .second, .val (.long (gt q0 q1)), .second, .val (.ref b4), .val (.long (gb q0 q1 p3)), .second, .val (.long (((((p3.toUInt32 >>> ((1 : Int32) &&& 31).toUInt32).toInt32) % (3 : Int32)).toInt64) - (1 : Int64))), .second, .unset] [])) _
      refine XS.lload X9.here hx rfl (hb hby at_101) rfl ?_
      show Steps p.tables e below (T9.setTop (mkF m 103 #[.val (.long q0), .second, .val (.long q1), .second, .val (.long q2), .second, .val (.int p3), .val (.long (gl q0)), .second, .val (.long (gt q0 q1)), .second, .val (.ref b4), .val (.long (gb q0 q1 p3)), .second, .val (.long (((((p3.toUInt32 >>> ((1 : Int32) &&& 31).toUInt32).toInt32) % (3 : Int32)).toInt64) - (1 : Int64))), .second, .unset] [(.long (gb q0 q1 p3))])) _
      refine XS.lconst X9.here hx rfl (hb hby at_103) ?_
      show Steps p.tables e below (T9.setTop (mkF m 104 #[.val (.long q0), .second, .val (.long q1), .second, .val (.long q2), .second, .val (.int p3), .val (.long (gl q0)), .second, .val (.long (gt q0 q1)), .second, .val (.ref b4), .val (.long (gb q0 q1 p3)), .second, .val (.long (((((p3.toUInt32 >>> ((1 : Int32) &&& 31).toUInt32).toInt32) % (3 : Int32)).toInt64) - (1 : Int64))), .second, .unset] [(.long (0 : Int64)), (.long (gb q0 q1 p3))])) _
      refine XS.lcmp X9.here hx rfl (hb hby at_104) rfl ?_
      exact kt
    by_cases hc27 : (gb q0 q1 p3) < (0 : Int64)
    · skip
      obtain ⟨cq28, kq28, q28a, q28b, q28c⟩ := isOf hZ e9 G8
      obtain ⟨_, _, ⟨T28, L28, k28, n28⟩, -, X28, ⟨Lc28, hQ28, l28, y28, z28⟩, st28⟩ := X9.virtualBack hx (y := (⟨"com/example/nwx/nwx/core/MemoryShare", "fits", "(J)Z"⟩ : MethodName)) (z := (⟨"com/example/nwx/nwx/core/MemoryShare", "fits", "(J)Z"⟩ : MethodName)) hown (mvT hZ (hw _ (List.mem_of_getElem? (i := 29) rfl))) (mvT hZ (hw _ (List.mem_of_getElem? (i := 18) rfl))) (notFace_of_selects (args := #[]) (mvT hZ (hw _ (List.mem_of_getElem? (i := 20) rfl)))) (mvT hZ (hw _ (List.mem_of_getElem? (i := 20) rfl))) (mvT hZ (hw _ (List.mem_of_getElem? (i := 19) rfl))) (by decide) (backOf (W := 0) (rm4 l Z a0 hw [] b4 (gb q0 q1 p3) (gl q0) ((0 : Int64) + (gt q0 q1)) T7.heap F7q G7q) hZ (hw _ (List.mem_of_getElem? (i := 21) rfl)) (hw _ (List.mem_of_getElem? (i := 3) rfl)) (by decide) (by decide)) q28a q28c (g := (mkF m 147 #[.val (.long q0), .second, .val (.long q1), .second, .val (.long q2), .second, .val (.int p3), .val (.long (gl q0)), .second, .val (.long (gt q0 q1)), .second, .val (.ref b4), .val (.long (gb q0 q1 p3)), .second, .val (.int (1 : Int32)), .unset, .unset] [(.long (gb q0 q1 p3)), (.ref b4)])) rfl (by rw [hml]; rfl) (Steps.refl _) (argsL := [(.long (gb q0 q1 p3))]) (rest := []) (lenOf pd_0 rfl) rfl (by show 2 * 0 + _ ≤ _; exact Nat.le_of_eq rfl) (hb hby at_147) (fun _ _ => ⟨rfl, e9, (by decide : 1 + 0 ≤ _), (by decide : 2 + 0 ≤ _)⟩)
      dsimp only [Pt.U, Pt.locs, Pt.cells, Pt.slots] at X28 l28 y28 z28 st28 hQ28
      subst l28 y28 z28
      obtain ⟨rfl, rfl, e28⟩ := hQ28
      try rw [List.append_nil] at X28
      have K29 : ∀ t, Steps p.tables e below (T28.setTop (mkF m 160 #[.val (.long q0), .second, .val (.long q1), .second, .val (.long q2), .second, .val (.int p3), .val (.long (gl q0)), .second, .val (.long (gt q0 q1)), .second, .val (.ref b4), .val (.long (gb q0 q1 p3)), .second, .val (.int (1 : Int32)), .unset, .unset] [(.int (1 : Int32))])) t → Steps p.tables e below (s₁.setTop (mkF m 0 #[.val (.long q0), .second, .val (.long q1), .second, .val (.long q2), .second, .val (.int p3), .unset, .unset, .unset, .unset, .unset, .unset, .unset, .unset, .unset, .unset] [])) t := by
        intro t kt
        refine K26 _ ?_
        show Steps p.tables e below (T9.setTop (mkF m 105 #[.val (.long q0), .second, .val (.long q1), .second, .val (.long q2), .second, .val (.int p3), .val (.long (gl q0)), .second, .val (.long (gt q0 q1)), .second, .val (.ref b4), .val (.long (gb q0 q1 p3)), .second, .val (.long (((((p3.toUInt32 >>> ((1 : Int32) &&& 31).toUInt32).toInt32) % (3 : Int32)).toInt64) - (1 : Int64))), .second, .unset] [(.int (lcmpW (gb q0 q1 p3) (0 : Int64)))])) _
        refine XS.ifNo X9.here hx rfl (hb hby at_105) rfl ((if0 _ _).trans (tlt ((lw_lt _ _).mpr hc27)).2.1) ?_
        show Steps p.tables e below (T9.setTop (mkF m 108 #[.val (.long q0), .second, .val (.long q1), .second, .val (.long q2), .second, .val (.int p3), .val (.long (gl q0)), .second, .val (.long (gt q0 q1)), .second, .val (.ref b4), .val (.long (gb q0 q1 p3)), .second, .val (.long (((((p3.toUInt32 >>> ((1 : Int32) &&& 31).toUInt32).toInt32) % (3 : Int32)).toInt64) - (1 : Int64))), .second, .unset] [])) _
        refine XS.iconst X9.here hx rfl (hb hby at_108) ?_
        show Steps p.tables e below (T9.setTop (mkF m 109 #[.val (.long q0), .second, .val (.long q1), .second, .val (.long q2), .second, .val (.int p3), .val (.long (gl q0)), .second, .val (.long (gt q0 q1)), .second, .val (.ref b4), .val (.long (gb q0 q1 p3)), .second, .val (.long (((((p3.toUInt32 >>> ((1 : Int32) &&& 31).toUInt32).toInt32) % (3 : Int32)).toInt64) - (1 : Int64))), .second, .unset] [(.int (1 : Int32))])) _
        refine XS.istore X9.here hx rfl (hb hby at_109) rfl (l' := #[.val (.long q0), .second, .val (.long q1), .second, .val (.long q2), .second, .val (.int p3), .val (.long (gl q0)), .second, .val (.long (gt q0 q1)), .second, .val (.ref b4), .val (.long (gb q0 q1 p3)), .second, .val (.int (1 : Int32)), .unset, .unset]) rfl ?_
        show Steps p.tables e below (T9.setTop (mkF m 111 #[.val (.long q0), .second, .val (.long q1), .second, .val (.long q2), .second, .val (.int p3), .val (.long (gl q0)), .second, .val (.long (gt q0 q1)), .second, .val (.ref b4), .val (.long (gb q0 q1 p3)), .second, .val (.int (1 : Int32)), .unset, .unset] [])) _
        refine XS.goto X9.here hx rfl (pc0 := 111) (pc' := 143) rfl (hb hby at_111) (by decide) (by decide) ?_
        show Steps p.tables e below (T9.setTop (mkF m 143 #[.val (.long q0), .second, .val (.long q1), .second, .val (.long q2), .second, .val (.int p3), .val (.long (gl q0)), .second, .val (.long (gt q0 q1)), .second, .val (.ref b4), .val (.long (gb q0 q1 p3)), .second, .val (.int (1 : Int32)), .unset, .unset] [])) _
        refine XS.aload X9.here hx rfl (hb hby at_143) rfl rfl ?_
        show Steps p.tables e below (T9.setTop (mkF m 145 #[.val (.long q0), .second, .val (.long q1), .second, .val (.long q2), .second, .val (.int p3), .val (.long (gl q0)), .second, .val (.long (gt q0 q1)), .second, .val (.ref b4), .val (.long (gb q0 q1 p3)), .second, .val (.int (1 : Int32)), .unset, .unset] [(.ref b4)])) _
        refine XS.lload X9.here hx rfl (hb hby at_145) rfl ?_
        show Steps p.tables e below (T9.setTop (mkF m 147 #[.val (.long q0), .second, .val (.long q1), .second, .val (.long q2), .second, .val (.int p3), .val (.long (gl q0)), .second, .val (.long (gt q0 q1)), .second, .val (.ref b4), .val (.long (gb q0 q1 p3)), .second, .val (.int (1 : Int32)), .unset, .unset] [(.long (gb q0 q1 p3)), (.ref b4)])) _
        refine st28.trans ?_
        show Steps p.tables e below (T28.setTop (mkF m 150 #[.val (.long q0), .second, .val (.long q1), .second, .val (.long q2), .second, .val (.int p3), .val (.long (gl q0)), .second, .val (.long (gt q0 q1)), .second, .val (.ref b4), .val (.long (gb q0 q1 p3)), .second, .val (.int (1 : Int32)), .unset, .unset] [(.int (f4 (gb q0 q1 p3) (gl q0) ((0 : Int64) + (gt q0 q1))))])) _
        refine XS.iload X28.here hx rfl (hb hby at_150) rfl ?_
        show Steps p.tables e below (T28.setTop (mkF m 152 #[.val (.long q0), .second, .val (.long q1), .second, .val (.long q2), .second, .val (.int p3), .val (.long (gl q0)), .second, .val (.long (gt q0 q1)), .second, .val (.ref b4), .val (.long (gb q0 q1 p3)), .second, .val (.int (1 : Int32)), .unset, .unset] [(.int (1 : Int32)), (.int (f4 (gb q0 q1 p3) (gl q0) ((0 : Int64) + (gt q0 q1))))])) _
        refine XS.icmpNo X28.here hx rfl (hb hby at_152) rfl (teq (show (f4 (gb q0 q1 p3) (gl q0) ((0 : Int64) + (gt q0 q1))) = (1 : Int32) from (own_neg q0 q1 (gb q0 q1 p3) hc27))).2 ?_
        show Steps p.tables e below (T28.setTop (mkF m 155 #[.val (.long q0), .second, .val (.long q1), .second, .val (.long q2), .second, .val (.int p3), .val (.long (gl q0)), .second, .val (.long (gt q0 q1)), .second, .val (.ref b4), .val (.long (gb q0 q1 p3)), .second, .val (.int (1 : Int32)), .unset, .unset] [])) _
        refine XS.iconst X28.here hx rfl (hb hby at_155) ?_
        show Steps p.tables e below (T28.setTop (mkF m 156 #[.val (.long q0), .second, .val (.long q1), .second, .val (.long q2), .second, .val (.int p3), .val (.long (gl q0)), .second, .val (.long (gt q0 q1)), .second, .val (.ref b4), .val (.long (gb q0 q1 p3)), .second, .val (.int (1 : Int32)), .unset, .unset] [(.int (1 : Int32))])) _
        refine XS.goto X28.here hx rfl (pc0 := 156) (pc' := 160) rfl (hb hby at_156) (by decide) (by decide) ?_
        exact kt
      obtain ⟨fs, hr, hrun, hended, hW, hsame⟩ := X28.leave (v := some (.int (1 : Int32))) (fun h => by rw [Bd.returns] at h; cases h)
      refine ⟨_, _, pre0 _ (K29 _ ?_), hrun, hended, _, _, rfl, ?_, ⟨_, rfl⟩, hW, hsame.mono (by decide) (by decide)⟩
      · show Steps p.tables e below (T28.setTop (mkF m 160 #[.val (.long q0), .second, .val (.long q1), .second, .val (.long q2), .second, .val (.int p3), .val (.long (gl q0)), .second, .val (.long (gt q0 q1)), .second, .val (.ref b4), .val (.long (gb q0 q1 p3)), .second, .val (.int (1 : Int32)), .unset, .unset] [(.int (1 : Int32))])) _
        exact retN X28 hx (t := .boolean) Bd.returns (by simp) (hb hby at_160) hr
      · show Q0 Z q0 q1 q2 p3  h0 n0 _ T28.heap _
        rw [e28]
        exact ⟨rfl, N7⟩
    · skip
      have K30 : ∀ t, Steps p.tables e below (T9.setTop (mkF m 125 #[.val (.long q0), .second, .val (.long q1), .second, .val (.long q2), .second, .val (.int p3), .val (.long (gl q0)), .second, .val (.long (gt q0 q1)), .second, .val (.ref b4), .val (.long (gb q0 q1 p3)), .second, .unset, .val (.long ((gt q0 q1) + (gb q0 q1 p3))), .second] [(.int (lcmpW ((gt q0 q1) + (gb q0 q1 p3)) (0 : Int64)))])) t → Steps p.tables e below (s₁.setTop (mkF m 0 #[.val (.long q0), .second, .val (.long q1), .second, .val (.long q2), .second, .val (.int p3), .unset, .unset, .unset, .unset, .unset, .unset, .unset, .unset, .unset, .unset] [])) t := by
        intro t kt
        refine K26 _ ?_
        show Steps p.tables e below (T9.setTop (mkF m 105 #[.val (.long q0), .second, .val (.long q1), .second, .val (.long q2), .second, .val (.int p3), .val (.long (gl q0)), .second, .val (.long (gt q0 q1)), .second, .val (.ref b4), .val (.long (gb q0 q1 p3)), .second, .val (.long (((((p3.toUInt32 >>> ((1 : Int32) &&& 31).toUInt32).toInt32) % (3 : Int32)).toInt64) - (1 : Int64))), .second, .unset] [(.int (lcmpW (gb q0 q1 p3) (0 : Int64)))])) _
        refine XS.ifYes X9.here hx rfl (pc0 := 105) (pc' := 114) rfl (hb hby at_105) rfl ((if0 _ _).trans (flt (mt (lw_lt _ _).mp hc27)).2.1) (by decide) (by decide) ?_
        show Steps p.tables e below (T9.setTop (mkF m 114 #[.val (.long q0), .second, .val (.long q1), .second, .val (.long q2), .second, .val (.int p3), .val (.long (gl q0)), .second, .val (.long (gt q0 q1)), .second, .val (.ref b4), .val (.long (gb q0 q1 p3)), .second, .val (.long (((((p3.toUInt32 >>> ((1 : Int32) &&& 31).toUInt32).toInt32) % (3 : Int32)).toInt64) - (1 : Int64))), .second, .unset] [])) _
        refine XS.lload X9.here hx rfl (hb hby at_114) rfl ?_
        show Steps p.tables e below (T9.setTop (mkF m 116 #[.val (.long q0), .second, .val (.long q1), .second, .val (.long q2), .second, .val (.int p3), .val (.long (gl q0)), .second, .val (.long (gt q0 q1)), .second, .val (.ref b4), .val (.long (gb q0 q1 p3)), .second, .val (.long (((((p3.toUInt32 >>> ((1 : Int32) &&& 31).toUInt32).toInt32) % (3 : Int32)).toInt64) - (1 : Int64))), .second, .unset] [(.long (gt q0 q1))])) _
        refine XS.lload X9.here hx rfl (hb hby at_116) rfl ?_
        show Steps p.tables e below (T9.setTop (mkF m 118 #[.val (.long q0), .second, .val (.long q1), .second, .val (.long q2), .second, .val (.int p3), .val (.long (gl q0)), .second, .val (.long (gt q0 q1)), .second, .val (.ref b4), .val (.long (gb q0 q1 p3)), .second, .val (.long (((((p3.toUInt32 >>> ((1 : Int32) &&& 31).toUInt32).toInt32) % (3 : Int32)).toInt64) - (1 : Int64))), .second, .unset] [(.long (gb q0 q1 p3)), (.long (gt q0 q1))])) _
        refine XS.ladd X9.here hx rfl (hb hby at_118) rfl ?_
        show Steps p.tables e below (T9.setTop (mkF m 119 #[.val (.long q0), .second, .val (.long q1), .second, .val (.long q2), .second, .val (.int p3), .val (.long (gl q0)), .second, .val (.long (gt q0 q1)), .second, .val (.ref b4), .val (.long (gb q0 q1 p3)), .second, .val (.long (((((p3.toUInt32 >>> ((1 : Int32) &&& 31).toUInt32).toInt32) % (3 : Int32)).toInt64) - (1 : Int64))), .second, .unset] [(.long ((gt q0 q1) + (gb q0 q1 p3)))])) _
        refine XS.lstore X9.here hx rfl (hb hby at_119) rfl (l' := #[.val (.long q0), .second, .val (.long q1), .second, .val (.long q2), .second, .val (.int p3), .val (.long (gl q0)), .second, .val (.long (gt q0 q1)), .second, .val (.ref b4), .val (.long (gb q0 q1 p3)), .second, .unset, .val (.long ((gt q0 q1) + (gb q0 q1 p3))), .second]) rfl ?_
        show Steps p.tables e below (T9.setTop (mkF m 121 #[.val (.long q0), .second, .val (.long q1), .second, .val (.long q2), .second, .val (.int p3), .val (.long (gl q0)), .second, .val (.long (gt q0 q1)), .second, .val (.ref b4), .val (.long (gb q0 q1 p3)), .second, .unset, .val (.long ((gt q0 q1) + (gb q0 q1 p3))), .second] [])) _
        refine XS.lload X9.here hx rfl (hb hby at_121) rfl ?_
        show Steps p.tables e below (T9.setTop (mkF m 123 #[.val (.long q0), .second, .val (.long q1), .second, .val (.long q2), .second, .val (.int p3), .val (.long (gl q0)), .second, .val (.long (gt q0 q1)), .second, .val (.ref b4), .val (.long (gb q0 q1 p3)), .second, .unset, .val (.long ((gt q0 q1) + (gb q0 q1 p3))), .second] [(.long ((gt q0 q1) + (gb q0 q1 p3)))])) _
        refine XS.lconst X9.here hx rfl (hb hby at_123) ?_
        show Steps p.tables e below (T9.setTop (mkF m 124 #[.val (.long q0), .second, .val (.long q1), .second, .val (.long q2), .second, .val (.int p3), .val (.long (gl q0)), .second, .val (.long (gt q0 q1)), .second, .val (.ref b4), .val (.long (gb q0 q1 p3)), .second, .unset, .val (.long ((gt q0 q1) + (gb q0 q1 p3))), .second] [(.long (0 : Int64)), (.long ((gt q0 q1) + (gb q0 q1 p3)))])) _
        refine XS.lcmp X9.here hx rfl (hb hby at_124) rfl ?_
        exact kt
      by_cases hc31 : ((gt q0 q1) + (gb q0 q1 p3)) < (0 : Int64)
      · skip
        obtain ⟨cq32, kq32, q32a, q32b, q32c⟩ := isOf hZ e9 G8
        obtain ⟨_, _, ⟨T32, L32, k32, n32⟩, -, X32, ⟨Lc32, hQ32, l32, y32, z32⟩, st32⟩ := X9.virtualBack hx (y := (⟨"com/example/nwx/nwx/core/MemoryShare", "fits", "(J)Z"⟩ : MethodName)) (z := (⟨"com/example/nwx/nwx/core/MemoryShare", "fits", "(J)Z"⟩ : MethodName)) hown (mvT hZ (hw _ (List.mem_of_getElem? (i := 29) rfl))) (mvT hZ (hw _ (List.mem_of_getElem? (i := 18) rfl))) (notFace_of_selects (args := #[]) (mvT hZ (hw _ (List.mem_of_getElem? (i := 20) rfl)))) (mvT hZ (hw _ (List.mem_of_getElem? (i := 20) rfl))) (mvT hZ (hw _ (List.mem_of_getElem? (i := 19) rfl))) (by decide) (backOf (W := 0) (rm4 l Z a0 hw [] b4 (gb q0 q1 p3) (gl q0) ((0 : Int64) + (gt q0 q1)) T7.heap F7q G7q) hZ (hw _ (List.mem_of_getElem? (i := 21) rfl)) (hw _ (List.mem_of_getElem? (i := 3) rfl)) (by decide) (by decide)) q32a q32c (g := (mkF m 147 #[.val (.long q0), .second, .val (.long q1), .second, .val (.long q2), .second, .val (.int p3), .val (.long (gl q0)), .second, .val (.long (gt q0 q1)), .second, .val (.ref b4), .val (.long (gb q0 q1 p3)), .second, .val (.int (0 : Int32)), .val (.long ((gt q0 q1) + (gb q0 q1 p3))), .second] [(.long (gb q0 q1 p3)), (.ref b4)])) rfl (by rw [hml]; rfl) (Steps.refl _) (argsL := [(.long (gb q0 q1 p3))]) (rest := []) (lenOf pd_0 rfl) rfl (by show 2 * 0 + _ ≤ _; exact Nat.le_of_eq rfl) (hb hby at_147) (fun _ _ => ⟨rfl, e9, (by decide : 1 + 0 ≤ _), (by decide : 2 + 0 ≤ _)⟩)
        dsimp only [Pt.U, Pt.locs, Pt.cells, Pt.slots] at X32 l32 y32 z32 st32 hQ32
        subst l32 y32 z32
        obtain ⟨rfl, rfl, e32⟩ := hQ32
        try rw [List.append_nil] at X32
        have K33 : ∀ t, Steps p.tables e below (T32.setTop (mkF m 160 #[.val (.long q0), .second, .val (.long q1), .second, .val (.long q2), .second, .val (.int p3), .val (.long (gl q0)), .second, .val (.long (gt q0 q1)), .second, .val (.ref b4), .val (.long (gb q0 q1 p3)), .second, .val (.int (0 : Int32)), .val (.long ((gt q0 q1) + (gb q0 q1 p3))), .second] [(.int (1 : Int32))])) t → Steps p.tables e below (s₁.setTop (mkF m 0 #[.val (.long q0), .second, .val (.long q1), .second, .val (.long q2), .second, .val (.int p3), .unset, .unset, .unset, .unset, .unset, .unset, .unset, .unset, .unset, .unset] [])) t := by
          intro t kt
          refine K30 _ ?_
          show Steps p.tables e below (T9.setTop (mkF m 125 #[.val (.long q0), .second, .val (.long q1), .second, .val (.long q2), .second, .val (.int p3), .val (.long (gl q0)), .second, .val (.long (gt q0 q1)), .second, .val (.ref b4), .val (.long (gb q0 q1 p3)), .second, .unset, .val (.long ((gt q0 q1) + (gb q0 q1 p3))), .second] [(.int (lcmpW ((gt q0 q1) + (gb q0 q1 p3)) (0 : Int64)))])) _
          refine XS.ifYes X9.here hx rfl (pc0 := 125) (pc' := 140) rfl (hb hby at_125) rfl ((if0 _ _).trans (tlt ((lw_lt _ _).mpr hc31)).1) (by decide) (by decide) ?_
          show Steps p.tables e below (T9.setTop (mkF m 140 #[.val (.long q0), .second, .val (.long q1), .second, .val (.long q2), .second, .val (.int p3), .val (.long (gl q0)), .second, .val (.long (gt q0 q1)), .second, .val (.ref b4), .val (.long (gb q0 q1 p3)), .second, .unset, .val (.long ((gt q0 q1) + (gb q0 q1 p3))), .second] [])) _
          refine XS.iconst X9.here hx rfl (hb hby at_140) ?_
          show Steps p.tables e below (T9.setTop (mkF m 141 #[.val (.long q0), .second, .val (.long q1), .second, .val (.long q2), .second, .val (.int p3), .val (.long (gl q0)), .second, .val (.long (gt q0 q1)), .second, .val (.ref b4), .val (.long (gb q0 q1 p3)), .second, .unset, .val (.long ((gt q0 q1) + (gb q0 q1 p3))), .second] [(.int (0 : Int32))])) _
          refine XS.istore X9.here hx rfl (hb hby at_141) rfl (l' := #[.val (.long q0), .second, .val (.long q1), .second, .val (.long q2), .second, .val (.int p3), .val (.long (gl q0)), .second, .val (.long (gt q0 q1)), .second, .val (.ref b4), .val (.long (gb q0 q1 p3)), .second, .val (.int (0 : Int32)), .val (.long ((gt q0 q1) + (gb q0 q1 p3))), .second]) rfl ?_
          show Steps p.tables e below (T9.setTop (mkF m 143 #[.val (.long q0), .second, .val (.long q1), .second, .val (.long q2), .second, .val (.int p3), .val (.long (gl q0)), .second, .val (.long (gt q0 q1)), .second, .val (.ref b4), .val (.long (gb q0 q1 p3)), .second, .val (.int (0 : Int32)), .val (.long ((gt q0 q1) + (gb q0 q1 p3))), .second] [])) _
          refine XS.aload X9.here hx rfl (hb hby at_143) rfl rfl ?_
          show Steps p.tables e below (T9.setTop (mkF m 145 #[.val (.long q0), .second, .val (.long q1), .second, .val (.long q2), .second, .val (.int p3), .val (.long (gl q0)), .second, .val (.long (gt q0 q1)), .second, .val (.ref b4), .val (.long (gb q0 q1 p3)), .second, .val (.int (0 : Int32)), .val (.long ((gt q0 q1) + (gb q0 q1 p3))), .second] [(.ref b4)])) _
          refine XS.lload X9.here hx rfl (hb hby at_145) rfl ?_
          show Steps p.tables e below (T9.setTop (mkF m 147 #[.val (.long q0), .second, .val (.long q1), .second, .val (.long q2), .second, .val (.int p3), .val (.long (gl q0)), .second, .val (.long (gt q0 q1)), .second, .val (.ref b4), .val (.long (gb q0 q1 p3)), .second, .val (.int (0 : Int32)), .val (.long ((gt q0 q1) + (gb q0 q1 p3))), .second] [(.long (gb q0 q1 p3)), (.ref b4)])) _
          refine st32.trans ?_
          show Steps p.tables e below (T32.setTop (mkF m 150 #[.val (.long q0), .second, .val (.long q1), .second, .val (.long q2), .second, .val (.int p3), .val (.long (gl q0)), .second, .val (.long (gt q0 q1)), .second, .val (.ref b4), .val (.long (gb q0 q1 p3)), .second, .val (.int (0 : Int32)), .val (.long ((gt q0 q1) + (gb q0 q1 p3))), .second] [(.int (f4 (gb q0 q1 p3) (gl q0) ((0 : Int64) + (gt q0 q1))))])) _
          refine XS.iload X32.here hx rfl (hb hby at_150) rfl ?_
          show Steps p.tables e below (T32.setTop (mkF m 152 #[.val (.long q0), .second, .val (.long q1), .second, .val (.long q2), .second, .val (.int p3), .val (.long (gl q0)), .second, .val (.long (gt q0 q1)), .second, .val (.ref b4), .val (.long (gb q0 q1 p3)), .second, .val (.int (0 : Int32)), .val (.long ((gt q0 q1) + (gb q0 q1 p3))), .second] [(.int (0 : Int32)), (.int (f4 (gb q0 q1 p3) (gl q0) ((0 : Int64) + (gt q0 q1))))])) _
          refine XS.icmpNo X32.here hx rfl (hb hby at_152) rfl (teq (show (f4 (gb q0 q1 p3) (gl q0) ((0 : Int64) + (gt q0 q1))) = (0 : Int32) from (own_over q0 q1 (gb q0 q1 p3) hc27 hc31))).2 ?_
          show Steps p.tables e below (T32.setTop (mkF m 155 #[.val (.long q0), .second, .val (.long q1), .second, .val (.long q2), .second, .val (.int p3), .val (.long (gl q0)), .second, .val (.long (gt q0 q1)), .second, .val (.ref b4), .val (.long (gb q0 q1 p3)), .second, .val (.int (0 : Int32)), .val (.long ((gt q0 q1) + (gb q0 q1 p3))), .second] [])) _
          refine XS.iconst X32.here hx rfl (hb hby at_155) ?_
          show Steps p.tables e below (T32.setTop (mkF m 156 #[.val (.long q0), .second, .val (.long q1), .second, .val (.long q2), .second, .val (.int p3), .val (.long (gl q0)), .second, .val (.long (gt q0 q1)), .second, .val (.ref b4), .val (.long (gb q0 q1 p3)), .second, .val (.int (0 : Int32)), .val (.long ((gt q0 q1) + (gb q0 q1 p3))), .second] [(.int (1 : Int32))])) _
          refine XS.goto X32.here hx rfl (pc0 := 156) (pc' := 160) rfl (hb hby at_156) (by decide) (by decide) ?_
          exact kt
        obtain ⟨fs, hr, hrun, hended, hW, hsame⟩ := X32.leave (v := some (.int (1 : Int32))) (fun h => by rw [Bd.returns] at h; cases h)
        refine ⟨_, _, pre0 _ (K33 _ ?_), hrun, hended, _, _, rfl, ?_, ⟨_, rfl⟩, hW, hsame.mono (by decide) (by decide)⟩
        · show Steps p.tables e below (T32.setTop (mkF m 160 #[.val (.long q0), .second, .val (.long q1), .second, .val (.long q2), .second, .val (.int p3), .val (.long (gl q0)), .second, .val (.long (gt q0 q1)), .second, .val (.ref b4), .val (.long (gb q0 q1 p3)), .second, .val (.int (0 : Int32)), .val (.long ((gt q0 q1) + (gb q0 q1 p3))), .second] [(.int (1 : Int32))])) _
          exact retN X32 hx (t := .boolean) Bd.returns (by simp) (hb hby at_160) hr
        · show Q0 Z q0 q1 q2 p3  h0 n0 _ T32.heap _
          rw [e32]
          exact ⟨rfl, N7⟩
      · skip
        have K34 : ∀ t, Steps p.tables e below (T9.setTop (mkF m 133 #[.val (.long q0), .second, .val (.long q1), .second, .val (.long q2), .second, .val (.int p3), .val (.long (gl q0)), .second, .val (.long (gt q0 q1)), .second, .val (.ref b4), .val (.long (gb q0 q1 p3)), .second, .unset, .val (.long ((gt q0 q1) + (gb q0 q1 p3))), .second] [(.int (lcmpW ((gt q0 q1) + (gb q0 q1 p3)) (gl q0)))])) t → Steps p.tables e below (s₁.setTop (mkF m 0 #[.val (.long q0), .second, .val (.long q1), .second, .val (.long q2), .second, .val (.int p3), .unset, .unset, .unset, .unset, .unset, .unset, .unset, .unset, .unset, .unset] [])) t := by
          intro t kt
          refine K30 _ ?_
          show Steps p.tables e below (T9.setTop (mkF m 125 #[.val (.long q0), .second, .val (.long q1), .second, .val (.long q2), .second, .val (.int p3), .val (.long (gl q0)), .second, .val (.long (gt q0 q1)), .second, .val (.ref b4), .val (.long (gb q0 q1 p3)), .second, .unset, .val (.long ((gt q0 q1) + (gb q0 q1 p3))), .second] [(.int (lcmpW ((gt q0 q1) + (gb q0 q1 p3)) (0 : Int64)))])) _
          refine XS.ifNo X9.here hx rfl (hb hby at_125) rfl ((if0 _ _).trans (flt (mt (lw_lt _ _).mp hc31)).1) ?_
          show Steps p.tables e below (T9.setTop (mkF m 128 #[.val (.long q0), .second, .val (.long q1), .second, .val (.long q2), .second, .val (.int p3), .val (.long (gl q0)), .second, .val (.long (gt q0 q1)), .second, .val (.ref b4), .val (.long (gb q0 q1 p3)), .second, .unset, .val (.long ((gt q0 q1) + (gb q0 q1 p3))), .second] [])) _
          refine XS.lload X9.here hx rfl (hb hby at_128) rfl ?_
          show Steps p.tables e below (T9.setTop (mkF m 130 #[.val (.long q0), .second, .val (.long q1), .second, .val (.long q2), .second, .val (.int p3), .val (.long (gl q0)), .second, .val (.long (gt q0 q1)), .second, .val (.ref b4), .val (.long (gb q0 q1 p3)), .second, .unset, .val (.long ((gt q0 q1) + (gb q0 q1 p3))), .second] [(.long ((gt q0 q1) + (gb q0 q1 p3)))])) _
          refine XS.lload X9.here hx rfl (hb hby at_130) rfl ?_
          show Steps p.tables e below (T9.setTop (mkF m 132 #[.val (.long q0), .second, .val (.long q1), .second, .val (.long q2), .second, .val (.int p3), .val (.long (gl q0)), .second, .val (.long (gt q0 q1)), .second, .val (.ref b4), .val (.long (gb q0 q1 p3)), .second, .unset, .val (.long ((gt q0 q1) + (gb q0 q1 p3))), .second] [(.long (gl q0)), (.long ((gt q0 q1) + (gb q0 q1 p3)))])) _
          refine XS.lcmp X9.here hx rfl (hb hby at_132) rfl ?_
          exact kt
        by_cases hc35 : (gl q0) < ((gt q0 q1) + (gb q0 q1 p3))
        · skip
          obtain ⟨cq36, kq36, q36a, q36b, q36c⟩ := isOf hZ e9 G8
          obtain ⟨_, _, ⟨T36, L36, k36, n36⟩, -, X36, ⟨Lc36, hQ36, l36, y36, z36⟩, st36⟩ := X9.virtualBack hx (y := (⟨"com/example/nwx/nwx/core/MemoryShare", "fits", "(J)Z"⟩ : MethodName)) (z := (⟨"com/example/nwx/nwx/core/MemoryShare", "fits", "(J)Z"⟩ : MethodName)) hown (mvT hZ (hw _ (List.mem_of_getElem? (i := 29) rfl))) (mvT hZ (hw _ (List.mem_of_getElem? (i := 18) rfl))) (notFace_of_selects (args := #[]) (mvT hZ (hw _ (List.mem_of_getElem? (i := 20) rfl)))) (mvT hZ (hw _ (List.mem_of_getElem? (i := 20) rfl))) (mvT hZ (hw _ (List.mem_of_getElem? (i := 19) rfl))) (by decide) (backOf (W := 0) (rm4 l Z a0 hw [] b4 (gb q0 q1 p3) (gl q0) ((0 : Int64) + (gt q0 q1)) T7.heap F7q G7q) hZ (hw _ (List.mem_of_getElem? (i := 21) rfl)) (hw _ (List.mem_of_getElem? (i := 3) rfl)) (by decide) (by decide)) q36a q36c (g := (mkF m 147 #[.val (.long q0), .second, .val (.long q1), .second, .val (.long q2), .second, .val (.int p3), .val (.long (gl q0)), .second, .val (.long (gt q0 q1)), .second, .val (.ref b4), .val (.long (gb q0 q1 p3)), .second, .val (.int (0 : Int32)), .val (.long ((gt q0 q1) + (gb q0 q1 p3))), .second] [(.long (gb q0 q1 p3)), (.ref b4)])) rfl (by rw [hml]; rfl) (Steps.refl _) (argsL := [(.long (gb q0 q1 p3))]) (rest := []) (lenOf pd_0 rfl) rfl (by show 2 * 0 + _ ≤ _; exact Nat.le_of_eq rfl) (hb hby at_147) (fun _ _ => ⟨rfl, e9, (by decide : 1 + 0 ≤ _), (by decide : 2 + 0 ≤ _)⟩)
          dsimp only [Pt.U, Pt.locs, Pt.cells, Pt.slots] at X36 l36 y36 z36 st36 hQ36
          subst l36 y36 z36
          obtain ⟨rfl, rfl, e36⟩ := hQ36
          try rw [List.append_nil] at X36
          have K37 : ∀ t, Steps p.tables e below (T36.setTop (mkF m 160 #[.val (.long q0), .second, .val (.long q1), .second, .val (.long q2), .second, .val (.int p3), .val (.long (gl q0)), .second, .val (.long (gt q0 q1)), .second, .val (.ref b4), .val (.long (gb q0 q1 p3)), .second, .val (.int (0 : Int32)), .val (.long ((gt q0 q1) + (gb q0 q1 p3))), .second] [(.int (1 : Int32))])) t → Steps p.tables e below (s₁.setTop (mkF m 0 #[.val (.long q0), .second, .val (.long q1), .second, .val (.long q2), .second, .val (.int p3), .unset, .unset, .unset, .unset, .unset, .unset, .unset, .unset, .unset, .unset] [])) t := by
            intro t kt
            refine K34 _ ?_
            show Steps p.tables e below (T9.setTop (mkF m 133 #[.val (.long q0), .second, .val (.long q1), .second, .val (.long q2), .second, .val (.int p3), .val (.long (gl q0)), .second, .val (.long (gt q0 q1)), .second, .val (.ref b4), .val (.long (gb q0 q1 p3)), .second, .unset, .val (.long ((gt q0 q1) + (gb q0 q1 p3))), .second] [(.int (lcmpW ((gt q0 q1) + (gb q0 q1 p3)) (gl q0)))])) _
            refine XS.ifYes X9.here hx rfl (pc0 := 133) (pc' := 140) rfl (hb hby at_133) rfl ((if0 _ _).trans (tlt ((lw_gt _ _).mpr hc35)).2.2.1) (by decide) (by decide) ?_
            show Steps p.tables e below (T9.setTop (mkF m 140 #[.val (.long q0), .second, .val (.long q1), .second, .val (.long q2), .second, .val (.int p3), .val (.long (gl q0)), .second, .val (.long (gt q0 q1)), .second, .val (.ref b4), .val (.long (gb q0 q1 p3)), .second, .unset, .val (.long ((gt q0 q1) + (gb q0 q1 p3))), .second] [])) _
            refine XS.iconst X9.here hx rfl (hb hby at_140) ?_
            show Steps p.tables e below (T9.setTop (mkF m 141 #[.val (.long q0), .second, .val (.long q1), .second, .val (.long q2), .second, .val (.int p3), .val (.long (gl q0)), .second, .val (.long (gt q0 q1)), .second, .val (.ref b4), .val (.long (gb q0 q1 p3)), .second, .unset, .val (.long ((gt q0 q1) + (gb q0 q1 p3))), .second] [(.int (0 : Int32))])) _
            refine XS.istore X9.here hx rfl (hb hby at_141) rfl (l' := #[.val (.long q0), .second, .val (.long q1), .second, .val (.long q2), .second, .val (.int p3), .val (.long (gl q0)), .second, .val (.long (gt q0 q1)), .second, .val (.ref b4), .val (.long (gb q0 q1 p3)), .second, .val (.int (0 : Int32)), .val (.long ((gt q0 q1) + (gb q0 q1 p3))), .second]) rfl ?_
            show Steps p.tables e below (T9.setTop (mkF m 143 #[.val (.long q0), .second, .val (.long q1), .second, .val (.long q2), .second, .val (.int p3), .val (.long (gl q0)), .second, .val (.long (gt q0 q1)), .second, .val (.ref b4), .val (.long (gb q0 q1 p3)), .second, .val (.int (0 : Int32)), .val (.long ((gt q0 q1) + (gb q0 q1 p3))), .second] [])) _
            refine XS.aload X9.here hx rfl (hb hby at_143) rfl rfl ?_
            show Steps p.tables e below (T9.setTop (mkF m 145 #[.val (.long q0), .second, .val (.long q1), .second, .val (.long q2), .second, .val (.int p3), .val (.long (gl q0)), .second, .val (.long (gt q0 q1)), .second, .val (.ref b4), .val (.long (gb q0 q1 p3)), .second, .val (.int (0 : Int32)), .val (.long ((gt q0 q1) + (gb q0 q1 p3))), .second] [(.ref b4)])) _
            refine XS.lload X9.here hx rfl (hb hby at_145) rfl ?_
            show Steps p.tables e below (T9.setTop (mkF m 147 #[.val (.long q0), .second, .val (.long q1), .second, .val (.long q2), .second, .val (.int p3), .val (.long (gl q0)), .second, .val (.long (gt q0 q1)), .second, .val (.ref b4), .val (.long (gb q0 q1 p3)), .second, .val (.int (0 : Int32)), .val (.long ((gt q0 q1) + (gb q0 q1 p3))), .second] [(.long (gb q0 q1 p3)), (.ref b4)])) _
            refine st36.trans ?_
            show Steps p.tables e below (T36.setTop (mkF m 150 #[.val (.long q0), .second, .val (.long q1), .second, .val (.long q2), .second, .val (.int p3), .val (.long (gl q0)), .second, .val (.long (gt q0 q1)), .second, .val (.ref b4), .val (.long (gb q0 q1 p3)), .second, .val (.int (0 : Int32)), .val (.long ((gt q0 q1) + (gb q0 q1 p3))), .second] [(.int (f4 (gb q0 q1 p3) (gl q0) ((0 : Int64) + (gt q0 q1))))])) _
            refine XS.iload X36.here hx rfl (hb hby at_150) rfl ?_
            show Steps p.tables e below (T36.setTop (mkF m 152 #[.val (.long q0), .second, .val (.long q1), .second, .val (.long q2), .second, .val (.int p3), .val (.long (gl q0)), .second, .val (.long (gt q0 q1)), .second, .val (.ref b4), .val (.long (gb q0 q1 p3)), .second, .val (.int (0 : Int32)), .val (.long ((gt q0 q1) + (gb q0 q1 p3))), .second] [(.int (0 : Int32)), (.int (f4 (gb q0 q1 p3) (gl q0) ((0 : Int64) + (gt q0 q1))))])) _
            refine XS.icmpNo X36.here hx rfl (hb hby at_152) rfl (teq (show (f4 (gb q0 q1 p3) (gl q0) ((0 : Int64) + (gt q0 q1))) = (0 : Int32) from (own_big q0 q1 (gb q0 q1 p3) hc27 hc31 hc35))).2 ?_
            show Steps p.tables e below (T36.setTop (mkF m 155 #[.val (.long q0), .second, .val (.long q1), .second, .val (.long q2), .second, .val (.int p3), .val (.long (gl q0)), .second, .val (.long (gt q0 q1)), .second, .val (.ref b4), .val (.long (gb q0 q1 p3)), .second, .val (.int (0 : Int32)), .val (.long ((gt q0 q1) + (gb q0 q1 p3))), .second] [])) _
            refine XS.iconst X36.here hx rfl (hb hby at_155) ?_
            show Steps p.tables e below (T36.setTop (mkF m 156 #[.val (.long q0), .second, .val (.long q1), .second, .val (.long q2), .second, .val (.int p3), .val (.long (gl q0)), .second, .val (.long (gt q0 q1)), .second, .val (.ref b4), .val (.long (gb q0 q1 p3)), .second, .val (.int (0 : Int32)), .val (.long ((gt q0 q1) + (gb q0 q1 p3))), .second] [(.int (1 : Int32))])) _
            refine XS.goto X36.here hx rfl (pc0 := 156) (pc' := 160) rfl (hb hby at_156) (by decide) (by decide) ?_
            exact kt
          obtain ⟨fs, hr, hrun, hended, hW, hsame⟩ := X36.leave (v := some (.int (1 : Int32))) (fun h => by rw [Bd.returns] at h; cases h)
          refine ⟨_, _, pre0 _ (K37 _ ?_), hrun, hended, _, _, rfl, ?_, ⟨_, rfl⟩, hW, hsame.mono (by decide) (by decide)⟩
          · show Steps p.tables e below (T36.setTop (mkF m 160 #[.val (.long q0), .second, .val (.long q1), .second, .val (.long q2), .second, .val (.int p3), .val (.long (gl q0)), .second, .val (.long (gt q0 q1)), .second, .val (.ref b4), .val (.long (gb q0 q1 p3)), .second, .val (.int (0 : Int32)), .val (.long ((gt q0 q1) + (gb q0 q1 p3))), .second] [(.int (1 : Int32))])) _
            exact retN X36 hx (t := .boolean) Bd.returns (by simp) (hb hby at_160) hr
          · show Q0 Z q0 q1 q2 p3  h0 n0 _ T36.heap _
            rw [e36]
            exact ⟨rfl, N7⟩
        · skip
          obtain ⟨cq38, kq38, q38a, q38b, q38c⟩ := isOf hZ e9 G8
          obtain ⟨_, _, ⟨T38, L38, k38, n38⟩, -, X38, ⟨Lc38, hQ38, l38, y38, z38⟩, st38⟩ := X9.virtualBack hx (y := (⟨"com/example/nwx/nwx/core/MemoryShare", "fits", "(J)Z"⟩ : MethodName)) (z := (⟨"com/example/nwx/nwx/core/MemoryShare", "fits", "(J)Z"⟩ : MethodName)) hown (mvT hZ (hw _ (List.mem_of_getElem? (i := 29) rfl))) (mvT hZ (hw _ (List.mem_of_getElem? (i := 18) rfl))) (notFace_of_selects (args := #[]) (mvT hZ (hw _ (List.mem_of_getElem? (i := 20) rfl)))) (mvT hZ (hw _ (List.mem_of_getElem? (i := 20) rfl))) (mvT hZ (hw _ (List.mem_of_getElem? (i := 19) rfl))) (by decide) (backOf (W := 0) (rm4 l Z a0 hw [] b4 (gb q0 q1 p3) (gl q0) ((0 : Int64) + (gt q0 q1)) T7.heap F7q G7q) hZ (hw _ (List.mem_of_getElem? (i := 21) rfl)) (hw _ (List.mem_of_getElem? (i := 3) rfl)) (by decide) (by decide)) q38a q38c (g := (mkF m 147 #[.val (.long q0), .second, .val (.long q1), .second, .val (.long q2), .second, .val (.int p3), .val (.long (gl q0)), .second, .val (.long (gt q0 q1)), .second, .val (.ref b4), .val (.long (gb q0 q1 p3)), .second, .val (.int (1 : Int32)), .val (.long ((gt q0 q1) + (gb q0 q1 p3))), .second] [(.long (gb q0 q1 p3)), (.ref b4)])) rfl (by rw [hml]; rfl) (Steps.refl _) (argsL := [(.long (gb q0 q1 p3))]) (rest := []) (lenOf pd_0 rfl) rfl (by show 2 * 0 + _ ≤ _; exact Nat.le_of_eq rfl) (hb hby at_147) (fun _ _ => ⟨rfl, e9, (by decide : 1 + 0 ≤ _), (by decide : 2 + 0 ≤ _)⟩)
          dsimp only [Pt.U, Pt.locs, Pt.cells, Pt.slots] at X38 l38 y38 z38 st38 hQ38
          subst l38 y38 z38
          obtain ⟨rfl, rfl, e38⟩ := hQ38
          try rw [List.append_nil] at X38
          have K39 : ∀ t, Steps p.tables e below (T38.setTop (mkF m 160 #[.val (.long q0), .second, .val (.long q1), .second, .val (.long q2), .second, .val (.int p3), .val (.long (gl q0)), .second, .val (.long (gt q0 q1)), .second, .val (.ref b4), .val (.long (gb q0 q1 p3)), .second, .val (.int (1 : Int32)), .val (.long ((gt q0 q1) + (gb q0 q1 p3))), .second] [(.int (1 : Int32))])) t → Steps p.tables e below (s₁.setTop (mkF m 0 #[.val (.long q0), .second, .val (.long q1), .second, .val (.long q2), .second, .val (.int p3), .unset, .unset, .unset, .unset, .unset, .unset, .unset, .unset, .unset, .unset] [])) t := by
            intro t kt
            refine K34 _ ?_
            show Steps p.tables e below (T9.setTop (mkF m 133 #[.val (.long q0), .second, .val (.long q1), .second, .val (.long q2), .second, .val (.int p3), .val (.long (gl q0)), .second, .val (.long (gt q0 q1)), .second, .val (.ref b4), .val (.long (gb q0 q1 p3)), .second, .unset, .val (.long ((gt q0 q1) + (gb q0 q1 p3))), .second] [(.int (lcmpW ((gt q0 q1) + (gb q0 q1 p3)) (gl q0)))])) _
            refine XS.ifNo X9.here hx rfl (hb hby at_133) rfl ((if0 _ _).trans (flt (mt (lw_gt _ _).mp hc35)).2.2.1) ?_
            show Steps p.tables e below (T9.setTop (mkF m 136 #[.val (.long q0), .second, .val (.long q1), .second, .val (.long q2), .second, .val (.int p3), .val (.long (gl q0)), .second, .val (.long (gt q0 q1)), .second, .val (.ref b4), .val (.long (gb q0 q1 p3)), .second, .unset, .val (.long ((gt q0 q1) + (gb q0 q1 p3))), .second] [])) _
            refine XS.iconst X9.here hx rfl (hb hby at_136) ?_
            show Steps p.tables e below (T9.setTop (mkF m 137 #[.val (.long q0), .second, .val (.long q1), .second, .val (.long q2), .second, .val (.int p3), .val (.long (gl q0)), .second, .val (.long (gt q0 q1)), .second, .val (.ref b4), .val (.long (gb q0 q1 p3)), .second, .unset, .val (.long ((gt q0 q1) + (gb q0 q1 p3))), .second] [(.int (1 : Int32))])) _
            refine XS.goto X9.here hx rfl (pc0 := 137) (pc' := 141) rfl (hb hby at_137) (by decide) (by decide) ?_
            show Steps p.tables e below (T9.setTop (mkF m 141 #[.val (.long q0), .second, .val (.long q1), .second, .val (.long q2), .second, .val (.int p3), .val (.long (gl q0)), .second, .val (.long (gt q0 q1)), .second, .val (.ref b4), .val (.long (gb q0 q1 p3)), .second, .unset, .val (.long ((gt q0 q1) + (gb q0 q1 p3))), .second] [(.int (1 : Int32))])) _
            refine XS.istore X9.here hx rfl (hb hby at_141) rfl (l' := #[.val (.long q0), .second, .val (.long q1), .second, .val (.long q2), .second, .val (.int p3), .val (.long (gl q0)), .second, .val (.long (gt q0 q1)), .second, .val (.ref b4), .val (.long (gb q0 q1 p3)), .second, .val (.int (1 : Int32)), .val (.long ((gt q0 q1) + (gb q0 q1 p3))), .second]) rfl ?_
            show Steps p.tables e below (T9.setTop (mkF m 143 #[.val (.long q0), .second, .val (.long q1), .second, .val (.long q2), .second, .val (.int p3), .val (.long (gl q0)), .second, .val (.long (gt q0 q1)), .second, .val (.ref b4), .val (.long (gb q0 q1 p3)), .second, .val (.int (1 : Int32)), .val (.long ((gt q0 q1) + (gb q0 q1 p3))), .second] [])) _
            refine XS.aload X9.here hx rfl (hb hby at_143) rfl rfl ?_
            show Steps p.tables e below (T9.setTop (mkF m 145 #[.val (.long q0), .second, .val (.long q1), .second, .val (.long q2), .second, .val (.int p3), .val (.long (gl q0)), .second, .val (.long (gt q0 q1)), .second, .val (.ref b4), .val (.long (gb q0 q1 p3)), .second, .val (.int (1 : Int32)), .val (.long ((gt q0 q1) + (gb q0 q1 p3))), .second] [(.ref b4)])) _
            refine XS.lload X9.here hx rfl (hb hby at_145) rfl ?_
            show Steps p.tables e below (T9.setTop (mkF m 147 #[.val (.long q0), .second, .val (.long q1), .second, .val (.long q2), .second, .val (.int p3), .val (.long (gl q0)), .second, .val (.long (gt q0 q1)), .second, .val (.ref b4), .val (.long (gb q0 q1 p3)), .second, .val (.int (1 : Int32)), .val (.long ((gt q0 q1) + (gb q0 q1 p3))), .second] [(.long (gb q0 q1 p3)), (.ref b4)])) _
            refine st38.trans ?_
            show Steps p.tables e below (T38.setTop (mkF m 150 #[.val (.long q0), .second, .val (.long q1), .second, .val (.long q2), .second, .val (.int p3), .val (.long (gl q0)), .second, .val (.long (gt q0 q1)), .second, .val (.ref b4), .val (.long (gb q0 q1 p3)), .second, .val (.int (1 : Int32)), .val (.long ((gt q0 q1) + (gb q0 q1 p3))), .second] [(.int (f4 (gb q0 q1 p3) (gl q0) ((0 : Int64) + (gt q0 q1))))])) _
            refine XS.iload X38.here hx rfl (hb hby at_150) rfl ?_
            show Steps p.tables e below (T38.setTop (mkF m 152 #[.val (.long q0), .second, .val (.long q1), .second, .val (.long q2), .second, .val (.int p3), .val (.long (gl q0)), .second, .val (.long (gt q0 q1)), .second, .val (.ref b4), .val (.long (gb q0 q1 p3)), .second, .val (.int (1 : Int32)), .val (.long ((gt q0 q1) + (gb q0 q1 p3))), .second] [(.int (1 : Int32)), (.int (f4 (gb q0 q1 p3) (gl q0) ((0 : Int64) + (gt q0 q1))))])) _
            refine XS.icmpNo X38.here hx rfl (hb hby at_152) rfl (teq (show (f4 (gb q0 q1 p3) (gl q0) ((0 : Int64) + (gt q0 q1))) = (1 : Int32) from (own_fit q0 q1 (gb q0 q1 p3) hc27 hc31 hc35))).2 ?_
            show Steps p.tables e below (T38.setTop (mkF m 155 #[.val (.long q0), .second, .val (.long q1), .second, .val (.long q2), .second, .val (.int p3), .val (.long (gl q0)), .second, .val (.long (gt q0 q1)), .second, .val (.ref b4), .val (.long (gb q0 q1 p3)), .second, .val (.int (1 : Int32)), .val (.long ((gt q0 q1) + (gb q0 q1 p3))), .second] [])) _
            refine XS.iconst X38.here hx rfl (hb hby at_155) ?_
            show Steps p.tables e below (T38.setTop (mkF m 156 #[.val (.long q0), .second, .val (.long q1), .second, .val (.long q2), .second, .val (.int p3), .val (.long (gl q0)), .second, .val (.long (gt q0 q1)), .second, .val (.ref b4), .val (.long (gb q0 q1 p3)), .second, .val (.int (1 : Int32)), .val (.long ((gt q0 q1) + (gb q0 q1 p3))), .second] [(.int (1 : Int32))])) _
            refine XS.goto X38.here hx rfl (pc0 := 156) (pc' := 160) rfl (hb hby at_156) (by decide) (by decide) ?_
            exact kt
          obtain ⟨fs, hr, hrun, hended, hW, hsame⟩ := X38.leave (v := some (.int (1 : Int32))) (fun h => by rw [Bd.returns] at h; cases h)
          refine ⟨_, _, pre0 _ (K39 _ ?_), hrun, hended, _, _, rfl, ?_, ⟨_, rfl⟩, hW, hsame.mono (by decide) (by decide)⟩
          · show Steps p.tables e below (T38.setTop (mkF m 160 #[.val (.long q0), .second, .val (.long q1), .second, .val (.long q2), .second, .val (.int p3), .val (.long (gl q0)), .second, .val (.long (gt q0 q1)), .second, .val (.ref b4), .val (.long (gb q0 q1 p3)), .second, .val (.int (1 : Int32)), .val (.long ((gt q0 q1) + (gb q0 q1 p3))), .second] [(.int (1 : Int32))])) _
            exact retN X38 hx (t := .boolean) Bd.returns (by simp) (hb hby at_160) hr
          · show Q0 Z q0 q1 q2 p3  h0 n0 _ T38.heap _
            rw [e38]
            exact ⟨rfl, N7⟩
set_option maxRecDepth 65536 in
set_option maxHeartbeats 40000000 in
theorem comes_1 {Post : Tables → Env → Array Value → State → Outcome → State → Prop} (hpost : ∀ tb e args s v u, (limb_1_1.after args s (.returned v) u = true ∧ limb_1_2.after args s (.returned v) u = true ∧ True) → FrameEnd s (.returned v) u (Jvm.fieldLocs frame_1_writes args s ++ Jvm.arrayLocs frame_1_arrays args s ++ Jvm.staticLocs frame_1_statics s) 16 128 → Post tb e args s (.returned v) u) :
    ArmFor flags0 classFile x code maxLocals ret World_1 tables_1 room_1 Calls_1 rest_1 Pre_1 Post := by
  intro l hfl _ _ p e ha hc hk s m args below hf hA hF happ hP
  obtain ⟨hcalls, hrest, hpre⟩ := hP
  obtain ⟨-, -, -, hnamed, -, -, -, hat⟩ := (Spec.applies_iff hf).mp happ
  obtain ⟨hg, hn⟩ := and_e (Cond.before_iff.mp (show (Jvm.Cond.and given_1 narrow_1).before args s = true from hpre))
  obtain ⟨hcount, hk0⟩ := and_e hg
  obtain ⟨hi0, hk1⟩ := and_e hk0
  obtain ⟨hi1, hk2⟩ := and_e hk1
  obtain ⟨hi2, hk3⟩ := and_e hk2
  have hi3 := hk3
  obtain ⟨w0, w1, w2, w3, rfl⟩ : ∃ w0 w1 w2 w3 : Value, args = #[w0, w1, w2, w3] := by
    have hs : args.size = 4 := by simpa [Cond.value, given_1] using hcount
    obtain ⟨L⟩ := args
    match L, hs with
    | [w0, w1, w2, w3], _ => exact ⟨w0, w1, w2, w3, rfl⟩
  have hw := fun d (hd : d ∈ tables_1) => atoms_spec (ws := Jvm.Cond.code x code maxLocals ret :: tables_1) hat d (List.mem_cons_of_mem _ hd)
  obtain ⟨i0, ei0⟩ := isL_v hi0
  obtain rfl : w0 = (.long i0) := Option.some.inj ei0
  obtain ⟨i1, ei1⟩ := isL_v hi1
  obtain rfl : w1 = (.long i1) := Option.some.inj ei1
  obtain ⟨i2, ei2⟩ := isL_v hi2
  obtain rfl : w2 = (.long i2) := Option.some.inj ei2
  obtain ⟨i3, ei3⟩ := is_v hi3
  obtain rfl : w3 = (.int i3) := Option.some.inj ei3
  obtain ⟨n, o, h1, h2, h3, v, L, rfl, hQ, hq⟩ := rm0 l s _ hw tables_1 i0 i1 i2 i3 s.heap s.heap.size (Nat.le_refl _) p e ha hc hk s m _ below hf ((Spec.applies_iff_loose hf).mp happ).1 ⟨rfl, State.Warmed39.refl s, rfl⟩ trivial
  obtain ⟨rfl, N⟩ : v = some (.int 1) ∧ Fr s.heap.size L := by
    exact ⟨hQ.1, hQ.2⟩
  refine ⟨n, _, h1, h2, h3, hpost _ _ _ _ _ _ ⟨Cond.after_iff.mpr rfl, Cond.after_iff.mpr (eq_i res_at (Term.int_eval (1)) rfl), trivial⟩ ⟨hq.1, hq.2.1, (hq.2.2.sift fun y hy => Or.inr (N y hy)).mono (by decide) (by decide)⟩⟩
theorem main_1_1 : Claimed_1_1 := comes_1 fun _ _ _ _ _ _ h hF => ⟨h.1, hF⟩
theorem main_1_2 : Claimed_1_2 := comes_1 fun _ _ _ _ _ _ h hF => ⟨h.2.1, hF⟩
end Jvm.Pilot.@@N@@
namespace Jvm.Pilot.@@N@@
open Jvm Jvm.ClassFile Sem Op Lib Jvm.Free Jvm.Stand Jvm.Pilot.@@N@@.Jvm.D
/-! MADE BY PROGRAM (witnessworld.py) out of the Statement's table words and the real class files: 9 classes; the members and pool entries that the words name. The judged class is class 1, her method 1. -/
namespace start1
open Jvm.ClassFile
def u (s : String) : CpInfo := .utf8 (stringToUtf16 s)
/-- a pool by its gaps: so many unusable entries, then the entry; so many at the end -/
def gap : Nat → List CpInfo → List CpInfo
  | 0, r => r
  | n + 1, r => .unusable :: gap n r
def poolList (es : List (Nat × CpInfo)) (last : Nat) : List CpInfo := es.foldr (fun e r => gap e.1 (e.2 :: r)) (gap last [])
def pool (es : List (Nat × CpInfo)) (last : Nat) : Array CpInfo := ⟨poolList es last⟩
def fileOf (pool : Array CpInfo) (this : Nat) (attrs : Array Attribute := #[]) (ms : Array MethodInfo := #[]) (fl : Nat := 33) (sup : Nat := 0) (ifs : Array Nat := #[]) (fds : Array FieldInfo := #[]) : ClassFile where
  minorVersion := 0
  majorVersion := 65
  constantPool := pool
  accessFlags := fl
  thisClass := this
  superClass := sup
  interfaces := ifs
  fields := fds
  methods := ms
  attributes := attrs
def plain (name : String) (sup : Option ClassId) : Class where
  name := name
  kind := .ordinary
  loader := none
  accessFlags := 33
  super := sup
  interfaces := #[]
  cf := none
  fields := #[]
  methods := #[]
  instanceTypes := #[]
  staticTypes := #[]
  resolved := #[]
  callSites := []
  init := .initialized
  statics := none
  mirror := none

def pool0 : Array CpInfo := pool [(5, u "<init>"), (0, u "()V"), (1, .class_ 10), (1, u "java/lang/Object")] 113

def k0c0 : Code := { maxStack := 0, maxLocals := 1, code := object_method_1_code, exceptionTable := #[], attributes := #[] }
def k0m0 : Method := { name := "<init>", desc := "()V", sig := { parameters := [], returnType := none }, accessFlags := 1, code := some k0c0 }
/-- java/lang/Object -/
def k0 : Class := { plain "java/lang/Object" none with
  accessFlags := 33
  interfaces := #[]
  cf := some (fileOf pool0 8 #[] #[{ accessFlags := 1, nameIndex := 5, descriptorIndex := 6, attributes := #[] }] 33 0 #[] #[])
  fields := #[]
  methods := #[k0m0]
  instanceTypes := #[]
  staticTypes := #[]
  resolved := Array.replicate 124 none
  statics := none }

def pool1 : Array CpInfo := pool [(2, .class_ 4), (1, u "java/lang/Object"), (0, u "<init>"), (0, u "()V"), (2, .long 9223372036854775807), (1, .class_ 12), (0, u "com/example/nwx/nwx/core/MemoryShare"), (0, .methodref 11 14), (0, .nameAndType 5 15), (0, u "(J)V"), (0, .methodref 11 17), (0, .nameAndType 18 15), (0, u "take"), (0, .methodref 11 20), (0, .nameAndType 21 22), (0, u "taken"), (0, u "()J"), (0, .methodref 11 24), (0, .nameAndType 25 26), (0, u "fits"), (0, u "(J)Z"), (0, .class_ 28), (0, u "com/example/nwx/nwx/core/MemoryShareFitsPinLaw"), (2, u "law"), (0, u "(JJJI)Z")] 3

def k1m0 : Method := { name := "<init>", desc := "()V", sig := { parameters := [], returnType := none }, accessFlags := 2, code := none }
def k1c1 : Code := { maxStack := 6, maxLocals := 17, code := code, exceptionTable := #[], attributes := #[] }
def k1m1 : Method := { name := "law", desc := "(JJJI)Z", sig := { parameters := [.long, .long, .long, .int], returnType := some .boolean }, accessFlags := 9, code := some k1c1 }
/-- com/example/nwx/nwx/core/MemoryShareFitsPinLaw -/
def k1 : Class := { plain "com/example/nwx/nwx/core/MemoryShareFitsPinLaw" (some 0) with
  accessFlags := 49
  interfaces := #[]
  cf := some (fileOf pool1 27 #[] #[{ accessFlags := 2, nameIndex := 5, descriptorIndex := 6, attributes := #[] }, { accessFlags := 9, nameIndex := 31, descriptorIndex := 32, attributes := #[] }] 49 2 #[] #[])
  fields := #[]
  methods := #[k1m0, k1m1]
  instanceTypes := #[]
  staticTypes := #[]
  resolved := Array.replicate 36 none
  statics := none }

def pool2 : Array CpInfo := pool [(1, .methodref 2 3), (0, .class_ 4), (0, .nameAndType 5 6), (0, u "java/lang/Object"), (0, u "<init>"), (0, u "()V"), (0, .fieldref 8 9), (0, .class_ 10), (0, .nameAndType 11 12), (0, u "com/example/nwx/nwx/core/MemoryShare"), (0, u "limit"), (0, u "J"), (0, .fieldref 8 14), (0, .nameAndType 15 12), (0, u "taken"), (0, .methodref 8 17), (0, .nameAndType 18 19), (0, u "fits"), (0, u "(J)Z"), (9, u "(J)V"), (2, u "()J"), (1, u "take")] 18

def k2c0 : Code := { maxStack := 3, maxLocals := 3, code := prog_53_method_1_code, exceptionTable := #[], attributes := #[] }
def k2m0 : Method := { name := "<init>", desc := "(J)V", sig := { parameters := [.long], returnType := none }, accessFlags := 0, code := some k2c0 }
def k2c1 : Code := { maxStack := 2, maxLocals := 1, code := prog_53_method_3_code, exceptionTable := #[], attributes := #[] }
def k2m1 : Method := { name := "taken", desc := "()J", sig := { parameters := [], returnType := some .long }, accessFlags := 0, code := some k2c1 }
def k2c2 : Code := { maxStack := 6, maxLocals := 3, code := prog_53_method_4_code, exceptionTable := #[], attributes := #[] }
def k2m2 : Method := { name := "fits", desc := "(J)Z", sig := { parameters := [.long], returnType := some .boolean }, accessFlags := 0, code := some k2c2 }
def k2c3 : Code := { maxStack := 6, maxLocals := 3, code := prog_53_method_5_code, exceptionTable := #[], attributes := #[] }
def k2m3 : Method := { name := "take", desc := "(J)V", sig := { parameters := [.long], returnType := none }, accessFlags := 0, code := some k2c3 }
/-- com/example/nwx/nwx/core/MemoryShare -/
def k2 : Class := { plain "com/example/nwx/nwx/core/MemoryShare" (some 0) with
  accessFlags := 32
  interfaces := #[]
  cf := some (fileOf pool2 8 #[] #[{ accessFlags := 0, nameIndex := 5, descriptorIndex := 29, attributes := #[] }, { accessFlags := 0, nameIndex := 15, descriptorIndex := 32, attributes := #[] }, { accessFlags := 0, nameIndex := 18, descriptorIndex := 19, attributes := #[] }, { accessFlags := 0, nameIndex := 34, descriptorIndex := 29, attributes := #[] }] 32 2 #[] #[{ accessFlags := 18, nameIndex := 11, descriptorIndex := 12, attributes := #[] }, { accessFlags := 2, nameIndex := 15, descriptorIndex := 12, attributes := #[] }])
  fields := #[{ name := "limit", type := .long, accessFlags := 18, slot := 0, constantValue := 0 }, { name := "taken", type := .long, accessFlags := 2, slot := 1, constantValue := 0 }]
  methods := #[k2m0, k2m1, k2m2, k2m3]
  instanceTypes := #[.long, .long]
  staticTypes := #[]
  resolved := Array.replicate 53 none
  statics := none }

def pool3 : Array CpInfo := pool [(1, u "java/lang/Cloneable"), (0, .class_ 1), (0, u "java/lang/Object"), (0, .class_ 3)] 3

/-- java/lang/Cloneable -/
def k3 : Class := { plain "java/lang/Cloneable" (some 0) with
  accessFlags := 1537
  interfaces := #[]
  cf := some (fileOf pool3 2 #[] #[] 1537 4 #[] #[])
  fields := #[]
  methods := #[]
  instanceTypes := #[]
  staticTypes := #[]
  resolved := Array.replicate 8 none
  statics := none }

def pool4 : Array CpInfo := pool [(1, u "java/io/Serializable"), (0, .class_ 1), (0, u "java/lang/Object"), (0, .class_ 3)] 3

/-- java/io/Serializable -/
def k4 : Class := { plain "java/io/Serializable" (some 0) with
  accessFlags := 1537
  interfaces := #[]
  cf := some (fileOf pool4 2 #[] #[] 1537 4 #[] #[])
  fields := #[]
  methods := #[]
  instanceTypes := #[]
  staticTypes := #[]
  resolved := Array.replicate 8 none
  statics := none }

/-- the primitive byte -/
def k5 : Class := { plain "byte" none with kind := .primitive 'B', accessFlags := 0x411 }
/-- [B -/
def k6 : Class := { plain "[B" (some 0) with kind := .array 5 .byte, interfaces := #[3, 4], accessFlags := 1041 }

/-- the primitive int -/
def k7 : Class := { plain "int" none with kind := .primitive 'I', accessFlags := 0x411 }
/-- [I -/
def k8 : Class := { plain "[I" (some 0) with kind := .array 7 .int, interfaces := #[3, 4], accessFlags := 1041 }

def heap : Heap := #[]
def classes : Array Class := #[k0, k1, k2, k3, k4, k5, k6, k7, k8]
def interned : List (Array UInt16 × Addr) := []
def slotsUsed : Nat := 0
def theMethod : MethodId := ⟨1, 1⟩
def args0 : Array Value := #[.long 5, .long 5, .long 5, .int 5]
def aboutOver (below : List Frame) : State where
  vm := { classes := classes, interned := interned.toArray }
  heap := heap
  slotsUsed := slotsUsed
  threads := #[{ frames := .invoking theMethod args0 :: below }]
def below0 : List Frame := [.native { method := ⟨0, 0⟩, args := #[] }]
def about1 : State := aboutOver below0
def p0 : Program := .bare "" "" ""
def e0 : Env := launch0.env 0 0 0
theorem w_frames : about1.frames = Frame.invoking theMethod args0 :: below0 := rfl
set_option maxRecDepth 65536 in
theorem w_args : argsFit about1.vm theMethod args0 = true := by decide +kernel
set_option maxRecDepth 65536 in
theorem w_heap : heapFits about1 = true := by decide +kernel
set_option maxRecDepth 65536 in
theorem w_runnable : about1.curStatus? = some .runnable := by decide +kernel
set_option maxRecDepth 65536 in
theorem w_alone : about1.alone = true := by decide +kernel
set_option maxRecDepth 65536 in
theorem w_named : about1.methodNamed? x = some theMethod := by decide +kernel
set_option maxRecDepth 65536 in
theorem w_hears : about1.hears theMethod below0 = true := by decide +kernel
set_option maxRecDepth 65536 in
theorem w_ripe : about1.ripe theMethod args0 below0 = true := by decide +kernel
theorem w_running : about1.status = .running := rfl
set_option maxRecDepth 65536 in
theorem w_room : about1.hasRoom e0.platform room_1 = true :=
  launch0.hasRoom_least _ room_1 (by decide +kernel) (by decide +kernel) (by decide +kernel) (by decide +kernel) (by decide +kernel) (by decide +kernel)
theorem allAtoms_all (ts : List Jvm.Cond) (a : Array Jvm.Value) (st : Jvm.State) : (allAtoms ts).before a st = ts.all (fun c => c.before a st) := by
  induction ts with
  | nil => rfl
  | cons c t ih =>
    show (Jvm.Cond.and c (allAtoms t)).before a st = _
    rw [Jvm.Cond.before_and, ih, List.all_cons]
def words1 : List Jvm.Cond := Jvm.Cond.code x code maxLocals ret :: tables_1
/-- a 'code' word, met by the world's own term for the bytes: nothing is compared byte by byte -/
theorem code_word {y : MethodName} {bytes : ByteArray} {mx : Nat} {rt : Option FieldType} {a : Array Value} {s : State} {m : MethodId} {meth : Method} {c : Code} (h1 : s.methodNamed? y = some m) (h2 : s.vm.method? m = some meth) (h3 : meth.code = some c) (h4 : c.code = bytes)
    (h5 : (c.maxLocals == mx && c.exceptionTable.isEmpty && decide (c.maxStack ≤ mostOperands) && decide (meth.sig.returnType = rt) && !meth.locks && decide (parseMethodDescriptor y.desc = some meth.sig)) = true) : (Jvm.Cond.code y bytes mx rt).before a s = true := by
  simp only [Bool.and_eq_true, beq_iff_eq, Bool.not_eq_true', decide_eq_true_eq] at h5
  obtain ⟨⟨⟨⟨⟨g1, g2⟩, g3⟩, g4⟩, g5⟩, g6⟩ := h5
  simp [Cond.before, Cond.holds, Cond.value, h1, h2, h3, h4, g1, g2, g3, g4, g5, g6]
def isCode : Jvm.Cond → Bool
  | .code _ _ _ _ => true
  | _ => false
theorem all_split {L : List Jvm.Cond} {P : Jvm.Cond → Bool} (h1 : L.all (fun c => isCode c || P c) = true) (h2 : ∀ c ∈ L.filter isCode, P c = true) : L.all P = true := by
  refine List.all_eq_true.mpr fun c hc => ?_
  have h := List.all_eq_true.mp h1 c hc
  rcases Bool.eq_false_or_eq_true (isCode c) with hi | hi
  · exact h2 c (List.mem_filter.mpr ⟨hc, hi⟩)
  · simpa [hi] using h
set_option maxRecDepth 65536 in
theorem w_c0 : (Jvm.Cond.code x code maxLocals ret).before args0 about1 = true := code_word (m := ⟨1, 1⟩) (meth := k1m1) (c := k1c1) (by decide +kernel) rfl rfl rfl (by decide +kernel)
set_option maxRecDepth 65536 in
theorem w_c1 : (Jvm.Cond.code ({ cls := "com/example/nwx/nwx/core/MemoryShare", name := "<init>", desc := "(J)V" } : Jvm.MethodName) prog_53_method_1_code (3 : Nat) (Option.none : Option Jvm.ClassFile.FieldType)).before args0 about1 = true := code_word (m := ⟨2, 0⟩) (meth := k2m0) (c := k2c0) (by decide +kernel) rfl rfl rfl (by decide +kernel)
set_option maxRecDepth 65536 in
theorem w_c2 : (Jvm.Cond.code ({ cls := "java/lang/Object", name := "<init>", desc := "()V" } : Jvm.MethodName) object_method_1_code (1 : Nat) (Option.none : Option Jvm.ClassFile.FieldType)).before args0 about1 = true := code_word (m := ⟨0, 0⟩) (meth := k0m0) (c := k0c0) (by decide +kernel) rfl rfl rfl (by decide +kernel)
set_option maxRecDepth 65536 in
theorem w_c3 : (Jvm.Cond.code ({ cls := "com/example/nwx/nwx/core/MemoryShare", name := "take", desc := "(J)V" } : Jvm.MethodName) prog_53_method_5_code (3 : Nat) (Option.none : Option Jvm.ClassFile.FieldType)).before args0 about1 = true := code_word (m := ⟨2, 3⟩) (meth := k2m3) (c := k2c3) (by decide +kernel) rfl rfl rfl (by decide +kernel)
set_option maxRecDepth 65536 in
theorem w_c4 : (Jvm.Cond.code ({ cls := "com/example/nwx/nwx/core/MemoryShare", name := "fits", desc := "(J)Z" } : Jvm.MethodName) prog_53_method_4_code (3 : Nat) (Option.some Jvm.ClassFile.FieldType.boolean)).before args0 about1 = true := code_word (m := ⟨2, 2⟩) (meth := k2m2) (c := k2c2) (by decide +kernel) rfl rfl rfl (by decide +kernel)
set_option maxRecDepth 65536 in
theorem w_c5 : (Jvm.Cond.code ({ cls := "com/example/nwx/nwx/core/MemoryShare", name := "taken", desc := "()J" } : Jvm.MethodName) prog_53_method_3_code (1 : Nat) (Option.some Jvm.ClassFile.FieldType.long)).before args0 about1 = true := code_word (m := ⟨2, 1⟩) (meth := k2m1) (c := k2c1) (by decide +kernel) rfl rfl rfl (by decide +kernel)
def codes1 : List Jvm.Cond := [Jvm.Cond.code x code maxLocals ret, Jvm.Cond.code ({ cls := "com/example/nwx/nwx/core/MemoryShare", name := "<init>", desc := "(J)V" } : Jvm.MethodName) prog_53_method_1_code (3 : Nat) (Option.none : Option Jvm.ClassFile.FieldType), Jvm.Cond.code ({ cls := "java/lang/Object", name := "<init>", desc := "()V" } : Jvm.MethodName) object_method_1_code (1 : Nat) (Option.none : Option Jvm.ClassFile.FieldType), Jvm.Cond.code ({ cls := "com/example/nwx/nwx/core/MemoryShare", name := "take", desc := "(J)V" } : Jvm.MethodName) prog_53_method_5_code (3 : Nat) (Option.none : Option Jvm.ClassFile.FieldType), Jvm.Cond.code ({ cls := "com/example/nwx/nwx/core/MemoryShare", name := "fits", desc := "(J)Z" } : Jvm.MethodName) prog_53_method_4_code (3 : Nat) (Option.some Jvm.ClassFile.FieldType.boolean), Jvm.Cond.code ({ cls := "com/example/nwx/nwx/core/MemoryShare", name := "taken", desc := "()J" } : Jvm.MethodName) prog_53_method_3_code (1 : Nat) (Option.some Jvm.ClassFile.FieldType.long)]
set_option maxRecDepth 65536 in
theorem codes_eq : words1.filter isCode = codes1 := rfl
theorem w_codes : ∀ c ∈ words1.filter isCode, c.before args0 about1 = true := by
  rw [codes_eq]
  intro c hc
  simp only [codes1, List.mem_cons, List.not_mem_nil, or_false] at hc
  rcases hc with rfl | rfl | rfl | rfl | rfl | rfl
  · exact w_c0
  · exact w_c1
  · exact w_c2
  · exact w_c3
  · exact w_c4
  · exact w_c5
set_option maxRecDepth 65536 in
theorem w_t1 : (words1.take 24).all (fun c => isCode c || c.before args0 about1) = true := by decide +kernel
set_option maxRecDepth 65536 in
theorem w_t2 : (words1.drop 24).all (fun c => isCode c || c.before args0 about1) = true := by decide +kernel
theorem w_tables : (allAtoms (Jvm.Cond.code x code maxLocals ret :: tables_1)).before args0 about1 = true := by
  rw [allAtoms_all]
  show words1.all (fun c => c.before args0 about1) = true
  refine all_split ?_ w_codes
  rw [← List.take_append_drop 24 words1, List.all_append, w_t1, w_t2]
  rfl
set_option maxRecDepth 65536 in
theorem w_case : (Jvm.Cond.and given_1 narrow_1).before args0 about1 = true := by decide +kernel
theorem w_applies : (headSpec (Jvm.Cond.code x code maxLocals ret :: tables_1) room_1).applies x e0.platform about1 = true :=
  (Spec.applies_iff w_frames).mpr ⟨w_running, w_runnable, w_alone, w_named, w_hears, w_ripe, w_room, w_tables⟩
theorem atStart : AtStart classFile x code maxLocals ret World_1 tables_1 room_1 Calls_1 rest_1 Pre_1 launch0 p0 e0 about1 theMethod args0 below0 :=
  ⟨lists_1, trivial, launch0.admits_env _ _ _, launch0.least_env, fairChoices_fair.cas, fairChoices_fair.clock, w_frames, w_args, w_heap, w_applies, trivial, trivial, w_case⟩
end start1
theorem witness_1 : WitnessClaimed_1 := ⟨start1.p0, start1.e0, start1.about1, start1.theMethod, start1.args0, start1.below0, start1.atStart⟩
end Jvm.Pilot.@@N@@
