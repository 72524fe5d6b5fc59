import JvmDerived
import JvmDerived.Pilot.@@N@@Statement
import JvmDerived.Pilot.@@N@@Code
set_option linter.unusedVariables false
set_option linter.unusedSimpArgs false
namespace Jvm.Pilot.@@N@@
open Jvm Jvm.ClassFile Sem Op Lib Jvm.Free Jvm.Stand Jvm.LawKit Jvm.RoadKit Bundle Jvm.Pilot.@@N@@.Jvm.D
theorem ef_1 (m : MethodId) (x0 : Int32) (x1 : Int32) : entryFrame m #[(.int x0), (.int x1)] 2 = mkF m 0 #[.val (.int x0), .val (.int x1)] [] := by first | (simp [entryFrame, mkF, argsToLocals, Value.category]; done) | rfl
theorem d1_0 : decode jdk_29_method_65_code 0 = .ok (.iload_n 0, 1) := by decide +kernel
theorem d1_1 : decode jdk_29_method_65_code 1 = .ok (.iload_n 1, 1) := by decide +kernel
theorem d1_2 : decode jdk_29_method_65_code 2 = .ok (.if_icmp .lt 7, 3) := by decide +kernel
theorem d1_9 : decode jdk_29_method_65_code 9 = .ok (.iload_n 1, 1) := by decide +kernel
theorem d1_10 : decode jdk_29_method_65_code 10 = .ok (.ireturn, 1) := by decide +kernel
theorem d1_5 : decode jdk_29_method_65_code 5 = .ok (.iload_n 0, 1) := by decide +kernel
theorem d1_6 : decode jdk_29_method_65_code 6 = .ok (.goto 4, 3) := by decide +kernel
def f1 (p0 : Int32) (p1 : Int32) : Int32 := if p0 < p1 then p1
  else p0
def Q1 (Z : State) (p0 : Int32) (p1 : Int32)  (h0 : Heap) (v : Option Value) (h : Heap) (L : List Loc) : Prop := v = some (.int (f1 p0 p1)) ∧ L = [] ∧ h = h0
set_option maxRecDepth 65536 in
set_option maxHeartbeats 40000000 in
theorem rm1 (l : Launch) (Z : State) (a0 : Array Value) (hw : ∀ d ∈ tables_1, d.before a0 Z = true) (ws : List Jvm.Cond) (p0 : Int32) (p1 : Int32)  (h0 : Heap)  :
    MetFree l (⟨"java/lang/Math", "max", "(II)I"⟩ : MethodName) (head1 (Jvm.Cond.code (⟨"java/lang/Math", "max", "(II)I"⟩ : MethodName) jdk_29_method_65_code 2 (some .int) :: ws) ({ frames := 0, cells := 0, slots := 0, locals := 0 } : Room)) (fun a U => a = #[(.int p0), (.int p1)] ∧ Z.Warmed39 U.vm ∧ U.heap = h0) (fun _ _ _ _ _ => True) (fun _ U o U' => ∃ v L, o = .returned v ∧ Q1 Z p0 p1  h0 v U'.heap L ∧ FrameEnd U o U' L ({ frames := 0, cells := 0, slots := 0, locals := 0 } : Room).cells ({ frames := 0, cells := 0, slots := 0, locals := 0 } : Room).slots) := by
  refine MetFree.of_bodySF (Jvm.Free.JP.mathPlain rfl (by decide +kernel)) hisR ?_
  intro p e s m args below meth c s₁ Bd hml0 hP hK
  obtain ⟨rfl, hZ, hh⟩ := hP
  have hx := Bd.exec
  have hby := Bd.bytes
  have hml : c.maxLocals = 2 := hml0
  have hown : s.vm.findClass "java/lang/Math" = some m.cls := findClass_of_methodNamed Bd.named
  have hnm := (name_of_methodNamed Bd.named Bd.method).1
  have X0 : Stand p l e ({ frames := 0, cells := 0, slots := 0, locals := 0 } : Room) s m #[(.int p0), (.int p1)] below meth c s₁ [] 0 0 := Stand.of_body Bd
  have e0 : s₁.heap = h0 := by rw [← hh, Bd.state]; rfl
  have pre0 : ∀ t, Steps p.tables e below (s₁.setTop (mkF m 0 #[.val (.int p0), .val (.int p1)] [])) t → Steps p.tables e below (s₁.setTop (entryFrame m #[(.int p0), (.int p1)] 2)) t := fun t k => castTop (ef_1 m p0 p1) k
  have K1 : ∀ t, Steps p.tables e below (s₁.setTop (mkF m 2 #[.val (.int p0), .val (.int p1)] [(.int p1), (.int p0)])) t → Steps p.tables e below (s₁.setTop (mkF m 0 #[.val (.int p0), .val (.int p1)] [])) t := by
    intro t kt
    show Steps p.tables e below (s₁.setTop (mkF m 0 #[.val (.int p0), .val (.int p1)] [])) _
    refine XS.iloadN X0.here hx rfl (hb hby d1_0) rfl ?_
    show Steps p.tables e below (s₁.setTop (mkF m 1 #[.val (.int p0), .val (.int p1)] [(.int p0)])) _
    refine XS.iloadN X0.here hx rfl (hb hby d1_1) rfl ?_
    exact kt
  by_cases hc2 : p0 < p1
  · skip
    have K3 : ∀ t, Steps p.tables e below (s₁.setTop (mkF m 10 #[.val (.int p0), .val (.int p1)] [(.int p1)])) t → Steps p.tables e below (s₁.setTop (mkF m 0 #[.val (.int p0), .val (.int p1)] [])) t := by
      intro t kt
      refine K1 _ ?_
      show Steps p.tables e below (s₁.setTop (mkF m 2 #[.val (.int p0), .val (.int p1)] [(.int p1), (.int p0)])) _
      refine XS.icmpYes X0.here hx rfl (pc0 := 2) (pc' := 9) rfl (hb hby d1_2) rfl (tlt hc2).1 (by decide) (by decide) ?_
      show Steps p.tables e below (s₁.setTop (mkF m 9 #[.val (.int p0), .val (.int p1)] [])) _
      refine XS.iloadN X0.here hx rfl (hb hby d1_9) rfl ?_
      exact kt
    have hv : f1 p0 p1 = p1 := by simp only [f1, if_pos hc2]
    obtain ⟨fs, hr, hrun, hended, hW, hsame⟩ := X0.leave (v := some (.int p1)) (fun h => by rw [Bd.returns] at h; cases h)
    refine ⟨_, _, pre0 _ (K3 _ ?_), hrun, hended, _, _, rfl, ?_, ⟨_, rfl⟩, hW, hsame.mono (by decide) (by decide)⟩
    · show Steps p.tables e below (s₁.setTop (mkF m 10 #[.val (.int p0), .val (.int p1)] [(.int p1)])) _
      exact retOut X0 hx Bd.returns rfl (Or.inl ⟨rfl, Or.inl rfl, _, rfl⟩) (hb hby d1_10) hr
    · show Q1 Z p0 p1  h0 _ s₁.heap _
      rw [e0]
      exact ⟨by rw [hv], rfl, rfl⟩
  · skip
    have K4 : ∀ t, Steps p.tables e below (s₁.setTop (mkF m 10 #[.val (.int p0), .val (.int p1)] [(.int p0)])) t → Steps p.tables e below (s₁.setTop (mkF m 0 #[.val (.int p0), .val (.int p1)] [])) t := by
      intro t kt
      refine K1 _ ?_
      show Steps p.tables e below (s₁.setTop (mkF m 2 #[.val (.int p0), .val (.int p1)] [(.int p1), (.int p0)])) _
      refine XS.icmpNo X0.here hx rfl (hb hby d1_2) rfl (flt hc2).1 ?_
      show Steps p.tables e below (s₁.setTop (mkF m 5 #[.val (.int p0), .val (.int p1)] [])) _
      refine XS.iloadN X0.here hx rfl (hb hby d1_5) rfl ?_
      show Steps p.tables e below (s₁.setTop (mkF m 6 #[.val (.int p0), .val (.int p1)] [(.int p0)])) _
      refine XS.goto X0.here hx rfl (pc0 := 6) (pc' := 10) rfl (hb hby d1_6) (by decide) (by decide) ?_
      exact kt
    have hv : f1 p0 p1 = p0 := by simp only [f1, if_neg hc2]
    obtain ⟨fs, hr, hrun, hended, hW, hsame⟩ := X0.leave (v := some (.int p0)) (fun h => by rw [Bd.returns] at h; cases h)
    refine ⟨_, _, pre0 _ (K4 _ ?_), hrun, hended, _, _, rfl, ?_, ⟨_, rfl⟩, hW, hsame.mono (by decide) (by decide)⟩
    · show Steps p.tables e below (s₁.setTop (mkF m 10 #[.val (.int p0), .val (.int p1)] [(.int p0)])) _
      exact retOut X0 hx Bd.returns rfl (Or.inl ⟨rfl, Or.inl rfl, _, rfl⟩) (hb hby d1_10) hr
    · show Q1 Z p0 p1  h0 _ s₁.heap _
      rw [e0]
      exact ⟨by rw [hv], rfl, rfl⟩
theorem ef_2 (m : MethodId) (x0 : Addr) (x1 : Int64) : entryFrame m #[(.ref x0), (.long x1)] 3 = mkF m 0 #[.val (.ref x0), .val (.long x1), .second] [] := by first | (simp [entryFrame, mkF, argsToLocals, Value.category]; done) | rfl
theorem pn_0 : plainName "com/example/moonclaim/moonclaim/engine/Rng" = true := by first | (simp [plainName, overriddenIn]; done) | decide +kernel
theorem d2_0 : decode prog_13_method_1_code 0 = .ok (.aload_n 0, 1) := by decide +kernel
theorem d2_1 : decode prog_13_method_1_code 1 = .ok (.invokespecial 1, 3) := by decide +kernel
theorem d2_4 : decode prog_13_method_1_code 4 = .ok (.aload_n 0, 1) := by decide +kernel
theorem d2_5 : decode prog_13_method_1_code 5 = .ok (.lload_n 1, 1) := by decide +kernel
theorem d2_6 : decode prog_13_method_1_code 6 = .ok (.putfield 7, 3) := by decide +kernel
theorem d2_9 : decode prog_13_method_1_code 9 = .ok (.return_, 1) := by decide +kernel
def Q2 (Z : State) (o0 : Addr) (q1 : Int64) (u : Value) (h0 : Heap) (n0 : Nat) (v : Option Value) (h : Heap) (L : List Loc) : Prop := v = none ∧ Fr n0 L ∧ Keep h0 h [o0] ∧ Fld Z h o0 "com/example/moonclaim/moonclaim/engine/Rng" "state" "J" (.long q1)
set_option maxRecDepth 65536 in
set_option maxHeartbeats 40000000 in
theorem rm2 (l : Launch) (Z : State) (a0 : Array Value) (hw : ∀ d ∈ tables_1, d.before a0 Z = true) (ws : List Jvm.Cond) (o0 : Addr) (q1 : Int64) (u : Value) (h0 : Heap) (n0 : Nat) (Z0 : n0 ≤ h0.size) (F1 : Fld Z h0 o0 "com/example/moonclaim/moonclaim/engine/Rng" "state" "J" u) (E1 : Exa Z h0 o0 "com/example/moonclaim/moonclaim/engine/Rng") (g1 : n0 ≤ o0) :
    MetFree l (⟨"com/example/moonclaim/moonclaim/engine/Rng", "<init>", "(J)V"⟩ : MethodName) (head1 (Jvm.Cond.code (⟨"com/example/moonclaim/moonclaim/engine/Rng", "<init>", "(J)V"⟩ : MethodName) prog_13_method_1_code 3 none :: ws) ({ frames := 1, cells := 0, slots := 0, locals := 12 } : Room)) (fun a U => a = #[(.ref o0), (.long q1)] ∧ Z.Warmed39 U.vm ∧ U.heap = h0) (fun _ _ _ _ _ => True) (fun _ U o U' => ∃ v L, o = .returned v ∧ Q2 Z o0 q1 u h0 n0 v U'.heap L ∧ FrameEnd U o U' L ({ frames := 1, cells := 0, slots := 0, locals := 12 } : Room).cells ({ frames := 1, cells := 0, slots := 0, locals := 12 } : Room).slots) := by
  refine MetFree.of_bodySF (plainFor_of_name pn_0) hisR ?_
  intro p e s m args below meth c s₁ Bd hml0 hP hK
  obtain ⟨rfl, hZ, hh⟩ := hP
  have hx := Bd.exec
  have hby := Bd.bytes
  have hml : c.maxLocals = 3 := hml0
  have hown : s.vm.findClass "com/example/moonclaim/moonclaim/engine/Rng" = some m.cls := findClass_of_methodNamed Bd.named
  have hnm := (name_of_methodNamed Bd.named Bd.method).1
  have X0 : Stand p l e ({ frames := 1, cells := 0, slots := 0, locals := 12 } : Room) s m #[(.ref o0), (.long q1)] below meth c s₁ [] 0 0 := Stand.of_body Bd
  have e0 : s₁.heap = h0 := by rw [← hh, Bd.state]; rfl
  have pre0 : ∀ t, Steps p.tables e below (s₁.setTop (mkF m 0 #[.val (.ref o0), .val (.long q1), .second] [])) t → Steps p.tables e below (s₁.setTop (entryFrame m #[(.ref o0), (.long q1)] 3)) t := fun t k => castTop (ef_2 m o0 q1) k
  have N0 := Fr.nil n0
  have KP0 : Keep h0 h0 [o0] := Keep.refl _ _
  obtain ⟨T1, X1, e1, st1⟩ := initO X0 hx hZ hown (hw _ (List.mem_of_getElem? (i := 11) rfl)) (hw _ (List.mem_of_getElem? (i := 12) rfl)) (hw _ (List.mem_of_getElem? (i := 13) rfl)) e0 (g := (mkF m 1 #[.val (.ref o0), .val (.long q1), .second] [(.ref o0)])) rfl (by rw [hml]; rfl) rfl (hb hby d2_1) (by decide) (W := 0) (by show 2 * 0 + _ ≤ _; exact Nat.le_of_eq rfl) (by decide)
  obtain ⟨T2, h2, X2, e2, W2, st2⟩ := putF X1 hx hZ hown (host := "") (Or.inl (hw _ (List.mem_of_getElem? (i := 14) rfl))) Via.refl e1 F1 E1 (Or.inl (hw _ (List.mem_of_getElem? (i := 15) rfl))) (hw _ (List.mem_of_getElem? (i := 6) rfl)) (ty := .long) (by decide) rfl rfl (g := (mkF m 6 #[.val (.ref o0), .val (.long q1), .second] [(.long q1), (.ref o0)])) rfl rfl (hb hby d2_6)
  have G3 : Exa Z h2 o0 "com/example/moonclaim/moonclaim/engine/Rng" := E1.wr W2
  have G4 : Fld Z h2 o0 "com/example/moonclaim/moonclaim/engine/Rng" "state" "J" (.long q1) := F1.same W2
  have Z2 : n0 ≤ h2.size := Nat.le_trans Z0 (Keep.of_wr W2).1
  have N2 := Fr.snoc X2 N0 g1
  have KP2 : Keep h0 h2 [o0] := KP0.wr W2 (Or.inl (List.mem_of_getElem? (i := 0) rfl))
  have K5 : ∀ t, Steps p.tables e below (T2.setTop (mkF m 9 #[.val (.ref o0), .val (.long q1), .second] [])) t → Steps p.tables e below (s₁.setTop (mkF m 0 #[.val (.ref o0), .val (.long q1), .second] [])) t := by
    intro t kt
    show Steps p.tables e below (s₁.setTop (mkF m 0 #[.val (.ref o0), .val (.long q1), .second] [])) _
    refine XS.aloadN X0.here hx rfl (hb hby d2_0) rfl rfl ?_
    show Steps p.tables e below (s₁.setTop (mkF m 1 #[.val (.ref o0), .val (.long q1), .second] [(.ref o0)])) _
    refine st1 _ ?_
    show Steps p.tables e below (T1.setTop (mkF m 4 #[.val (.ref o0), .val (.long q1), .second] [])) _
    refine XS.aloadN X1.here hx rfl (hb hby d2_4) rfl rfl ?_
    show Steps p.tables e below (T1.setTop (mkF m 5 #[.val (.ref o0), .val (.long q1), .second] [(.ref o0)])) _
    refine XS.lloadN X1.here hx rfl (hb hby d2_5) rfl ?_
    show Steps p.tables e below (T1.setTop (mkF m 6 #[.val (.ref o0), .val (.long q1), .second] [(.long q1), (.ref o0)])) _
    refine st2 _ ?_
    exact kt
  obtain ⟨fs, hr, hrun, hended, hW, hsame⟩ := X2.leave (v := none) (fun _ => rfl)
  refine ⟨_, _, pre0 _ (K5 _ ?_), hrun, hended, _, _, rfl, ?_, ⟨_, rfl⟩, hW, hsame.mono (by decide) (by decide)⟩
  · show Steps p.tables e below (T2.setTop (mkF m 9 #[.val (.ref o0), .val (.long q1), .second] [])) _
    exact X2.returnOut hx Bd.returns (hb hby d2_9) hr
  · show Q2 Z o0 q1 u h0 n0 _ T2.heap _
    rw [e2]
    exact ⟨rfl, N2, KP2, G4⟩
def m0 (w : Int64) : Int64 := w + (-7046029254386353131 : Int64)
theorem ef_5 (m : MethodId) (x0 : Addr) : entryFrame m #[(.ref x0)] 3 = mkF m 0 #[.val (.ref x0), .unset, .unset] [] := by first | (simp [entryFrame, mkF, argsToLocals, Value.category]; done) | rfl
theorem d5_0 : decode prog_13_method_2_code 0 = .ok (.aload_n 0, 1) := by decide +kernel
theorem d5_1 : decode prog_13_method_2_code 1 = .ok (.dup, 1) := by decide +kernel
theorem d5_2 : decode prog_13_method_2_code 2 = .ok (.getfield 7, 3) := by decide +kernel
theorem d5_5 : decode prog_13_method_2_code 5 = .ok (.ldc2_w 13, 3) := by decide +kernel
theorem d5_8 : decode prog_13_method_2_code 8 = .ok (.ladd, 1) := by decide +kernel
theorem d5_9 : decode prog_13_method_2_code 9 = .ok (.putfield 7, 3) := by decide +kernel
theorem d5_12 : decode prog_13_method_2_code 12 = .ok (.aload_n 0, 1) := by decide +kernel
theorem d5_13 : decode prog_13_method_2_code 13 = .ok (.getfield 7, 3) := by decide +kernel
theorem d5_16 : decode prog_13_method_2_code 16 = .ok (.lstore_n 1, 1) := by decide +kernel
theorem d5_17 : decode prog_13_method_2_code 17 = .ok (.lload_n 1, 1) := by decide +kernel
theorem d5_18 : decode prog_13_method_2_code 18 = .ok (.lload_n 1, 1) := by decide +kernel
theorem d5_19 : decode prog_13_method_2_code 19 = .ok (.bipush 30, 2) := by decide +kernel
theorem d5_21 : decode prog_13_method_2_code 21 = .ok (.lushr, 1) := by decide +kernel
theorem d5_22 : decode prog_13_method_2_code 22 = .ok (.lxor, 1) := by decide +kernel
theorem d5_23 : decode prog_13_method_2_code 23 = .ok (.ldc2_w 15, 3) := by decide +kernel
theorem d5_26 : decode prog_13_method_2_code 26 = .ok (.lmul, 1) := by decide +kernel
theorem d5_27 : decode prog_13_method_2_code 27 = .ok (.lstore_n 1, 1) := by decide +kernel
def m1 (w : Int64) : Int64 := (((w + (-7046029254386353131 : Int64)) ^^^ (((w + (-7046029254386353131 : Int64)).toUInt64 >>> ((30 : Int32) &&& 0x3f).toInt64.toUInt64).toInt64)) * (-4658895280553007687 : Int64))
theorem d5_28 : decode prog_13_method_2_code 28 = .ok (.lload_n 1, 1) := by decide +kernel
theorem d5_29 : decode prog_13_method_2_code 29 = .ok (.lload_n 1, 1) := by decide +kernel
theorem d5_30 : decode prog_13_method_2_code 30 = .ok (.bipush 27, 2) := by decide +kernel
theorem d5_32 : decode prog_13_method_2_code 32 = .ok (.lushr, 1) := by decide +kernel
theorem d5_33 : decode prog_13_method_2_code 33 = .ok (.lxor, 1) := by decide +kernel
theorem d5_34 : decode prog_13_method_2_code 34 = .ok (.ldc2_w 17, 3) := by decide +kernel
theorem d5_37 : decode prog_13_method_2_code 37 = .ok (.lmul, 1) := by decide +kernel
theorem d5_38 : decode prog_13_method_2_code 38 = .ok (.lstore_n 1, 1) := by decide +kernel
def m2 (w : Int64) : Int64 := (((m1 w) ^^^ (((m1 w).toUInt64 >>> ((27 : Int32) &&& 0x3f).toInt64.toUInt64).toInt64)) * (-7723592293110705685 : Int64))
theorem d5_39 : decode prog_13_method_2_code 39 = .ok (.lload_n 1, 1) := by decide +kernel
theorem d5_40 : decode prog_13_method_2_code 40 = .ok (.lload_n 1, 1) := by decide +kernel
theorem d5_41 : decode prog_13_method_2_code 41 = .ok (.bipush 31, 2) := by decide +kernel
theorem d5_43 : decode prog_13_method_2_code 43 = .ok (.lushr, 1) := by decide +kernel
theorem d5_44 : decode prog_13_method_2_code 44 = .ok (.lxor, 1) := by decide +kernel
theorem d5_45 : decode prog_13_method_2_code 45 = .ok (.lreturn, 1) := by decide +kernel
def m3 (w : Int64) : Int64 := ((m2 w) ^^^ (((m2 w).toUInt64 >>> ((31 : Int32) &&& 0x3f).toInt64.toUInt64).toInt64))
def Q5 (Z : State) (o0 : Addr) (w : Int64) (h0 : Heap) (n0 : Nat) (v : Option Value) (h : Heap) (L : List Loc) : Prop := v = some (.long (m3 w)) ∧ Fr n0 L ∧ Keep h0 h [o0] ∧ Fld Z h o0 "com/example/moonclaim/moonclaim/engine/Rng" "state" "J" (.long (m0 w))
set_option maxRecDepth 65536 in
set_option maxHeartbeats 40000000 in
theorem rm5 (l : Launch) (Z : State) (a0 : Array Value) (hw : ∀ d ∈ tables_1, d.before a0 Z = true) (ws : List Jvm.Cond) (o0 : Addr) (w : Int64) (h0 : Heap) (n0 : Nat) (Z0 : n0 ≤ h0.size) (F1 : Fld Z h0 o0 "com/example/moonclaim/moonclaim/engine/Rng" "state" "J" (.long w)) (E1 : Exa Z h0 o0 "com/example/moonclaim/moonclaim/engine/Rng") (g1 : n0 ≤ o0) :
    MetFree l (⟨"com/example/moonclaim/moonclaim/engine/Rng", "nextLong", "()J"⟩ : MethodName) (head1 (Jvm.Cond.code (⟨"com/example/moonclaim/moonclaim/engine/Rng", "nextLong", "()J"⟩ : MethodName) prog_13_method_2_code 3 (some .long) :: ws) ({ frames := 0, cells := 0, slots := 0, locals := 0 } : Room)) (fun a U => a = #[(.ref o0)] ∧ Z.Warmed39 U.vm ∧ U.heap = h0) (fun _ _ _ _ _ => True) (fun _ U o U' => ∃ v L, o = .returned v ∧ Q5 Z o0 w h0 n0 v U'.heap L ∧ FrameEnd U o U' L ({ frames := 0, cells := 0, slots := 0, locals := 0 } : Room).cells ({ frames := 0, cells := 0, slots := 0, locals := 0 } : Room).slots) := by
  refine MetFree.of_bodySF (plainFor_of_name pn_0) hisR ?_
  intro p e s m args below meth c s₁ Bd hml0 hP hK
  obtain ⟨rfl, hZ, hh⟩ := hP
  have hx := Bd.exec
  have hby := Bd.bytes
  have hml : c.maxLocals = 3 := hml0
  have hown : s.vm.findClass "com/example/moonclaim/moonclaim/engine/Rng" = some m.cls := findClass_of_methodNamed Bd.named
  have hnm := (name_of_methodNamed Bd.named Bd.method).1
  have X0 : Stand p l e ({ frames := 0, cells := 0, slots := 0, locals := 0 } : Room) s m #[(.ref o0)] below meth c s₁ [] 0 0 := Stand.of_body Bd
  have e0 : s₁.heap = h0 := by rw [← hh, Bd.state]; rfl
  have pre0 : ∀ t, Steps p.tables e below (s₁.setTop (mkF m 0 #[.val (.ref o0), .unset, .unset] [])) t → Steps p.tables e below (s₁.setTop (entryFrame m #[(.ref o0)] 3)) t := fun t k => castTop (ef_5 m o0) k
  have N0 := Fr.nil n0
  have KP0 : Keep h0 h0 [o0] := Keep.refl _ _
  obtain ⟨T1, X1, e1, st1⟩ := getF X0 hx hZ hown (host := "") (Or.inl (hw _ (List.mem_of_getElem? (i := 14) rfl))) Via.refl e0 F1 (g := (mkF m 2 #[.val (.ref o0), .unset, .unset] [(.ref o0), (.ref o0)])) rfl rfl (hb hby d5_2)
  obtain ⟨T2, h2, X2, e2, W2, st2⟩ := putF X1 hx hZ hown (host := "") (Or.inl (hw _ (List.mem_of_getElem? (i := 14) rfl))) Via.refl e1 F1 E1 (Or.inl (hw _ (List.mem_of_getElem? (i := 15) rfl))) (hw _ (List.mem_of_getElem? (i := 6) rfl)) (ty := .long) (by decide) rfl rfl (g := (mkF m 9 #[.val (.ref o0), .unset, .unset] [(.long (w + (-7046029254386353131 : Int64))), (.ref o0)])) rfl rfl (hb hby d5_9)
  have G3 : Exa Z h2 o0 "com/example/moonclaim/moonclaim/engine/Rng" := E1.wr W2
  have G4 : Fld Z h2 o0 "com/example/moonclaim/moonclaim/engine/Rng" "state" "J" (.long (w + (-7046029254386353131 : Int64))) := F1.same W2
  have Z2 : n0 ≤ h2.size := Nat.le_trans Z0 (Keep.of_wr W2).1
  have N2 := Fr.snoc X2 N0 g1
  have KP2 : Keep h0 h2 [o0] := KP0.wr W2 (Or.inl (List.mem_of_getElem? (i := 0) rfl))
  obtain ⟨T5, X5, e5, st5⟩ := getF X2 hx hZ hown (host := "") (Or.inl (hw _ (List.mem_of_getElem? (i := 14) rfl))) Via.refl e2 G4 (g := (mkF m 13 #[.val (.ref o0), .unset, .unset] [(.ref o0)])) rfl rfl (hb hby d5_13)
  have K6 : ∀ t, Steps p.tables e below (T5.setTop (mkF m 45 #[.val (.ref o0), .val (.long (m2 w)), .second] [(.long (m3 w))])) t → Steps p.tables e below (s₁.setTop (mkF m 0 #[.val (.ref o0), .unset, .unset] [])) t := by
    intro t kt
    show Steps p.tables e below (s₁.setTop (mkF m 0 #[.val (.ref o0), .unset, .unset] [])) _
    refine XS.aloadN X0.here hx rfl (hb hby d5_0) rfl rfl ?_
    show Steps p.tables e below (s₁.setTop (mkF m 1 #[.val (.ref o0), .unset, .unset] [(.ref o0)])) _
    refine XS.dup X0.here hx rfl (hb hby d5_1) rfl rfl ?_
    show Steps p.tables e below (s₁.setTop (mkF m 2 #[.val (.ref o0), .unset, .unset] [(.ref o0), (.ref o0)])) _
    refine st1 _ ?_
    show Steps p.tables e below (T1.setTop (mkF m 5 #[.val (.ref o0), .unset, .unset] [(.long w), (.ref o0)])) _
    refine X1.ldc2Long hx hown (mvT hZ (hw _ (List.mem_of_getElem? (i := 26) rfl))) (g := (mkF m 5 #[.val (.ref o0), .unset, .unset] [(.long w), (.ref o0)])) rfl (hb hby d5_5) _ ?_
    show Steps p.tables e below (T1.setTop (mkF m 8 #[.val (.ref o0), .unset, .unset] [(.long (-7046029254386353131 : Int64)), (.long w), (.ref o0)])) _
    refine XS.ladd X1.here hx rfl (hb hby d5_8) rfl ?_
    show Steps p.tables e below (T1.setTop (mkF m 9 #[.val (.ref o0), .unset, .unset] [(.long (w + (-7046029254386353131 : Int64))), (.ref o0)])) _
    refine st2 _ ?_
    show Steps p.tables e below (T2.setTop (mkF m 12 #[.val (.ref o0), .unset, .unset] [])) _
    refine XS.aloadN X2.here hx rfl (hb hby d5_12) rfl rfl ?_
    show Steps p.tables e below (T2.setTop (mkF m 13 #[.val (.ref o0), .unset, .unset] [(.ref o0)])) _
    refine st5 _ ?_
    show Steps p.tables e below (T5.setTop (mkF m 16 #[.val (.ref o0), .unset, .unset] [(.long (w + (-7046029254386353131 : Int64)))])) _
    refine XS.lstoreN X5.here hx rfl (hb hby d5_16) rfl (l' := #[.val (.ref o0), .val (.long (w + (-7046029254386353131 : Int64))), .second]) rfl ?_
    show Steps p.tables e below (T5.setTop (mkF m 17 #[.val (.ref o0), .val (.long (w + (-7046029254386353131 : Int64))), .second] [])) _
    refine XS.lloadN X5.here hx rfl (hb hby d5_17) rfl ?_
    show Steps p.tables e below (T5.setTop (mkF m 18 #[.val (.ref o0), .val (.long (w + (-7046029254386353131 : Int64))), .second] [(.long (w + (-7046029254386353131 : Int64)))])) _
    refine XS.lloadN X5.here hx rfl (hb hby d5_18) rfl ?_
    show Steps p.tables e below (T5.setTop (mkF m 19 #[.val (.ref o0), .val (.long (w + (-7046029254386353131 : Int64))), .second] [(.long (w + (-7046029254386353131 : Int64))), (.long (w + (-7046029254386353131 : Int64)))])) _
    refine XS.bipush X5.here hx rfl (hb hby d5_19) ?_
    show Steps p.tables e below (T5.setTop (mkF m 21 #[.val (.ref o0), .val (.long (w + (-7046029254386353131 : Int64))), .second] [(.int (30 : Int32)), (.long (w + (-7046029254386353131 : Int64))), (.long (w + (-7046029254386353131 : Int64)))])) _
    refine XS.lushr X5.here hx rfl (hb hby d5_21) rfl ?_
    show Steps p.tables e below (T5.setTop (mkF m 22 #[.val (.ref o0), .val (.long (w + (-7046029254386353131 : Int64))), .second] [(.long (((w + (-7046029254386353131 : Int64)).toUInt64 >>> ((30 : Int32) &&& 0x3f).toInt64.toUInt64).toInt64)), (.long (w + (-7046029254386353131 : Int64)))])) _
    refine XS.lxor X5.here hx rfl (hb hby d5_22) rfl ?_
    show Steps p.tables e below (T5.setTop (mkF m 23 #[.val (.ref o0), .val (.long (w + (-7046029254386353131 : Int64))), .second] [(.long ((w + (-7046029254386353131 : Int64)) ^^^ (((w + (-7046029254386353131 : Int64)).toUInt64 >>> ((30 : Int32) &&& 0x3f).toInt64.toUInt64).toInt64)))])) _
    refine X5.ldc2Long hx hown (mvT hZ (hw _ (List.mem_of_getElem? (i := 27) rfl))) (g := (mkF m 23 #[.val (.ref o0), .val (.long (w + (-7046029254386353131 : Int64))), .second] [(.long ((w + (-7046029254386353131 : Int64)) ^^^ (((w + (-7046029254386353131 : Int64)).toUInt64 >>> ((30 : Int32) &&& 0x3f).toInt64.toUInt64).toInt64)))])) rfl (hb hby d5_23) _ ?_
    show Steps p.tables e below (T5.setTop (mkF m 26 #[.val (.ref o0), .val (.long (w + (-7046029254386353131 : Int64))), .second] [(.long (-4658895280553007687 : Int64)), (.long ((w + (-7046029254386353131 : Int64)) ^^^ (((w + (-7046029254386353131 : Int64)).toUInt64 >>> ((30 : Int32) &&& 0x3f).toInt64.toUInt64).toInt64)))])) _
    refine XS.lmul X5.here hx rfl (hb hby d5_26) rfl ?_
    show Steps p.tables e below (T5.setTop (mkF m 27 #[.val (.ref o0), .val (.long (w + (-7046029254386353131 : Int64))), .second] [(.long (((w + (-7046029254386353131 : Int64)) ^^^ (((w + (-7046029254386353131 : Int64)).toUInt64 >>> ((30 : Int32) &&& 0x3f).toInt64.toUInt64).toInt64)) * (-4658895280553007687 : Int64)))])) _
    refine XS.lstoreN X5.here hx rfl (hb hby d5_27) rfl (l' := #[.val (.ref o0), .val (.long (m1 w)), .second]) rfl ?_
    show Steps p.tables e below (T5.setTop (mkF m 28 #[.val (.ref o0), .val (.long (m1 w)), .second] [])) _
    refine XS.lloadN X5.here hx rfl (hb hby d5_28) rfl ?_
    show Steps p.tables e below (T5.setTop (mkF m 29 #[.val (.ref o0), .val (.long (m1 w)), .second] [(.long (m1 w))])) _
    refine XS.lloadN X5.here hx rfl (hb hby d5_29) rfl ?_
    show Steps p.tables e below (T5.setTop (mkF m 30 #[.val (.ref o0), .val (.long (m1 w)), .second] [(.long (m1 w)), (.long (m1 w))])) _
    refine XS.bipush X5.here hx rfl (hb hby d5_30) ?_
    show Steps p.tables e below (T5.setTop (mkF m 32 #[.val (.ref o0), .val (.long (m1 w)), .second] [(.int (27 : Int32)), (.long (m1 w)), (.long (m1 w))])) _
    refine XS.lushr X5.here hx rfl (hb hby d5_32) rfl ?_
    show Steps p.tables e below (T5.setTop (mkF m 33 #[.val (.ref o0), .val (.long (m1 w)), .second] [(.long (((m1 w).toUInt64 >>> ((27 : Int32) &&& 0x3f).toInt64.toUInt64).toInt64)), (.long (m1 w))])) _
    refine XS.lxor X5.here hx rfl (hb hby d5_33) rfl ?_
    show Steps p.tables e below (T5.setTop (mkF m 34 #[.val (.ref o0), .val (.long (m1 w)), .second] [(.long ((m1 w) ^^^ (((m1 w).toUInt64 >>> ((27 : Int32) &&& 0x3f).toInt64.toUInt64).toInt64)))])) _
    refine X5.ldc2Long hx hown (mvT hZ (hw _ (List.mem_of_getElem? (i := 28) rfl))) (g := (mkF m 34 #[.val (.ref o0), .val (.long (m1 w)), .second] [(.long ((m1 w) ^^^ (((m1 w).toUInt64 >>> ((27 : Int32) &&& 0x3f).toInt64.toUInt64).toInt64)))])) rfl (hb hby d5_34) _ ?_
    show Steps p.tables e below (T5.setTop (mkF m 37 #[.val (.ref o0), .val (.long (m1 w)), .second] [(.long (-7723592293110705685 : Int64)), (.long ((m1 w) ^^^ (((m1 w).toUInt64 >>> ((27 : Int32) &&& 0x3f).toInt64.toUInt64).toInt64)))])) _
    refine XS.lmul X5.here hx rfl (hb hby d5_37) rfl ?_
    show Steps p.tables e below (T5.setTop (mkF m 38 #[.val (.ref o0), .val (.long (m1 w)), .second] [(.long (((m1 w) ^^^ (((m1 w).toUInt64 >>> ((27 : Int32) &&& 0x3f).toInt64.toUInt64).toInt64)) * (-7723592293110705685 : Int64)))])) _
    refine XS.lstoreN X5.here hx rfl (hb hby d5_38) rfl (l' := #[.val (.ref o0), .val (.long (m2 w)), .second]) rfl ?_
    show Steps p.tables e below (T5.setTop (mkF m 39 #[.val (.ref o0), .val (.long (m2 w)), .second] [])) _
    refine XS.lloadN X5.here hx rfl (hb hby d5_39) rfl ?_
    show Steps p.tables e below (T5.setTop (mkF m 40 #[.val (.ref o0), .val (.long (m2 w)), .second] [(.long (m2 w))])) _
    refine XS.lloadN X5.here hx rfl (hb hby d5_40) rfl ?_
    show Steps p.tables e below (T5.setTop (mkF m 41 #[.val (.ref o0), .val (.long (m2 w)), .second] [(.long (m2 w)), (.long (m2 w))])) _
    refine XS.bipush X5.here hx rfl (hb hby d5_41) ?_
    show Steps p.tables e below (T5.setTop (mkF m 43 #[.val (.ref o0), .val (.long (m2 w)), .second] [(.int (31 : Int32)), (.long (m2 w)), (.long (m2 w))])) _
    refine XS.lushr X5.here hx rfl (hb hby d5_43) rfl ?_
    show Steps p.tables e below (T5.setTop (mkF m 44 #[.val (.ref o0), .val (.long (m2 w)), .second] [(.long (((m2 w).toUInt64 >>> ((31 : Int32) &&& 0x3f).toInt64.toUInt64).toInt64)), (.long (m2 w))])) _
    refine XS.lxor X5.here hx rfl (hb hby d5_44) rfl ?_
    exact kt
  obtain ⟨fs, hr, hrun, hended, hW, hsame⟩ := X5.leave (v := some (.long (m3 w))) (fun h => by rw [Bd.returns] at h; cases h)
  refine ⟨_, _, pre0 _ (K6 _ ?_), hrun, hended, _, _, rfl, ?_, ⟨_, rfl⟩, hW, hsame.mono (by decide) (by decide)⟩
  · show Steps p.tables e below (T5.setTop (mkF m 45 #[.val (.ref o0), .val (.long (m2 w)), .second] [(.long (m3 w))])) _
    exact retOut X5 hx Bd.returns rfl (Or.inr (Or.inl ⟨rfl, rfl, _, rfl⟩)) (hb hby d5_45) hr
  · show Q5 Z o0 w h0 n0 _ T5.heap _
    rw [e5]
    exact ⟨rfl, N2, KP2, G4⟩
theorem ef_6 (m : MethodId) (x0 : Int64) (x1 : Int64) (x2 : Int32) : entryFrame m #[(.long x0), (.long x1), (.int x2)] 7 = mkF m 0 #[.val (.long x0), .second, .val (.long x1), .second, .val (.int x2), .unset, .unset] [] := by first | (simp [entryFrame, mkF, argsToLocals, Value.category]; done) | rfl
theorem pn_1 : plainName "com/example/moonclaim/moonclaim/engine/RngBelowPinLaw" = true := by first | (simp [plainName, overriddenIn]; done) | decide +kernel
theorem d6_0 : decode method_2_code 0 = .ok (.ldc2_w 7, 3) := by decide +kernel
theorem d6_3 : decode method_2_code 3 = .ok (.iload 4, 2) := by decide +kernel
theorem d6_5 : decode method_2_code 5 = .ok (.i2l, 1) := by decide +kernel
theorem d6_6 : decode method_2_code 6 = .ok (.lconst 1, 1) := by decide +kernel
theorem d6_7 : decode method_2_code 7 = .ok (.lsub, 1) := by decide +kernel
theorem d6_8 : decode method_2_code 8 = .ok (.lsub, 1) := by decide +kernel
theorem d6_9 : decode method_2_code 9 = .ok (.lstore 5, 2) := by decide +kernel
theorem d6_11 : decode method_2_code 11 = .ok (.lload_n 0, 1) := by decide +kernel
theorem d6_12 : decode method_2_code 12 = .ok (.lload_n 2, 1) := by decide +kernel
theorem d6_13 : decode method_2_code 13 = .ok (.lsub, 1) := by decide +kernel
theorem d6_14 : decode method_2_code 14 = .ok (.lload 5, 2) := by decide +kernel
theorem d6_16 : decode method_2_code 16 = .ok (.lcmp, 1) := by decide +kernel
theorem d6_17 : decode method_2_code 17 = .ok (.ifCond .gt 7, 3) := by decide +kernel
theorem d6_24 : decode method_2_code 24 = .ok (.iconst 0, 1) := by decide +kernel
theorem d6_25 : decode method_2_code 25 = .ok (.ireturn, 1) := by decide +kernel
theorem d6_20 : decode method_2_code 20 = .ok (.iconst 1, 1) := by decide +kernel
theorem d6_21 : decode method_2_code 21 = .ok (.goto 4, 3) := by decide +kernel
def f6 (q0 : Int64) (q1 : Int64) (p2 : Int32) : Int32 := if ((9223372036854775807 : Int64) - ((p2.toInt64) - (1 : Int64))) < (q0 - q1) then (0 : Int32)
  else (1 : Int32)
def Q6 (Z : State) (q0 : Int64) (q1 : Int64) (p2 : Int32)  (h0 : Heap) (v : Option Value) (h : Heap) (L : List Loc) : Prop := v = some (.int (f6 q0 q1 p2)) ∧ L = [] ∧ h = h0
set_option maxRecDepth 65536 in
set_option maxHeartbeats 40000000 in
theorem rm6 (l : Launch) (Z : State) (a0 : Array Value) (hw : ∀ d ∈ tables_1, d.before a0 Z = true) (ws : List Jvm.Cond) (q0 : Int64) (q1 : Int64) (p2 : Int32)  (h0 : Heap)  :
    MetFree l (⟨"com/example/moonclaim/moonclaim/engine/RngBelowPinLaw", "complete", "(JJI)Z"⟩ : MethodName) (head1 (Jvm.Cond.code (⟨"com/example/moonclaim/moonclaim/engine/RngBelowPinLaw", "complete", "(JJI)Z"⟩ : MethodName) method_2_code 7 (some .boolean) :: ws) ({ frames := 0, cells := 0, slots := 0, locals := 0 } : Room)) (fun a U => a = #[(.long q0), (.long q1), (.int p2)] ∧ Z.Warmed39 U.vm ∧ U.heap = h0) (fun _ _ _ _ _ => True) (fun _ U o U' => ∃ v L, o = .returned v ∧ Q6 Z q0 q1 p2  h0 v U'.heap L ∧ FrameEnd U o U' L ({ frames := 0, cells := 0, slots := 0, locals := 0 } : Room).cells ({ frames := 0, cells := 0, slots := 0, locals := 0 } : Room).slots) := by
  refine MetFree.of_bodySF (plainFor_of_name pn_1) hisR ?_
  intro p e s m args below meth c s₁ Bd hml0 hP hK
  obtain ⟨rfl, hZ, hh⟩ := hP
  have hx := Bd.exec
  have hby := Bd.bytes
  have hml : c.maxLocals = 7 := hml0
  have hown : s.vm.findClass "com/example/moonclaim/moonclaim/engine/RngBelowPinLaw" = some m.cls := findClass_of_methodNamed Bd.named
  have hnm := (name_of_methodNamed Bd.named Bd.method).1
  have X0 : Stand p l e ({ frames := 0, cells := 0, slots := 0, locals := 0 } : Room) s m #[(.long q0), (.long q1), (.int p2)] below meth c s₁ [] 0 0 := Stand.of_body Bd
  have e0 : s₁.heap = h0 := by rw [← hh, Bd.state]; rfl
  have pre0 : ∀ t, Steps p.tables e below (s₁.setTop (mkF m 0 #[.val (.long q0), .second, .val (.long q1), .second, .val (.int p2), .unset, .unset] [])) t → Steps p.tables e below (s₁.setTop (entryFrame m #[(.long q0), (.long q1), (.int p2)] 7)) t := fun t k => castTop (ef_6 m q0 q1 p2) k
  have K1 : ∀ t, Steps p.tables e below (s₁.setTop (mkF m 17 #[.val (.long q0), .second, .val (.long q1), .second, .val (.int p2), .val (.long ((9223372036854775807 : Int64) - ((p2.toInt64) - (1 : Int64)))), .second] [(.int (lcmpW (q0 - q1) ((9223372036854775807 : Int64) - ((p2.toInt64) - (1 : Int64)))))])) t → Steps p.tables e below (s₁.setTop (mkF m 0 #[.val (.long q0), .second, .val (.long q1), .second, .val (.int p2), .unset, .unset] [])) t := by
    intro t kt
    show Steps p.tables e below (s₁.setTop (mkF m 0 #[.val (.long q0), .second, .val (.long q1), .second, .val (.int p2), .unset, .unset] [])) _
    refine X0.ldc2Long hx hown (mvT hZ (hw _ (List.mem_of_getElem? (i := 34) rfl))) (g := (mkF m 0 #[.val (.long q0), .second, .val (.long q1), .second, .val (.int p2), .unset, .unset] [])) rfl (hb hby d6_0) _ ?_
    show Steps p.tables e below (s₁.setTop (mkF m 3 #[.val (.long q0), .second, .val (.long q1), .second, .val (.int p2), .unset, .unset] [(.long (9223372036854775807 : Int64))])) _
    refine XS.iload X0.here hx rfl (hb hby d6_3) rfl ?_
    show Steps p.tables e below (s₁.setTop (mkF m 5 #[.val (.long q0), .second, .val (.long q1), .second, .val (.int p2), .unset, .unset] [(.int p2), (.long (9223372036854775807 : Int64))])) _
    refine XS.i2l X0.here hx rfl (hb hby d6_5) rfl ?_
    show Steps p.tables e below (s₁.setTop (mkF m 6 #[.val (.long q0), .second, .val (.long q1), .second, .val (.int p2), .unset, .unset] [(.long (p2.toInt64)), (.long (9223372036854775807 : Int64))])) _
    refine XS.lconst X0.here hx rfl (hb hby d6_6) ?_
    show Steps p.tables e below (s₁.setTop (mkF m 7 #[.val (.long q0), .second, .val (.long q1), .second, .val (.int p2), .unset, .unset] [(.long (1 : Int64)), (.long (p2.toInt64)), (.long (9223372036854775807 : Int64))])) _
    refine XS.lsub X0.here hx rfl (hb hby d6_7) rfl ?_
    show Steps p.tables e below (s₁.setTop (mkF m 8 #[.val (.long q0), .second, .val (.long q1), .second, .val (.int p2), .unset, .unset] [(.long ((p2.toInt64) - (1 : Int64))), (.long (9223372036854775807 : Int64))])) _
    refine XS.lsub X0.here hx rfl (hb hby d6_8) rfl ?_
    show Steps p.tables e below (s₁.setTop (mkF m 9 #[.val (.long q0), .second, .val (.long q1), .second, .val (.int p2), .unset, .unset] [(.long ((9223372036854775807 : Int64) - ((p2.toInt64) - (1 : Int64))))])) _
    refine XS.lstore X0.here hx rfl (hb hby d6_9) rfl (l' := #[.val (.long q0), .second, .val (.long q1), .second, .val (.int p2), .val (.long ((9223372036854775807 : Int64) - ((p2.toInt64) - (1 : Int64)))), .second]) rfl ?_
    show Steps p.tables e below (s₁.setTop (mkF m 11 #[.val (.long q0), .second, .val (.long q1), .second, .val (.int p2), .val (.long ((9223372036854775807 : Int64) - ((p2.toInt64) - (1 : Int64)))), .second] [])) _
    refine XS.lloadN X0.here hx rfl (hb hby d6_11) rfl ?_
    show Steps p.tables e below (s₁.setTop (mkF m 12 #[.val (.long q0), .second, .val (.long q1), .second, .val (.int p2), .val (.long ((9223372036854775807 : Int64) - ((p2.toInt64) - (1 : Int64)))), .second] [(.long q0)])) _
    refine XS.lloadN X0.here hx rfl (hb hby d6_12) rfl ?_
    show Steps p.tables e below (s₁.setTop (mkF m 13 #[.val (.long q0), .second, .val (.long q1), .second, .val (.int p2), .val (.long ((9223372036854775807 : Int64) - ((p2.toInt64) - (1 : Int64)))), .second] [(.long q1), (.long q0)])) _
    refine XS.lsub X0.here hx rfl (hb hby d6_13) rfl ?_
    show Steps p.tables e below (s₁.setTop (mkF m 14 #[.val (.long q0), .second, .val (.long q1), .second, .val (.int p2), .val (.long ((9223372036854775807 : Int64) - ((p2.toInt64) - (1 : Int64)))), .second] [(.long (q0 - q1))])) _
    refine XS.lload X0.here hx rfl (hb hby d6_14) rfl ?_
    show Steps p.tables e below (s₁.setTop (mkF m 16 #[.val (.long q0), .second, .val (.long q1), .second, .val (.int p2), .val (.long ((9223372036854775807 : Int64) - ((p2.toInt64) - (1 : Int64)))), .second] [(.long ((9223372036854775807 : Int64) - ((p2.toInt64) - (1 : Int64)))), (.long (q0 - q1))])) _
    refine XS.lcmp X0.here hx rfl (hb hby d6_16) rfl ?_
    exact kt
  by_cases hc2 : ((9223372036854775807 : Int64) - ((p2.toInt64) - (1 : Int64))) < (q0 - q1)
  · skip
    have K3 : ∀ t, Steps p.tables e below (s₁.setTop (mkF m 25 #[.val (.long q0), .second, .val (.long q1), .second, .val (.int p2), .val (.long ((9223372036854775807 : Int64) - ((p2.toInt64) - (1 : Int64)))), .second] [(.int (0 : Int32))])) t → Steps p.tables e below (s₁.setTop (mkF m 0 #[.val (.long q0), .second, .val (.long q1), .second, .val (.int p2), .unset, .unset] [])) t := by
      intro t kt
      refine K1 _ ?_
      show Steps p.tables e below (s₁.setTop (mkF m 17 #[.val (.long q0), .second, .val (.long q1), .second, .val (.int p2), .val (.long ((9223372036854775807 : Int64) - ((p2.toInt64) - (1 : Int64)))), .second] [(.int (lcmpW (q0 - q1) ((9223372036854775807 : Int64) - ((p2.toInt64) - (1 : Int64)))))])) _
      refine XS.ifYes X0.here hx rfl (pc0 := 17) (pc' := 24) rfl (hb hby d6_17) rfl ((if0 _ _).trans (tlt ((lw_gt _ _).mpr hc2)).2.2.1) (by decide) (by decide) ?_
      show Steps p.tables e below (s₁.setTop (mkF m 24 #[.val (.long q0), .second, .val (.long q1), .second, .val (.int p2), .val (.long ((9223372036854775807 : Int64) - ((p2.toInt64) - (1 : Int64)))), .second] [])) _
      refine XS.iconst X0.here hx rfl (hb hby d6_24) ?_
      exact kt
    have hv : f6 q0 q1 p2 = (0 : Int32) := by simp only [f6, if_pos hc2]
    obtain ⟨fs, hr, hrun, hended, hW, hsame⟩ := X0.leave (v := some (.int (0 : Int32))) (fun h => by rw [Bd.returns] at h; cases h)
    refine ⟨_, _, pre0 _ (K3 _ ?_), hrun, hended, _, _, rfl, ?_, ⟨_, rfl⟩, hW, hsame.mono (by decide) (by decide)⟩
    · show Steps p.tables e below (s₁.setTop (mkF m 25 #[.val (.long q0), .second, .val (.long q1), .second, .val (.int p2), .val (.long ((9223372036854775807 : Int64) - ((p2.toInt64) - (1 : Int64)))), .second] [(.int (0 : Int32))])) _
      exact retN X0 hx (t := .boolean) Bd.returns (by simp) (hb hby d6_25) hr
    · show Q6 Z q0 q1 p2  h0 _ s₁.heap _
      rw [e0]
      exact ⟨by rw [hv], rfl, rfl⟩
  · skip
    have K4 : ∀ t, Steps p.tables e below (s₁.setTop (mkF m 25 #[.val (.long q0), .second, .val (.long q1), .second, .val (.int p2), .val (.long ((9223372036854775807 : Int64) - ((p2.toInt64) - (1 : Int64)))), .second] [(.int (1 : Int32))])) t → Steps p.tables e below (s₁.setTop (mkF m 0 #[.val (.long q0), .second, .val (.long q1), .second, .val (.int p2), .unset, .unset] [])) t := by
      intro t kt
      refine K1 _ ?_
      show Steps p.tables e below (s₁.setTop (mkF m 17 #[.val (.long q0), .second, .val (.long q1), .second, .val (.int p2), .val (.long ((9223372036854775807 : Int64) - ((p2.toInt64) - (1 : Int64)))), .second] [(.int (lcmpW (q0 - q1) ((9223372036854775807 : Int64) - ((p2.toInt64) - (1 : Int64)))))])) _
      refine XS.ifNo X0.here hx rfl (hb hby d6_17) rfl ((if0 _ _).trans (flt (mt (lw_gt _ _).mp hc2)).2.2.1) ?_
      show Steps p.tables e below (s₁.setTop (mkF m 20 #[.val (.long q0), .second, .val (.long q1), .second, .val (.int p2), .val (.long ((9223372036854775807 : Int64) - ((p2.toInt64) - (1 : Int64)))), .second] [])) _
      refine XS.iconst X0.here hx rfl (hb hby d6_20) ?_
      show Steps p.tables e below (s₁.setTop (mkF m 21 #[.val (.long q0), .second, .val (.long q1), .second, .val (.int p2), .val (.long ((9223372036854775807 : Int64) - ((p2.toInt64) - (1 : Int64)))), .second] [(.int (1 : Int32))])) _
      refine XS.goto X0.here hx rfl (pc0 := 21) (pc' := 25) rfl (hb hby d6_21) (by decide) (by decide) ?_
      exact kt
    have hv : f6 q0 q1 p2 = (1 : Int32) := by simp only [f6, if_neg hc2]
    obtain ⟨fs, hr, hrun, hended, hW, hsame⟩ := X0.leave (v := some (.int (1 : Int32))) (fun h => by rw [Bd.returns] at h; cases h)
    refine ⟨_, _, pre0 _ (K4 _ ?_), hrun, hended, _, _, rfl, ?_, ⟨_, rfl⟩, hW, hsame.mono (by decide) (by decide)⟩
    · show Steps p.tables e below (s₁.setTop (mkF m 25 #[.val (.long q0), .second, .val (.long q1), .second, .val (.int p2), .val (.long ((9223372036854775807 : Int64) - ((p2.toInt64) - (1 : Int64)))), .second] [(.int (1 : Int32))])) _
      exact retN X0 hx (t := .boolean) Bd.returns (by simp) (hb hby d6_25) hr
    · show Q6 Z q0 q1 p2  h0 _ s₁.heap _
      rw [e0]
      exact ⟨by rw [hv], rfl, rfl⟩
-- BY HAND: two places that hold nothing, or a long
def own_two (s t : Slot) : Prop := (s = .unset ∧ t = .unset) ∨ ∃ y, s = .val (.long y) ∧ t = .second
theorem own_st2 {a : Addr} {b : Int32} {s2 s3 s4 s5 : Slot} {x : Int64} (h : own_two s2 s3) : storeLocals #[.val (.ref a), .val (.int b), s2, s3, s4, s5] 2 (.long x) = some #[.val (.ref a), .val (.int b), .val (.long x), .second, s4, s5] := by
  rcases h with ⟨rfl, rfl⟩ | ⟨y, rfl, rfl⟩ <;> rfl
theorem own_st4 {a : Addr} {b : Int32} {s4 s5 : Slot} {x y : Int64} (h : own_two s4 s5) : storeLocals #[.val (.ref a), .val (.int b), .val (.long y), .second, s4, s5] 4 (.long x) = some #[.val (.ref a), .val (.int b), .val (.long y), .second, .val (.long x), .second] := by
  rcases h with ⟨rfl, rfl⟩ | ⟨z, rfl, rfl⟩ <;> rfl
theorem d4_19 : decode prog_13_method_3_code 19 = .ok (.aload_n 0, 1) := by decide +kernel
theorem d4_20 : decode prog_13_method_3_code 20 = .ok (.invokevirtual 28, 3) := by decide +kernel
theorem pd_0 : parseMethodDescriptor "()J" = some ⟨[], some .long⟩ := by decide +kernel
theorem d4_23 : decode prog_13_method_3_code 23 = .ok (.iconst 1, 1) := by decide +kernel
theorem d4_24 : decode prog_13_method_3_code 24 = .ok (.lushr, 1) := by decide +kernel
theorem d4_25 : decode prog_13_method_3_code 25 = .ok (.lstore_n 2, 1) := by decide +kernel
def gbits (w : Int64) : Int64 := (((m3 w).toUInt64 >>> ((1 : Int32) &&& 0x3f).toInt64.toUInt64).toInt64)
theorem d4_26 : decode prog_13_method_3_code 26 = .ok (.lload_n 2, 1) := by decide +kernel
theorem d4_27 : decode prog_13_method_3_code 27 = .ok (.iload_n 1, 1) := by decide +kernel
theorem d4_28 : decode prog_13_method_3_code 28 = .ok (.i2l, 1) := by decide +kernel
theorem d4_29 : decode prog_13_method_3_code 29 = .ok (.lrem, 1) := by decide +kernel
theorem d4_30 : decode prog_13_method_3_code 30 = .ok (.lstore 4, 2) := by decide +kernel
def gval (w : Int64) (p1 : Int32) : Int64 := ((gbits w) - ((gbits w) / (p1.toInt64)) * (p1.toInt64))
theorem d4_32 : decode prog_13_method_3_code 32 = .ok (.lload_n 2, 1) := by decide +kernel
theorem d4_33 : decode prog_13_method_3_code 33 = .ok (.lload 4, 2) := by decide +kernel
theorem d4_35 : decode prog_13_method_3_code 35 = .ok (.lsub, 1) := by decide +kernel
theorem d4_36 : decode prog_13_method_3_code 36 = .ok (.iload_n 1, 1) := by decide +kernel
theorem d4_37 : decode prog_13_method_3_code 37 = .ok (.iconst 1, 1) := by decide +kernel
theorem d4_38 : decode prog_13_method_3_code 38 = .ok (.isub, 1) := by decide +kernel
theorem d4_39 : decode prog_13_method_3_code 39 = .ok (.i2l, 1) := by decide +kernel
theorem d4_40 : decode prog_13_method_3_code 40 = .ok (.ladd, 1) := by decide +kernel
theorem d4_41 : decode prog_13_method_3_code 41 = .ok (.lconst 0, 1) := by decide +kernel
theorem d4_42 : decode prog_13_method_3_code 42 = .ok (.lcmp, 1) := by decide +kernel
theorem d4_43 : decode prog_13_method_3_code 43 = .ok (.ifCond .lt 7, 3) := by decide +kernel
theorem d4_50 : decode prog_13_method_3_code 50 = .ok (.goto (-31), 3) := by decide +kernel
set_option maxRecDepth 65536 in
set_option maxHeartbeats 40000000 in
theorem tnR {p : Program} {l : Launch} {e : Env} {s : State} {m : MethodId} {args : Array Value} {below : List Frame} {meth : Method} {c : Code} {T0 : State} {locs : List Loc} {Z : State} {a0 : Array Value} {h0 : Heap} (o0 : Addr) (p1 : Int32) (w : Int64) (s2 s3 s4 s5 : Slot) (n0 : Nat)
    (X0 : Stand p l e ({ frames := 1, cells := 0, slots := 0, locals := 14 } : Room) s m args below meth c T0 locs 0 0) (hx : p.tables.exec = Jvm.exec) (hZ : Z.Warmed39 s.vm) (hw : ∀ d ∈ tables_1, d.before a0 Z = true) (hby : c.code = prog_13_method_3_code) (hml : c.maxLocals = 6) (hown : s.vm.findClass "com/example/moonclaim/moonclaim/engine/Rng" = some m.cls) (e0 : T0.heap = h0) (N0 : Fr n0 locs) (Z0 : n0 ≤ h0.size) (F1 : Fld Z h0 o0 "com/example/moonclaim/moonclaim/engine/Rng" "state" "J" (.long w)) (E1 : Exa Z h0 o0 "com/example/moonclaim/moonclaim/engine/Rng") (g1 : n0 ≤ o0) (h23 : own_two s2 s3) (h45 : own_two s4 s5) (hnz : p1.toInt64 ≠ 0) (hcd : ((gbits w - gval w p1) + ((p1 - (1 : Int32)).toInt64)) < (0 : Int64)) :
    ∃ (T' : State) (h' : Heap) (locs' : List Loc), Stand p l e ({ frames := 1, cells := 0, slots := 0, locals := 14 } : Room) s m args below meth c T' locs' 0 0 ∧ T'.heap = h' ∧ Fr n0 locs' ∧ n0 ≤ h'.size ∧ Keep h0 h' [o0] ∧ Fld Z h' o0 "com/example/moonclaim/moonclaim/engine/Rng" "state" "J" (.long (m0 w)) ∧ Exa Z h' o0 "com/example/moonclaim/moonclaim/engine/Rng" ∧
      ∀ t, Steps p.tables e below (T'.setTop (mkF m 19 #[.val (.ref o0), .val (.int p1), .val (.long (gbits w)), .second, .val (.long (gval w p1)), .second] [])) t → Steps p.tables e below (T0.setTop (mkF m 19 #[.val (.ref o0), .val (.int p1), s2, s3, s4, s5] [])) t := by
  have KP0 : Keep h0 h0 [o0] := Keep.refl _ _
  obtain ⟨cq1, kq1, q1a, q1b, q1c⟩ := isOf hZ e0 E1
  obtain ⟨_, _, ⟨T1, L1, k1, n1⟩, -, X1, ⟨Lc1, hQ1, l1, y1, z1⟩, st1⟩ := X0.virtualBack hx (y := (⟨"com/example/moonclaim/moonclaim/engine/Rng", "nextLong", "()J"⟩ : MethodName)) (z := (⟨"com/example/moonclaim/moonclaim/engine/Rng", "nextLong", "()J"⟩ : MethodName)) hown (mvT hZ (hw _ (List.mem_of_getElem? (i := 21) rfl))) (mvT hZ (hw _ (List.mem_of_getElem? (i := 22) rfl))) (notFace_of_selects (args := #[]) (mvT hZ (hw _ (List.mem_of_getElem? (i := 24) rfl)))) (mvT hZ (hw _ (List.mem_of_getElem? (i := 24) rfl))) (mvT hZ (hw _ (List.mem_of_getElem? (i := 23) rfl))) (by decide) (backOf (W := 0) (rm5 l Z a0 hw [] o0 w h0 n0 Z0 F1 E1 g1) hZ (hw _ (List.mem_of_getElem? (i := 25) rfl)) (hw _ (List.mem_of_getElem? (i := 7) rfl)) (by decide) (by decide)) q1a q1c (g := (mkF m 20 #[.val (.ref o0), .val (.int p1), s2, s3, s4, s5] [(.ref o0)])) rfl (by rw [hml]; rfl) (Steps.refl _) (argsL := []) (rest := []) (lenOf pd_0 rfl) rfl (by show 2 * 0 + _ ≤ _; exact Nat.le_of_eq rfl) (hb hby d4_20) (fun _ _ => ⟨rfl, e0, (by decide : 0 + 0 ≤ _), (by decide : 0 + 0 ≤ _)⟩)
  dsimp only [Pt.U, Pt.locs, Pt.cells, Pt.slots] at X1 l1 y1 z1 st1 hQ1
  subst l1 y1 z1
  obtain ⟨rfl, N1q, K1q, F1q⟩ := hQ1
  have N1 := Fr.app N0 N1q
  have Z1 : n0 ≤ T1.heap.size := Nat.le_trans Z0 K1q.1
  have G2 : Exa Z T1.heap o0 "com/example/moonclaim/moonclaim/engine/Rng" := E1.keep K1q
  have KP1 : Keep h0 T1.heap [o0] := KP0.trans K1q (allS (Or.inl (List.mem_of_getElem? (i := 0) rfl)) all0)
  have K3 : ∀ t, Steps p.tables e below (T1.setTop (mkF m 19 #[.val (.ref o0), .val (.int p1), .val (.long (gbits w)), .second, .val (.long (gval w p1)), .second] [])) t → Steps p.tables e below (T0.setTop (mkF m 19 #[.val (.ref o0), .val (.int p1), s2, s3, s4, s5] [])) t := by
    intro t kt
    show Steps p.tables e below (T0.setTop (mkF m 19 #[.val (.ref o0), .val (.int p1), s2, s3, s4, s5] [])) _
    refine XS.aloadN X0.here hx rfl (hb hby d4_19) rfl rfl ?_
    show Steps p.tables e below (T0.setTop (mkF m 20 #[.val (.ref o0), .val (.int p1), s2, s3, s4, s5] [(.ref o0)])) _
    refine st1.trans ?_
    show Steps p.tables e below (T1.setTop (mkF m 23 #[.val (.ref o0), .val (.int p1), s2, s3, s4, s5] [(.long (m3 w))])) _
    refine XS.iconst X1.here hx rfl (hb hby d4_23) ?_
    show Steps p.tables e below (T1.setTop (mkF m 24 #[.val (.ref o0), .val (.int p1), s2, s3, s4, s5] [(.int (1 : Int32)), (.long (m3 w))])) _
    refine XS.lushr X1.here hx rfl (hb hby d4_24) rfl ?_
    show Steps p.tables e below (T1.setTop (mkF m 25 #[.val (.ref o0), .val (.int p1), s2, s3, s4, s5] [(.long (((m3 w).toUInt64 >>> ((1 : Int32) &&& 0x3f).toInt64.toUInt64).toInt64))])) _
    refine XS.lstoreN X1.here hx rfl (hb hby d4_25) rfl (l' := #[.val (.ref o0), .val (.int p1), .val (.long (gbits w)), .second, s4, s5]) (own_st2 h23) ?_
    show Steps p.tables e below (T1.setTop (mkF m 26 #[.val (.ref o0), .val (.int p1), .val (.long (gbits w)), .second, s4, s5] [])) _
    refine XS.lloadN X1.here hx rfl (hb hby d4_26) rfl ?_
    show Steps p.tables e below (T1.setTop (mkF m 27 #[.val (.ref o0), .val (.int p1), .val (.long (gbits w)), .second, s4, s5] [(.long (gbits w))])) _
    refine XS.iloadN X1.here hx rfl (hb hby d4_27) rfl ?_
    show Steps p.tables e below (T1.setTop (mkF m 28 #[.val (.ref o0), .val (.int p1), .val (.long (gbits w)), .second, s4, s5] [(.int p1), (.long (gbits w))])) _
    refine XS.i2l X1.here hx rfl (hb hby d4_28) rfl ?_
    show Steps p.tables e below (T1.setTop (mkF m 29 #[.val (.ref o0), .val (.int p1), .val (.long (gbits w)), .second, s4, s5] [(.long (p1.toInt64)), (.long (gbits w))])) _
    refine XS.lrem X1.here hx rfl (hb hby d4_29) rfl hnz ?_
    show Steps p.tables e below (T1.setTop (mkF m 30 #[.val (.ref o0), .val (.int p1), .val (.long (gbits w)), .second, s4, s5] [(.long ((gbits w) - ((gbits w) / (p1.toInt64)) * (p1.toInt64)))])) _
    refine XS.lstore X1.here hx rfl (hb hby d4_30) rfl (l' := #[.val (.ref o0), .val (.int p1), .val (.long (gbits w)), .second, .val (.long (gval w p1)), .second]) (own_st4 h45) ?_
    show Steps p.tables e below (T1.setTop (mkF m 32 #[.val (.ref o0), .val (.int p1), .val (.long (gbits w)), .second, .val (.long (gval w p1)), .second] [])) _
    refine XS.lloadN X1.here hx rfl (hb hby d4_32) rfl ?_
    show Steps p.tables e below (T1.setTop (mkF m 33 #[.val (.ref o0), .val (.int p1), .val (.long (gbits w)), .second, .val (.long (gval w p1)), .second] [(.long (gbits w))])) _
    refine XS.lload X1.here hx rfl (hb hby d4_33) rfl ?_
    show Steps p.tables e below (T1.setTop (mkF m 35 #[.val (.ref o0), .val (.int p1), .val (.long (gbits w)), .second, .val (.long (gval w p1)), .second] [(.long (gval w p1)), (.long (gbits w))])) _
    refine XS.lsub X1.here hx rfl (hb hby d4_35) rfl ?_
    show Steps p.tables e below (T1.setTop (mkF m 36 #[.val (.ref o0), .val (.int p1), .val (.long (gbits w)), .second, .val (.long (gval w p1)), .second] [(.long ((gbits w) - (gval w p1)))])) _
    refine XS.iloadN X1.here hx rfl (hb hby d4_36) rfl ?_
    show Steps p.tables e below (T1.setTop (mkF m 37 #[.val (.ref o0), .val (.int p1), .val (.long (gbits w)), .second, .val (.long (gval w p1)), .second] [(.int p1), (.long ((gbits w) - (gval w p1)))])) _
    refine XS.iconst X1.here hx rfl (hb hby d4_37) ?_
    show Steps p.tables e below (T1.setTop (mkF m 38 #[.val (.ref o0), .val (.int p1), .val (.long (gbits w)), .second, .val (.long (gval w p1)), .second] [(.int (1 : Int32)), (.int p1), (.long ((gbits w) - (gval w p1)))])) _
    refine XS.isub X1.here hx rfl (hb hby d4_38) rfl ?_
    show Steps p.tables e below (T1.setTop (mkF m 39 #[.val (.ref o0), .val (.int p1), .val (.long (gbits w)), .second, .val (.long (gval w p1)), .second] [(.int (p1 - (1 : Int32))), (.long ((gbits w) - (gval w p1)))])) _
    refine XS.i2l X1.here hx rfl (hb hby d4_39) rfl ?_
    show Steps p.tables e below (T1.setTop (mkF m 40 #[.val (.ref o0), .val (.int p1), .val (.long (gbits w)), .second, .val (.long (gval w p1)), .second] [(.long ((p1 - (1 : Int32)).toInt64)), (.long ((gbits w) - (gval w p1)))])) _
    refine XS.ladd X1.here hx rfl (hb hby d4_40) rfl ?_
    show Steps p.tables e below (T1.setTop (mkF m 41 #[.val (.ref o0), .val (.int p1), .val (.long (gbits w)), .second, .val (.long (gval w p1)), .second] [(.long (((gbits w) - (gval w p1)) + ((p1 - (1 : Int32)).toInt64)))])) _
    refine XS.lconst X1.here hx rfl (hb hby d4_41) ?_
    show Steps p.tables e below (T1.setTop (mkF m 42 #[.val (.ref o0), .val (.int p1), .val (.long (gbits w)), .second, .val (.long (gval w p1)), .second] [(.long (0 : Int64)), (.long (((gbits w) - (gval w p1)) + ((p1 - (1 : Int32)).toInt64)))])) _
    refine XS.lcmp X1.here hx rfl (hb hby d4_42) rfl ?_
    show Steps p.tables e below (T1.setTop (mkF m 43 #[.val (.ref o0), .val (.int p1), .val (.long (gbits w)), .second, .val (.long (gval w p1)), .second] [(.int (lcmpW (((gbits w) - (gval w p1)) + ((p1 - (1 : Int32)).toInt64)) (0 : Int64)))])) _
    refine XS.ifYes X1.here hx rfl (pc0 := 43) (pc' := 50) rfl (hb hby d4_43) rfl ((if0 _ _).trans (tlt ((lw_lt _ _).mpr (show (((gbits w) - (gval w p1)) + ((p1 - (1 : Int32)).toInt64)) < (0 : Int64) from hcd))).1) (by decide) (by decide) ?_
    show Steps p.tables e below (T1.setTop (mkF m 50 #[.val (.ref o0), .val (.int p1), .val (.long (gbits w)), .second, .val (.long (gval w p1)), .second] [])) _
    refine XS.goto X1.here hx rfl (pc0 := 50) (pc' := 19) rfl (hb hby d4_50) (by decide) (by decide) ?_
    exact kt
  exact ⟨T1, T1.heap, _, X1, rfl, N1, Z1, KP1, F1q, G2, K3⟩
theorem d4_46 : decode prog_13_method_3_code 46 = .ok (.lload 4, 2) := by decide +kernel
theorem d4_48 : decode prog_13_method_3_code 48 = .ok (.l2i, 1) := by decide +kernel
set_option maxRecDepth 65536 in
set_option maxHeartbeats 40000000 in
theorem tnA {p : Program} {l : Launch} {e : Env} {s : State} {m : MethodId} {args : Array Value} {below : List Frame} {meth : Method} {c : Code} {T0 : State} {locs : List Loc} {Z : State} {a0 : Array Value} {h0 : Heap} (o0 : Addr) (p1 : Int32) (w : Int64) (s2 s3 s4 s5 : Slot) (n0 : Nat)
    (X0 : Stand p l e ({ frames := 1, cells := 0, slots := 0, locals := 14 } : Room) s m args below meth c T0 locs 0 0) (hx : p.tables.exec = Jvm.exec) (hZ : Z.Warmed39 s.vm) (hw : ∀ d ∈ tables_1, d.before a0 Z = true) (hby : c.code = prog_13_method_3_code) (hml : c.maxLocals = 6) (hown : s.vm.findClass "com/example/moonclaim/moonclaim/engine/Rng" = some m.cls) (e0 : T0.heap = h0) (N0 : Fr n0 locs) (Z0 : n0 ≤ h0.size) (F1 : Fld Z h0 o0 "com/example/moonclaim/moonclaim/engine/Rng" "state" "J" (.long w)) (E1 : Exa Z h0 o0 "com/example/moonclaim/moonclaim/engine/Rng") (g1 : n0 ≤ o0) (h23 : own_two s2 s3) (h45 : own_two s4 s5) (hnz : p1.toInt64 ≠ 0) (hcd : ¬ ((gbits w - gval w p1) + ((p1 - (1 : Int32)).toInt64)) < (0 : Int64)) :
    ∃ (T' : State) (h' : Heap) (locs' : List Loc), Stand p l e ({ frames := 1, cells := 0, slots := 0, locals := 14 } : Room) s m args below meth c T' locs' 0 0 ∧ T'.heap = h' ∧ Fr n0 locs' ∧ n0 ≤ h'.size ∧ Keep h0 h' [o0] ∧ Fld Z h' o0 "com/example/moonclaim/moonclaim/engine/Rng" "state" "J" (.long (m0 w)) ∧ Exa Z h' o0 "com/example/moonclaim/moonclaim/engine/Rng" ∧
      ∀ t, Steps p.tables e below (T'.setTop (mkF m 49 #[.val (.ref o0), .val (.int p1), .val (.long (gbits w)), .second, .val (.long (gval w p1)), .second] [(.int ((gval w p1).toInt32))])) t → Steps p.tables e below (T0.setTop (mkF m 19 #[.val (.ref o0), .val (.int p1), s2, s3, s4, s5] [])) t := by
  have KP0 : Keep h0 h0 [o0] := Keep.refl _ _
  obtain ⟨cq1, kq1, q1a, q1b, q1c⟩ := isOf hZ e0 E1
  obtain ⟨_, _, ⟨T1, L1, k1, n1⟩, -, X1, ⟨Lc1, hQ1, l1, y1, z1⟩, st1⟩ := X0.virtualBack hx (y := (⟨"com/example/moonclaim/moonclaim/engine/Rng", "nextLong", "()J"⟩ : MethodName)) (z := (⟨"com/example/moonclaim/moonclaim/engine/Rng", "nextLong", "()J"⟩ : MethodName)) hown (mvT hZ (hw _ (List.mem_of_getElem? (i := 21) rfl))) (mvT hZ (hw _ (List.mem_of_getElem? (i := 22) rfl))) (notFace_of_selects (args := #[]) (mvT hZ (hw _ (List.mem_of_getElem? (i := 24) rfl)))) (mvT hZ (hw _ (List.mem_of_getElem? (i := 24) rfl))) (mvT hZ (hw _ (List.mem_of_getElem? (i := 23) rfl))) (by decide) (backOf (W := 0) (rm5 l Z a0 hw [] o0 w h0 n0 Z0 F1 E1 g1) hZ (hw _ (List.mem_of_getElem? (i := 25) rfl)) (hw _ (List.mem_of_getElem? (i := 7) rfl)) (by decide) (by decide)) q1a q1c (g := (mkF m 20 #[.val (.ref o0), .val (.int p1), s2, s3, s4, s5] [(.ref o0)])) rfl (by rw [hml]; rfl) (Steps.refl _) (argsL := []) (rest := []) (lenOf pd_0 rfl) rfl (by show 2 * 0 + _ ≤ _; exact Nat.le_of_eq rfl) (hb hby d4_20) (fun _ _ => ⟨rfl, e0, (by decide : 0 + 0 ≤ _), (by decide : 0 + 0 ≤ _)⟩)
  dsimp only [Pt.U, Pt.locs, Pt.cells, Pt.slots] at X1 l1 y1 z1 st1 hQ1
  subst l1 y1 z1
  obtain ⟨rfl, N1q, K1q, F1q⟩ := hQ1
  have N1 := Fr.app N0 N1q
  have Z1 : n0 ≤ T1.heap.size := Nat.le_trans Z0 K1q.1
  have G2 : Exa Z T1.heap o0 "com/example/moonclaim/moonclaim/engine/Rng" := E1.keep K1q
  have KP1 : Keep h0 T1.heap [o0] := KP0.trans K1q (allS (Or.inl (List.mem_of_getElem? (i := 0) rfl)) all0)
  have K3 : ∀ t, Steps p.tables e below (T1.setTop (mkF m 49 #[.val (.ref o0), .val (.int p1), .val (.long (gbits w)), .second, .val (.long (gval w p1)), .second] [(.int ((gval w p1).toInt32))])) t → Steps p.tables e below (T0.setTop (mkF m 19 #[.val (.ref o0), .val (.int p1), s2, s3, s4, s5] [])) t := by
    intro t kt
    show Steps p.tables e below (T0.setTop (mkF m 19 #[.val (.ref o0), .val (.int p1), s2, s3, s4, s5] [])) _
    refine XS.aloadN X0.here hx rfl (hb hby d4_19) rfl rfl ?_
    show Steps p.tables e below (T0.setTop (mkF m 20 #[.val (.ref o0), .val (.int p1), s2, s3, s4, s5] [(.ref o0)])) _
    refine st1.trans ?_
    show Steps p.tables e below (T1.setTop (mkF m 23 #[.val (.ref o0), .val (.int p1), s2, s3, s4, s5] [(.long (m3 w))])) _
    refine XS.iconst X1.here hx rfl (hb hby d4_23) ?_
    show Steps p.tables e below (T1.setTop (mkF m 24 #[.val (.ref o0), .val (.int p1), s2, s3, s4, s5] [(.int (1 : Int32)), (.long (m3 w))])) _
    refine XS.lushr X1.here hx rfl (hb hby d4_24) rfl ?_
    show Steps p.tables e below (T1.setTop (mkF m 25 #[.val (.ref o0), .val (.int p1), s2, s3, s4, s5] [(.long (((m3 w).toUInt64 >>> ((1 : Int32) &&& 0x3f).toInt64.toUInt64).toInt64))])) _
    refine XS.lstoreN X1.here hx rfl (hb hby d4_25) rfl (l' := #[.val (.ref o0), .val (.int p1), .val (.long (gbits w)), .second, s4, s5]) (own_st2 h23) ?_
    show Steps p.tables e below (T1.setTop (mkF m 26 #[.val (.ref o0), .val (.int p1), .val (.long (gbits w)), .second, s4, s5] [])) _
    refine XS.lloadN X1.here hx rfl (hb hby d4_26) rfl ?_
    show Steps p.tables e below (T1.setTop (mkF m 27 #[.val (.ref o0), .val (.int p1), .val (.long (gbits w)), .second, s4, s5] [(.long (gbits w))])) _
    refine XS.iloadN X1.here hx rfl (hb hby d4_27) rfl ?_
    show Steps p.tables e below (T1.setTop (mkF m 28 #[.val (.ref o0), .val (.int p1), .val (.long (gbits w)), .second, s4, s5] [(.int p1), (.long (gbits w))])) _
    refine XS.i2l X1.here hx rfl (hb hby d4_28) rfl ?_
    show Steps p.tables e below (T1.setTop (mkF m 29 #[.val (.ref o0), .val (.int p1), .val (.long (gbits w)), .second, s4, s5] [(.long (p1.toInt64)), (.long (gbits w))])) _
    refine XS.lrem X1.here hx rfl (hb hby d4_29) rfl hnz ?_
    show Steps p.tables e below (T1.setTop (mkF m 30 #[.val (.ref o0), .val (.int p1), .val (.long (gbits w)), .second, s4, s5] [(.long ((gbits w) - ((gbits w) / (p1.toInt64)) * (p1.toInt64)))])) _
    refine XS.lstore X1.here hx rfl (hb hby d4_30) rfl (l' := #[.val (.ref o0), .val (.int p1), .val (.long (gbits w)), .second, .val (.long (gval w p1)), .second]) (own_st4 h45) ?_
    show Steps p.tables e below (T1.setTop (mkF m 32 #[.val (.ref o0), .val (.int p1), .val (.long (gbits w)), .second, .val (.long (gval w p1)), .second] [])) _
    refine XS.lloadN X1.here hx rfl (hb hby d4_32) rfl ?_
    show Steps p.tables e below (T1.setTop (mkF m 33 #[.val (.ref o0), .val (.int p1), .val (.long (gbits w)), .second, .val (.long (gval w p1)), .second] [(.long (gbits w))])) _
    refine XS.lload X1.here hx rfl (hb hby d4_33) rfl ?_
    show Steps p.tables e below (T1.setTop (mkF m 35 #[.val (.ref o0), .val (.int p1), .val (.long (gbits w)), .second, .val (.long (gval w p1)), .second] [(.long (gval w p1)), (.long (gbits w))])) _
    refine XS.lsub X1.here hx rfl (hb hby d4_35) rfl ?_
    show Steps p.tables e below (T1.setTop (mkF m 36 #[.val (.ref o0), .val (.int p1), .val (.long (gbits w)), .second, .val (.long (gval w p1)), .second] [(.long ((gbits w) - (gval w p1)))])) _
    refine XS.iloadN X1.here hx rfl (hb hby d4_36) rfl ?_
    show Steps p.tables e below (T1.setTop (mkF m 37 #[.val (.ref o0), .val (.int p1), .val (.long (gbits w)), .second, .val (.long (gval w p1)), .second] [(.int p1), (.long ((gbits w) - (gval w p1)))])) _
    refine XS.iconst X1.here hx rfl (hb hby d4_37) ?_
    show Steps p.tables e below (T1.setTop (mkF m 38 #[.val (.ref o0), .val (.int p1), .val (.long (gbits w)), .second, .val (.long (gval w p1)), .second] [(.int (1 : Int32)), (.int p1), (.long ((gbits w) - (gval w p1)))])) _
    refine XS.isub X1.here hx rfl (hb hby d4_38) rfl ?_
    show Steps p.tables e below (T1.setTop (mkF m 39 #[.val (.ref o0), .val (.int p1), .val (.long (gbits w)), .second, .val (.long (gval w p1)), .second] [(.int (p1 - (1 : Int32))), (.long ((gbits w) - (gval w p1)))])) _
    refine XS.i2l X1.here hx rfl (hb hby d4_39) rfl ?_
    show Steps p.tables e below (T1.setTop (mkF m 40 #[.val (.ref o0), .val (.int p1), .val (.long (gbits w)), .second, .val (.long (gval w p1)), .second] [(.long ((p1 - (1 : Int32)).toInt64)), (.long ((gbits w) - (gval w p1)))])) _
    refine XS.ladd X1.here hx rfl (hb hby d4_40) rfl ?_
    show Steps p.tables e below (T1.setTop (mkF m 41 #[.val (.ref o0), .val (.int p1), .val (.long (gbits w)), .second, .val (.long (gval w p1)), .second] [(.long (((gbits w) - (gval w p1)) + ((p1 - (1 : Int32)).toInt64)))])) _
    refine XS.lconst X1.here hx rfl (hb hby d4_41) ?_
    show Steps p.tables e below (T1.setTop (mkF m 42 #[.val (.ref o0), .val (.int p1), .val (.long (gbits w)), .second, .val (.long (gval w p1)), .second] [(.long (0 : Int64)), (.long (((gbits w) - (gval w p1)) + ((p1 - (1 : Int32)).toInt64)))])) _
    refine XS.lcmp X1.here hx rfl (hb hby d4_42) rfl ?_
    show Steps p.tables e below (T1.setTop (mkF m 43 #[.val (.ref o0), .val (.int p1), .val (.long (gbits w)), .second, .val (.long (gval w p1)), .second] [(.int (lcmpW (((gbits w) - (gval w p1)) + ((p1 - (1 : Int32)).toInt64)) (0 : Int64)))])) _
    refine XS.ifNo X1.here hx rfl (hb hby d4_43) rfl ((if0 _ _).trans (flt (mt (lw_lt _ _).mp (show ¬ ((((gbits w) - (gval w p1)) + ((p1 - (1 : Int32)).toInt64)) < (0 : Int64)) from hcd))).1) ?_
    show Steps p.tables e below (T1.setTop (mkF m 46 #[.val (.ref o0), .val (.int p1), .val (.long (gbits w)), .second, .val (.long (gval w p1)), .second] [])) _
    refine XS.lload X1.here hx rfl (hb hby d4_46) rfl ?_
    show Steps p.tables e below (T1.setTop (mkF m 48 #[.val (.ref o0), .val (.int p1), .val (.long (gbits w)), .second, .val (.long (gval w p1)), .second] [(.long (gval w p1))])) _
    refine XS.l2i X1.here hx rfl (hb hby d4_48) rfl ?_
    exact kt
  exact ⟨T1, T1.heap, _, X1, rfl, N1, Z1, KP1, F1q, G2, K3⟩
-- BY HAND: the loop
def own_itf (f : Int64 → Int64) : Nat → Int64 → Int64
  | 0, w => w
  | k + 1, w => own_itf f k (f w)
theorem own_itf0 (f : Int64 → Int64) (w : Int64) : own_itf f 0 w = w := rfl
theorem own_itfS (f : Int64 → Int64) (k : Nat) (w : Int64) : own_itf f (k + 1) w = own_itf f k (f w) := rfl
def own_it (k : Nat) (w : Int64) : Int64 := own_itf m0 k w
def own_acc (p1 : Int32) (w : Int64) : Prop := ¬ ((gbits w - gval w p1) + ((p1 - (1 : Int32)).toInt64)) < (0 : Int64)
theorem own_it0 (w : Int64) : own_it 0 w = w := by unfold own_it; rw [own_itf0]
theorem own_itS (k : Nat) (w : Int64) : own_it (k + 1) w = own_it k (m0 w) := by unfold own_it; rw [own_itfS]
theorem own_accE (p1 : Int32) (w : Int64) : own_acc p1 w = ¬ ((gbits w - gval w p1) + ((p1 - (1 : Int32)).toInt64)) < (0 : Int64) := rfl
theorem own_loop {p : Program} {l : Launch} {e : Env} {s : State} {m : MethodId} {args : Array Value} {below : List Frame} {meth : Method} {c : Code} {Z : State} {a0 : Array Value} (k : Nat) : ∀ {T0 : State} {locs : List Loc} {h0 : Heap} (o0 : Addr) (p1 : Int32) (w : Int64) (s2 s3 s4 s5 : Slot) (n0 : Nat)
    (X0 : Stand p l e ({ frames := 1, cells := 0, slots := 0, locals := 14 } : Room) s m args below meth c T0 locs 0 0) (hx : p.tables.exec = Jvm.exec) (hZ : Z.Warmed39 s.vm) (hw : ∀ d ∈ tables_1, d.before a0 Z = true) (hby : c.code = prog_13_method_3_code) (hml : c.maxLocals = 6) (hown : s.vm.findClass "com/example/moonclaim/moonclaim/engine/Rng" = some m.cls) (e0 : T0.heap = h0) (N0 : Fr n0 locs) (Z0 : n0 ≤ h0.size)
    (F1 : Fld Z h0 o0 "com/example/moonclaim/moonclaim/engine/Rng" "state" "J" (.long w)) (E1 : Exa Z h0 o0 "com/example/moonclaim/moonclaim/engine/Rng") (g1 : n0 ≤ o0) (h23 : own_two s2 s3) (h45 : own_two s4 s5) (hnz : p1.toInt64 ≠ 0) (hk : own_acc p1 (own_it k w)),
    ∃ (j : Nat) (T' : State) (h' : Heap) (locs' : List Loc), Stand p l e ({ frames := 1, cells := 0, slots := 0, locals := 14 } : Room) s m args below meth c T' locs' 0 0 ∧ T'.heap = h' ∧ Fr n0 locs' ∧ n0 ≤ h'.size ∧ Keep h0 h' [o0] ∧ Fld Z h' o0 "com/example/moonclaim/moonclaim/engine/Rng" "state" "J" (.long (m0 (own_it j w))) ∧ Exa Z h' o0 "com/example/moonclaim/moonclaim/engine/Rng" ∧ (∀ i, i < j → ¬ own_acc p1 (own_it i w)) ∧ own_acc p1 (own_it j w) ∧
      ∃ s2' s3' s4' s5' : Slot, ∀ t, Steps p.tables e below (T'.setTop (mkF m 49 #[.val (.ref o0), .val (.int p1), s2', s3', s4', s5'] [(.int (gval (own_it j w) p1).toInt32)])) t → Steps p.tables e below (T0.setTop (mkF m 19 #[.val (.ref o0), .val (.int p1), s2, s3, s4, s5] [])) t := by
  induction k with
  | zero =>
    intro T0 locs h0 o0 p1 w s2 s3 s4 s5 n0 X0 hx hZ hw hby hml hown e0 N0 Z0 F1 E1 g1 h23 h45 hnz hk
    rw [own_it0] at hk
    have hk' := hk
    rw [own_accE] at hk'
    obtain ⟨T', h', L', X', e', N', Z', K', F', E', st⟩ := tnA o0 p1 w s2 s3 s4 s5 n0 X0 hx hZ hw hby hml hown e0 N0 Z0 F1 E1 g1 h23 h45 hnz hk'
    refine ⟨0, T', h', L', X', e', N', Z', K', ?_, E', fun i hi => absurd hi (Nat.not_lt_zero _), ?_, .val (.long (gbits w)), .second, .val (.long (gval w p1)), .second, ?_⟩
    · rw [own_it0]; exact F'
    · rw [own_it0]; exact hk
    · rw [own_it0]; exact st
  | succ k ih =>
    intro T0 locs h0 o0 p1 w s2 s3 s4 s5 n0 X0 hx hZ hw hby hml hown e0 N0 Z0 F1 E1 g1 h23 h45 hnz hk
    rw [own_itS] at hk
    by_cases ha : ((gbits w - gval w p1) + ((p1 - (1 : Int32)).toInt64)) < (0 : Int64)
    · obtain ⟨T1, h1, L1, X1, e1, N1, Z1, K1, F1', E1', st1⟩ := tnR o0 p1 w s2 s3 s4 s5 n0 X0 hx hZ hw hby hml hown e0 N0 Z0 F1 E1 g1 h23 h45 hnz ha
      obtain ⟨j, T2, h2, L2, X2, e2, N2, Z2, K2, F2, E2, hl, hac, a2, a3, a4, a5, st2⟩ := ih o0 p1 (m0 w) _ _ _ _ n0 X1 hx hZ hw hby hml hown e1 N1 Z1 F1' E1' g1 (Or.inr ⟨_, rfl, rfl⟩) (Or.inr ⟨_, rfl, rfl⟩) hnz hk
      refine ⟨j + 1, T2, h2, L2, X2, e2, N2, Z2, K1.trans K2 (fun x hx => Or.inl hx), ?_, E2, ?_, ?_, a2, a3, a4, a5, ?_⟩
      · rw [own_itS]; exact F2
      · intro i hi
        cases i with
        | zero => rw [own_it0, own_accE]; exact fun q => q ha
        | succ i => rw [own_itS]; exact hl i (Nat.lt_of_succ_lt_succ hi)
      · rw [own_itS]; exact hac
      · rw [own_itS]; exact fun t kt => st1 t (st2 t kt)
    · obtain ⟨T', h', L', X', e', N', Z', K', F', E', st⟩ := tnA o0 p1 w s2 s3 s4 s5 n0 X0 hx hZ hw hby hml hown e0 N0 Z0 F1 E1 g1 h23 h45 hnz ha
      refine ⟨0, T', h', L', X', e', N', Z', K', ?_, E', fun i hi => absurd hi (Nat.not_lt_zero _), ?_, .val (.long (gbits w)), .second, .val (.long (gval w p1)), .second, ?_⟩
      · rw [own_it0]; exact F'
      · rw [own_it0, own_accE]; exact ha
      · rw [own_it0]; exact st
theorem ef_4 (m : MethodId) (x0 : Addr) (x1 : Int32) : entryFrame m #[(.ref x0), (.int x1)] 6 = mkF m 0 #[.val (.ref x0), .val (.int x1), .unset, .unset, .unset, .unset] [] := by first | (simp [entryFrame, mkF, argsToLocals, Value.category]; done) | rfl
theorem d4_0 : decode prog_13_method_3_code 0 = .ok (.iload_n 1, 1) := by decide +kernel
theorem d4_1 : decode prog_13_method_3_code 1 = .ok (.iconst 1, 1) := by decide +kernel
theorem d4_2 : decode prog_13_method_3_code 2 = .ok (.if_icmp .ge 17, 3) := by decide +kernel
theorem d4_49 : decode prog_13_method_3_code 49 = .ok (.ireturn, 1) := by decide +kernel
def Q4 (Z : State) (o0 : Addr) (p1 : Int32) (w : Int64) (k : Nat) (h0 : Heap) (n0 : Nat) (v : Option Value) (h : Heap) (L : List Loc) : Prop := ∃ j, v = some (.int (gval (own_it j w) p1).toInt32) ∧ Fr n0 L ∧ Keep h0 h [o0] ∧ Fld Z h o0 "com/example/moonclaim/moonclaim/engine/Rng" "state" "J" (.long (m0 (own_it j w))) ∧ (∀ i, i < j → ¬ own_acc p1 (own_it i w)) ∧ own_acc p1 (own_it j w)
set_option maxRecDepth 65536 in
set_option maxHeartbeats 40000000 in
theorem rm4 (l : Launch) (Z : State) (a0 : Array Value) (hw : ∀ d ∈ tables_1, d.before a0 Z = true) (ws : List Jvm.Cond) (o0 : Addr) (p1 : Int32) (w : Int64) (k : Nat) (h0 : Heap) (n0 : Nat) (Z0 : n0 ≤ h0.size) (F1 : Fld Z h0 o0 "com/example/moonclaim/moonclaim/engine/Rng" "state" "J" (.long w)) (E1 : Exa Z h0 o0 "com/example/moonclaim/moonclaim/engine/Rng") (g1 : n0 ≤ o0) (hb1 : ¬ p1 < (1 : Int32)) (hnz : p1.toInt64 ≠ 0) (hk : own_acc p1 (own_it k w)) :
    MetFree l (⟨"com/example/moonclaim/moonclaim/engine/Rng", "below", "(I)I"⟩ : MethodName) (head1 (Jvm.Cond.code (⟨"com/example/moonclaim/moonclaim/engine/Rng", "below", "(I)I"⟩ : MethodName) prog_13_method_3_code 6 (some .int) :: ws) ({ frames := 1, cells := 0, slots := 0, locals := 14 } : Room)) (fun a U => a = #[(.ref o0), (.int p1)] ∧ Z.Warmed39 U.vm ∧ U.heap = h0) (fun _ _ _ _ _ => True) (fun _ U o U' => ∃ v L, o = .returned v ∧ Q4 Z o0 p1 w k h0 n0 v U'.heap L ∧ FrameEnd U o U' L ({ frames := 1, cells := 0, slots := 0, locals := 14 } : Room).cells ({ frames := 1, cells := 0, slots := 0, locals := 14 } : Room).slots) := by
  refine MetFree.of_bodySF (plainFor_of_name pn_0) hisR ?_
  intro p e s m args below meth c s₁ Bd hml0 hP hK
  obtain ⟨rfl, hZ, hh⟩ := hP
  have hx := Bd.exec
  have hby := Bd.bytes
  have hml : c.maxLocals = 6 := hml0
  have hown : s.vm.findClass "com/example/moonclaim/moonclaim/engine/Rng" = some m.cls := findClass_of_methodNamed Bd.named
  have hnm := (name_of_methodNamed Bd.named Bd.method).1
  have X0 : Stand p l e ({ frames := 1, cells := 0, slots := 0, locals := 14 } : Room) s m #[(.ref o0), (.int p1)] below meth c s₁ [] 0 0 := Stand.of_body Bd
  have e0 : s₁.heap = h0 := by rw [← hh, Bd.state]; rfl
  have pre0 : ∀ t, Steps p.tables e below (s₁.setTop (mkF m 0 #[.val (.ref o0), .val (.int p1), .unset, .unset, .unset, .unset] [])) t → Steps p.tables e below (s₁.setTop (entryFrame m #[(.ref o0), (.int p1)] 6)) t := fun t k => castTop (ef_4 m o0 p1) k
  have N0 := Fr.nil n0
  have KP0 : Keep h0 h0 [o0] := Keep.refl _ _
  have K1 : ∀ t, Steps p.tables e below (s₁.setTop (mkF m 19 #[.val (.ref o0), .val (.int p1), .unset, .unset, .unset, .unset] [])) t → Steps p.tables e below (s₁.setTop (mkF m 0 #[.val (.ref o0), .val (.int p1), .unset, .unset, .unset, .unset] [])) t := by
    intro t kt
    show Steps p.tables e below (s₁.setTop (mkF m 0 #[.val (.ref o0), .val (.int p1), .unset, .unset, .unset, .unset] [])) _
    refine XS.iloadN X0.here hx rfl (hb hby d4_0) rfl ?_
    show Steps p.tables e below (s₁.setTop (mkF m 1 #[.val (.ref o0), .val (.int p1), .unset, .unset, .unset, .unset] [(.int p1)])) _
    refine XS.iconst X0.here hx rfl (hb hby d4_1) ?_
    show Steps p.tables e below (s₁.setTop (mkF m 2 #[.val (.ref o0), .val (.int p1), .unset, .unset, .unset, .unset] [(.int (1 : Int32)), (.int p1)])) _
    refine XS.icmpYes X0.here hx rfl (pc0 := 2) (pc' := 19) rfl (hb hby d4_2) rfl (flt (show ¬ (p1 < (1 : Int32)) from hb1)).2.1 (by decide) (by decide) ?_
    exact kt
  obtain ⟨j, T9, h9, L9, X9, e9, N9, Z9, K9, F9, E9, hlt, hac, s2, s3, s4, s5, st9⟩ := own_loop k o0 p1 w .unset .unset .unset .unset n0 X0 hx hZ hw hby hml hown e0 N0 Z0 F1 E1 g1 (Or.inl ⟨rfl, rfl⟩) (Or.inl ⟨rfl, rfl⟩) hnz hk
  have K2 : ∀ t, Steps p.tables e below (T9.setTop (mkF m 49 #[.val (.ref o0), .val (.int p1), s2, s3, s4, s5] [(.int (gval (own_it j w) p1).toInt32)])) t → Steps p.tables e below (s₁.setTop (mkF m 0 #[.val (.ref o0), .val (.int p1), .unset, .unset, .unset, .unset] [])) t := by
    intro t kt
    refine K1 _ ?_
    show Steps p.tables e below (s₁.setTop (mkF m 19 #[.val (.ref o0), .val (.int p1), .unset, .unset, .unset, .unset] [])) _
    refine st9 _ ?_
    exact kt
  obtain ⟨fs, hr, hrun, hended, hW, hsame⟩ := X9.leave (v := some (.int (gval (own_it j w) p1).toInt32)) (fun h => by rw [Bd.returns] at h; cases h)
  refine ⟨_, _, pre0 _ (K2 _ ?_), hrun, hended, _, _, rfl, ?_, ⟨_, rfl⟩, hW, hsame.mono (by decide) (by decide)⟩
  · show Steps p.tables e below (T9.setTop (mkF m 49 #[.val (.ref o0), .val (.int p1), s2, s3, s4, s5] [(.int (gval (own_it j w) p1).toInt32)])) _
    exact retOut X9 hx Bd.returns rfl (Or.inl ⟨rfl, Or.inl rfl, _, rfl⟩) (hb hby d4_49) hr
  · show Q4 Z o0 p1 w k h0 n0 _ T9.heap _
    rw [e9]
    exact ⟨j, rfl, N9, K9, F9, hlt, hac⟩
theorem ef_0 (m : MethodId) (x0 : Int64) (x1 : Int32) : entryFrame m #[(.long x0), (.int x1)] maxLocals = mkF m 0 #[.val (.long x0), .second, .val (.int x1), .unset, .unset, .unset, .unset, .unset, .unset, .unset, .unset, .unset, .unset, .unset, .unset] [] := by first | (simp [entryFrame, mkF, argsToLocals, Value.category, maxLocals]; done) | rfl
theorem pd_1 : parseMethodDescriptor "(II)I" = some ⟨[.int, .int], some .int⟩ := by decide +kernel
def gB (p1 : Int32) : Int32 := (f1 (1 : Int32) (p1 &&& (2147483647 : Int32)))
theorem pd_2 : parseMethodDescriptor "(J)V" = some ⟨[.long], none⟩ := by decide +kernel
theorem pd_3 : parseMethodDescriptor "(I)I" = some ⟨[.int], some .int⟩ := by decide +kernel
theorem pd_4 : parseMethodDescriptor "(JJI)Z" = some ⟨[.long, .long, .int], some .boolean⟩ := by decide +kernel
theorem own_i64 (x : Int) (h1 : -9223372036854775808 ≤ x) (h2 : x < 9223372036854775808) (y : Int) (h : (y - x) % 18446744073709551616 = 0) (h3 : -9223372036854775808 ≤ y) (h4 : y < 9223372036854775808) : y = x := by omega
theorem own_add {a b : Int64} (h1 : -9223372036854775808 ≤ a.toInt + b.toInt) (h2 : a.toInt + b.toInt < 9223372036854775808) : (a + b).toInt = a.toInt + b.toInt :=
  own_i64 _ h1 h2 _ (c_ladd a b) (rng64 _).1 (rng64 _).2
theorem own_sub {a b : Int64} (h1 : -9223372036854775808 ≤ a.toInt - b.toInt) (h2 : a.toInt - b.toInt < 9223372036854775808) : (a - b).toInt = a.toInt - b.toInt :=
  own_i64 _ h1 h2 _ (c_lsub a b) (rng64 _).1 (rng64 _).2
theorem own_z0 : (0 : Int64).toInt = 0 := rfl
theorem own_gB (p : Int32) : 1 ≤ (gB p).toInt ∧ (gB p).toInt < 2147483648 := by
  have h1 : (p &&& (2147483647 : Int32)).toInt = p.toInt % (2 ^ 31 : Nat) := c_mask p _ 31 (by decide) (by decide)
  have h2 := rng32 (gB p)
  have h3 : (1 : Int32).toInt = 1 := rfl
  refine ⟨?_, by omega⟩
  unfold gB f1
  split
  · rename_i h
    rw [Int32.lt_iff_toInt_lt] at h
    omega
  · omega
theorem own_b1 (p : Int32) : ¬ gB p < (1 : Int32) := by
  rw [Int32.lt_iff_toInt_lt]; have := own_gB p; have h3 : (1 : Int32).toInt = 1 := rfl; omega
theorem own_bnz (p : Int32) : (gB p).toInt64 ≠ 0 := fun h => by
  have h1 := own_gB p
  have h2 := c_i2l (gB p)
  rw [h, own_z0] at h2
  omega
theorem own_bits (w : Int64) : 0 ≤ (gbits w).toInt := by
  have h := c_lushr (m3 w) 1 1 (by decide) (by decide)
  unfold gbits
  rw [h]
  omega
theorem own_val (w : Int64) (p : Int32) : (gval w (gB p)).toInt = (gbits w).toInt % (gB p).toInt := by
  have h1 := own_gB p
  exact (c_lrem (gbits w) (gB p).toInt64 (gB p).toInt (c_i2l _)).1 (own_bits w)
theorem own_eml (a b : Int) (ha : 0 ≤ a) (hb : 0 < b) : a % b ≤ a := by
  have h1 := Int.emod_add_mul_ediv a b
  have h2 : 0 ≤ b * (a / b) := Int.mul_nonneg (by omega) (Int.ediv_nonneg ha (by omega))
  generalize b * (a / b) = u at *
  generalize a % b = v at *
  omega
theorem own_vr (w : Int64) (p : Int32) : 0 ≤ (gval w (gB p)).toInt ∧ (gval w (gB p)).toInt < (gB p).toInt ∧ (gval w (gB p)).toInt ≤ (gbits w).toInt := by
  have h1 := own_gB p
  have h2 := own_bits w
  rw [own_val]
  exact ⟨Int.emod_nonneg _ (by omega), Int.emod_lt_of_pos _ (by omega), own_eml _ _ h2 (by omega)⟩
theorem own_v32 (w : Int64) (p : Int32) : (gval w (gB p)).toInt32.toInt = (gval w (gB p)).toInt := by
  have h1 := own_gB p
  have h2 := own_vr w p
  have h3 := c_l2i (gval w (gB p))
  have h4 := rng32 (gval w (gB p)).toInt32
  omega
theorem own_r0 (p : Int32) (w : Int64) : ¬ (gval w (gB p)).toInt32 < (0 : Int32) := by
  rw [Int32.lt_iff_toInt_lt, own_v32]; have := own_vr w p; have h3 : (0 : Int32).toInt = 0 := rfl; omega
theorem own_r1 (p : Int32) (w : Int64) : (gval w (gB p)).toInt32 < gB p := by
  rw [Int32.lt_iff_toInt_lt, own_v32]; have := own_vr w p; omega
theorem own_v64 (p : Int32) (w : Int64) : (gval w (gB p)).toInt32.toInt64 = gval w (gB p) := by
  apply Int64.toInt_inj.mp
  rw [c_i2l, own_v32]
theorem own_bm (p : Int32) : ((gB p - (1 : Int32)).toInt64).toInt = (gB p).toInt - 1 := by
  have h1 := own_gB p
  have h2 := c_isub (gB p) 1
  have h3 : (1 : Int32).toInt = 1 := rfl
  have h4 := rng32 (gB p - (1 : Int32))
  rw [c_i2l]
  omega
theorem own_bv (p : Int32) (w : Int64) : (gbits w - gval w (gB p)).toInt = (gbits w).toInt - (gval w (gB p)).toInt := by
  have h2 := own_vr w p
  have h3 := rng64 (gbits w)
  exact own_sub (by omega) (by omega)
theorem own_acc_iff (p : Int32) (w : Int64) : own_acc (gB p) w ↔ (gbits w).toInt - (gval w (gB p)).toInt + ((gB p).toInt - 1) < 9223372036854775808 := by
  have h1 := own_gB p
  have h2 := own_vr w p
  have h3 := rng64 (gbits w)
  have h4 := own_bv p w
  have h5 := own_bm p
  have h6 := c_ladd (gbits w - gval w (gB p)) ((gB p - (1 : Int32)).toInt64)
  have h7 := rng64 ((gbits w - gval w (gB p)) + ((gB p - (1 : Int32)).toInt64))
  unfold own_acc
  rw [Int64.lt_iff_toInt_lt, own_z0]
  omega
theorem own_cmp (p : Int32) (w : Int64) : f6 (gbits w) (gval w (gB p)) (gB p) = (0 : Int32) ↔ ¬ own_acc (gB p) w := by
  have h1 := own_gB p
  have h2 := own_vr w p
  have h3 := rng64 (gbits w)
  have h4 := own_bv p w
  have e1 : ((gB p).toInt64 - (1 : Int64)).toInt = (gB p).toInt - 1 := by
    have := c_i2l (gB p)
    have h5 : (1 : Int64).toInt = 1 := rfl
    rw [own_sub (by omega) (by omega)]
    omega
  have e2 : ((9223372036854775807 : Int64) - ((gB p).toInt64 - (1 : Int64))).toInt = 9223372036854775807 - ((gB p).toInt - 1) := by
    have h5 : (9223372036854775807 : Int64).toInt = 9223372036854775807 := rfl
    rw [own_sub (by omega) (by omega)]
    omega
  rw [own_acc_iff]
  unfold f6
  by_cases h : ((9223372036854775807 : Int64) - ((gB p).toInt64 - (1 : Int64))) < (gbits w - gval w (gB p))
  · rw [if_pos h]
    rw [Int64.lt_iff_toInt_lt, e2, h4] at h
    exact ⟨fun _ => by omega, fun _ => rfl⟩
  · rw [if_neg h]
    rw [Int64.lt_iff_toInt_lt, e2, h4] at h
    exact ⟨fun q => absurd q (by decide), fun q => absurd q (by omega)⟩
theorem own_it1 (w : Int64) : own_it 1 w = m0 w := by rw [show (1 : Nat) = 0 + 1 from rfl, own_itS, own_it0]
theorem own_e1 {p : Int32} {q : Int64} {j : Nat} (hl : ∀ i, i < j → ¬ own_acc (gB p) (own_it i q)) (ha : own_acc (gB p) (own_it j q)) (hc : ¬ f6 (gbits q) (gval q (gB p)) (gB p) = (0 : Int32)) : (gval (own_it j q) (gB p)).toInt32.toInt64 = gval q (gB p) := by
  have h : own_acc (gB p) q := Classical.byContradiction fun z => hc ((own_cmp p q).mpr z)
  cases j with
  | zero => rw [own_it0]; exact own_v64 p q
  | succ j => exact absurd h (by have := hl 0 (Nat.succ_pos _); rw [own_it0] at this; exact this)
theorem own_e2 {p : Int32} {q : Int64} {j : Nat} (hl : ∀ i, i < j → ¬ own_acc (gB p) (own_it i q)) (ha : own_acc (gB p) (own_it j q)) (hc : ¬ f6 (gbits q) (gval q (gB p)) (gB p) = (0 : Int32)) : m3 (m0 (own_it j q)) = m3 (m0 q) := by
  have h : own_acc (gB p) q := Classical.byContradiction fun z => hc ((own_cmp p q).mpr z)
  cases j with
  | zero => rw [own_it0]
  | succ j => exact absurd h (by have := hl 0 (Nat.succ_pos _); rw [own_it0] at this; exact this)
theorem own_j1 {p : Int32} {q : Int64} {j : Nat} (hl : ∀ i, i < j → ¬ own_acc (gB p) (own_it i q)) (ha : own_acc (gB p) (own_it j q)) (hc : f6 (gbits q) (gval q (gB p)) (gB p) = (0 : Int32)) (hd : ¬ f6 (gbits (m0 q)) (gval (m0 q) (gB p)) (gB p) = (0 : Int32)) : j = 1 := by
  have h1 : ¬ own_acc (gB p) q := (own_cmp p q).mp hc
  have h2 : own_acc (gB p) (m0 q) := Classical.byContradiction fun z => hd ((own_cmp p (m0 q)).mpr z)
  rcases Nat.lt_trichotomy j 1 with h | h | h
  · have : j = 0 := by omega
    subst this
    rw [own_it0] at ha
    exact absurd ha h1
  · exact h
  · exact absurd h2 (by have := hl 1 h; rw [own_it1] at this; exact this)
theorem own_e3 {p : Int32} {q : Int64} {j : Nat} (hl : ∀ i, i < j → ¬ own_acc (gB p) (own_it i q)) (ha : own_acc (gB p) (own_it j q)) (hc : f6 (gbits q) (gval q (gB p)) (gB p) = (0 : Int32)) (hd : ¬ f6 (gbits (m0 q)) (gval (m0 q) (gB p)) (gB p) = (0 : Int32)) : (gval (own_it j q) (gB p)).toInt32.toInt64 = gval (m0 q) (gB p) := by
  obtain rfl := own_j1 hl ha hc hd
  rw [own_it1]
  exact own_v64 p (m0 q)
theorem own_e4 {p : Int32} {q : Int64} {j : Nat} (hl : ∀ i, i < j → ¬ own_acc (gB p) (own_it i q)) (ha : own_acc (gB p) (own_it j q)) (hc : f6 (gbits q) (gval q (gB p)) (gB p) = (0 : Int32)) (hd : ¬ f6 (gbits (m0 q)) (gval (m0 q) (gB p)) (gB p) = (0 : Int32)) : m3 (m0 (own_it j q)) = m3 (m0 (m0 q)) := by
  obtain rfl := own_j1 hl ha hc hd
  rw [own_it1]
theorem own_m0 (w : Int64) : (m0 w).toBitVec.toNat = (w.toBitVec.toNat + 11400714819323198485) % 18446744073709551616 := by
  unfold m0
  rw [Int64.toBitVec_add, BitVec.toNat_add]
  rfl
theorem own_itn (k : Nat) : ∀ (w : Int64), (own_it k w).toBitVec.toNat = (w.toBitVec.toNat + k * 11400714819323198485) % 18446744073709551616 := by
  induction k with
  | zero =>
    intro w
    rw [own_it0]
    have := w.toBitVec.isLt
    generalize w.toBitVec.toNat = W at *
    omega
  | succ k ih =>
    intro w
    rw [own_itS, ih, own_m0]
    generalize w.toBitVec.toNat = W
    omega
theorem own_kk (W : Nat) (h : W < 18446744073709551616) : ((W + ((18446744073709551616 - W) * 17428512612931826493 + 18446744073709551615) % 18446744073709551616 * 11400714819323198485) % 18446744073709551616 + 11400714819323198485) % 18446744073709551616 = 0 := by omega
def own_k (w : Int64) : Nat := ((18446744073709551616 - w.toBitVec.toNat) * 17428512612931826493 + 18446744073709551615) % 18446744073709551616
theorem own_zero (w : Int64) : m0 (own_it (own_k w) w) = 0 := by
  apply Int64.toBitVec_inj.mp
  apply BitVec.eq_of_toNat_eq
  have h := own_kk _ w.toBitVec.isLt
  rw [own_m0, own_itn, own_k]
  exact h
theorem own_acc0 (p : Int32) (w : Int64) (h : m0 w = 0) : own_acc (gB p) w := by
  have e1 : m1 w = 0 := by
    show ((m0 w) ^^^ (((m0 w).toUInt64 >>> ((30 : Int32) &&& 0x3f).toInt64.toUInt64).toInt64)) * (-4658895280553007687 : Int64) = 0
    rw [h]; decide
  have e2 : m2 w = 0 := by unfold m2; rw [e1]; decide
  have e3 : m3 w = 0 := by unfold m3; rw [e2]; decide
  have e4 : gbits w = 0 := by unfold gbits; rw [e3]; decide
  have h1 := own_gB p
  have h2 := own_vr w p
  rw [own_acc_iff]
  rw [e4, own_z0] at *
  omega
theorem own_term (p : Int32) (w : Int64) : own_acc (gB p) (own_it (own_k w) w) := own_acc0 p _ (own_zero w)
def Q0 (Z : State) (q0 : Int64) (p1 : Int32)  (h0 : Heap) (n0 : Nat) (v : Option Value) (h : Heap) (L : List Loc) : Prop := v = some (.int 1) ∧ Fr n0 L
set_option maxRecDepth 65536 in
set_option maxHeartbeats 40000000 in
theorem rm0 (l : Launch) (Z : State) (a0 : Array Value) (hw : ∀ d ∈ tables_1, d.before a0 Z = true) (ws : List Jvm.Cond) (q0 : Int64) (p1 : Int32)  (h0 : Heap) (n0 : Nat) (Z0 : n0 ≤ h0.size)  :
    MetFree l x (head1 (Jvm.Cond.code x code maxLocals ret :: ws) room_1) (fun a U => a = #[(.long q0), (.int p1)] ∧ Z.Warmed39 U.vm ∧ U.heap = h0) (fun _ _ _ _ _ => True) (fun _ U o U' => ∃ v L, o = .returned v ∧ Q0 Z q0 p1  h0 n0 v U'.heap L ∧ FrameEnd U o U' L room_1.cells room_1.slots) := by
  refine MetFree.of_bodySF (plainFor_of_name pn_1) hisR ?_
  intro p e s m args below meth c s₁ Bd hml0 hP hK
  obtain ⟨rfl, hZ, hh⟩ := hP
  have hx := Bd.exec
  have hby := Bd.bytes
  have hml : c.maxLocals = 15 := hml0
  have hown : s.vm.findClass "com/example/moonclaim/moonclaim/engine/RngBelowPinLaw" = some m.cls := findClass_of_methodNamed Bd.named
  have hnm := (name_of_methodNamed Bd.named Bd.method).1
  have X0 : Stand p l e room_1 s m #[(.long q0), (.int p1)] below meth c s₁ [] 0 0 := Stand.of_body Bd
  have e0 : s₁.heap = h0 := by rw [← hh, Bd.state]; rfl
  have pre0 : ∀ t, Steps p.tables e below (s₁.setTop (mkF m 0 #[.val (.long q0), .second, .val (.int p1), .unset, .unset, .unset, .unset, .unset, .unset, .unset, .unset, .unset, .unset, .unset, .unset] [])) t → Steps p.tables e below (s₁.setTop (entryFrame m #[(.long q0), (.int p1)] maxLocals)) t := fun t k => castTop (ef_0 m q0 p1) k
  have N0 := Fr.nil n0
  obtain ⟨_, _, ⟨T1, L1, k1, n1⟩, -, X1, ⟨Lc1, hQ1, l1, y1, z1⟩, st1⟩ := Jvm.LawKit.callS X0 hx (y := (⟨"java/lang/Math", "max", "(II)I"⟩ : MethodName)) hown (mvT hZ (hw _ (List.mem_of_getElem? (i := 1) rfl))) (mvT hZ (hw _ (List.mem_of_getElem? (i := 2) rfl))) (mvT hZ (hw _ (List.mem_of_getElem? (i := 3) rfl))) (mvT hZ (hw _ (List.mem_of_getElem? (i := 4) rfl))) (by decide) (backOf (W := 0) (rm1 l Z a0 hw [] (1 : Int32) (p1 &&& (2147483647 : Int32))  h0 ) hZ (hw _ (List.mem_of_getElem? (i := 4) rfl)) (hw _ (List.mem_of_getElem? (i := 3) rfl)) (by decide) (by decide)) (g := (mkF m 5 #[.val (.long q0), .second, .val (.int p1), .unset, .unset, .unset, .unset, .unset, .unset, .unset, .unset, .unset, .unset, .unset, .unset] [(.int (p1 &&& (2147483647 : Int32))), (.int (1 : Int32))])) rfl (by rw [hml]; rfl) (argsL := [(.int (1 : Int32)), (.int (p1 &&& (2147483647 : Int32)))]) (rest := []) (lenOf pd_1 rfl) rfl (by show 2 * 0 + _ ≤ _; exact Nat.le_of_eq rfl) (hb hby at_5) (fun _ _ => ⟨rfl, e0, (by decide : 0 + 0 ≤ _), (by decide : 0 + 0 ≤ _)⟩)
  dsimp only [Pt.U, Pt.locs, Pt.cells, Pt.slots] at X1 l1 y1 z1 st1 hQ1
  subst l1 y1 z1
  obtain ⟨rfl, rfl, e1⟩ := hQ1
  try rw [List.append_nil] at X1
  obtain ⟨T2, h2, X2, e2, E2, A2, D2, -, st2⟩ := newO X1 hx hZ hown (hw _ (List.mem_of_getElem? (i := 5) rfl)) (hw _ (List.mem_of_getElem? (i := 6) rfl)) (hw _ (List.mem_of_getElem? (i := 7) rfl)) e1 (g := (mkF m 9 #[.val (.long q0), .second, .val (.int p1), .val (.int (gB p1)), .unset, .unset, .unset, .unset, .unset, .unset, .unset, .unset, .unset, .unset, .unset] [])) rfl (hb hby at_9) (by decide) (by decide)
  obtain ⟨b2, g2⟩ : ∃ z, z = h0.size := ⟨_, rfl⟩
  rw [← g2] at A2 D2 st2
  have gn2 : n0 ≤ b2 := Nat.le_trans Z0 (Nat.le_of_eq g2.symm)
  have Z2 : n0 ≤ h2.size := Nat.le_trans Z0 E2.1
  have F2_state : Fld Z h2 b2 "com/example/moonclaim/moonclaim/engine/Rng" "state" "J" (.long (0 : Int64)) := D2 (Or.inl (hw _ (List.mem_of_getElem? (i := 15) rfl))) (ty := .long) (by decide)
  obtain ⟨_, _, ⟨T3, L3, k3, n3⟩, -, X3, ⟨Lc3, hQ3, l3, y3, z3⟩, st3⟩ := X2.specialBack hx (y := (⟨"com/example/moonclaim/moonclaim/engine/Rng", "<init>", "(J)V"⟩ : MethodName)) rfl hown (mvT hZ (hw _ (List.mem_of_getElem? (i := 8) rfl))) (mvT hZ (hw _ (List.mem_of_getElem? (i := 9) rfl))) (mvT hZ (hw _ (List.mem_of_getElem? (i := 10) rfl))) (by decide) (backOf (W := 1) (rm2 l Z a0 hw [] b2 q0 (.long (0 : Int64)) h2 n0 Z2 F2_state A2 gn2) hZ (hw _ (List.mem_of_getElem? (i := 10) rfl)) (hw _ (List.mem_of_getElem? (i := 7) rfl)) (by decide) (by decide)) (g := (mkF m 14 #[.val (.long q0), .second, .val (.int p1), .val (.int (gB p1)), .unset, .unset, .unset, .unset, .unset, .unset, .unset, .unset, .unset, .unset, .unset] [(.long q0), (.ref b2), (.ref b2)])) rfl (by rw [hml]; rfl) (Steps.refl _) (a := b2) (argsL := [(.long q0)]) (rest := [(.ref b2)]) (lenOf pd_2 rfl) rfl (by show 2 * 0 + _ ≤ _; exact Nat.le_of_eq rfl) (hb hby at_14) (fun _ _ => ⟨rfl, e2, (by decide : 1 + 0 ≤ _), (by decide : 1 + 0 ≤ _)⟩)
  dsimp only [Pt.U, Pt.locs, Pt.cells, Pt.slots] at X3 l3 y3 z3 st3 hQ3
  subst l3 y3 z3
  obtain ⟨rfl, N3q, K3q, F3q⟩ := hQ3
  have N3 := Fr.app N0 N3q
  have Z3 : n0 ≤ T3.heap.size := Nat.le_trans Z2 K3q.1
  have G4 : Exa Z T3.heap b2 "com/example/moonclaim/moonclaim/engine/Rng" := A2.keep K3q
  obtain ⟨T5, h5, X5, e5, E5, A5, D5, -, st5⟩ := newO X3 hx hZ hown (hw _ (List.mem_of_getElem? (i := 5) rfl)) (hw _ (List.mem_of_getElem? (i := 6) rfl)) (hw _ (List.mem_of_getElem? (i := 7) rfl)) rfl (g := (mkF m 19 #[.val (.long q0), .second, .val (.int p1), .val (.int (gB p1)), .val (.ref b2), .unset, .unset, .unset, .unset, .unset, .unset, .unset, .unset, .unset, .unset] [])) rfl (hb hby at_19) (by decide) (by decide)
  obtain ⟨b5, g5⟩ : ∃ z, z = T3.heap.size := ⟨_, rfl⟩
  rw [← g5] at A5 D5 st5
  have ne6 : b2 ≠ b5 := Nat.ne_of_lt (Nat.lt_of_lt_of_le G4.lt (Nat.le_of_eq g5.symm))
  have gn5 : n0 ≤ b5 := Nat.le_trans Z3 (Nat.le_of_eq g5.symm)
  have Z5 : n0 ≤ h5.size := Nat.le_trans Z3 E5.1
  have G7 : Exa Z h5 b2 "com/example/moonclaim/moonclaim/engine/Rng" := G4.ext E5
  have G8 : Fld Z h5 b2 "com/example/moonclaim/moonclaim/engine/Rng" "state" "J" (.long q0) := F3q.ext E5
  have F5_state : Fld Z h5 b5 "com/example/moonclaim/moonclaim/engine/Rng" "state" "J" (.long (0 : Int64)) := D5 (Or.inl (hw _ (List.mem_of_getElem? (i := 15) rfl))) (ty := .long) (by decide)
  obtain ⟨_, _, ⟨T9, L9, k9, n9⟩, -, X9, ⟨Lc9, hQ9, l9, y9, z9⟩, st9⟩ := X5.specialBack hx (y := (⟨"com/example/moonclaim/moonclaim/engine/Rng", "<init>", "(J)V"⟩ : MethodName)) rfl hown (mvT hZ (hw _ (List.mem_of_getElem? (i := 8) rfl))) (mvT hZ (hw _ (List.mem_of_getElem? (i := 9) rfl))) (mvT hZ (hw _ (List.mem_of_getElem? (i := 10) rfl))) (by decide) (backOf (W := 1) (rm2 l Z a0 hw [] b5 q0 (.long (0 : Int64)) h5 n0 Z5 F5_state A5 gn5) hZ (hw _ (List.mem_of_getElem? (i := 10) rfl)) (hw _ (List.mem_of_getElem? (i := 7) rfl)) (by decide) (by decide)) (g := (mkF m 24 #[.val (.long q0), .second, .val (.int p1), .val (.int (gB p1)), .val (.ref b2), .unset, .unset, .unset, .unset, .unset, .unset, .unset, .unset, .unset, .unset] [(.long q0), (.ref b5), (.ref b5)])) rfl (by rw [hml]; rfl) (Steps.refl _) (a := b5) (argsL := [(.long q0)]) (rest := [(.ref b5)]) (lenOf pd_2 rfl) rfl (by show 2 * 0 + _ ≤ _; exact Nat.le_of_eq rfl) (hb hby at_24) (fun _ _ => ⟨rfl, e5, (by decide : 2 + 0 ≤ _), (by decide : 2 + 0 ≤ _)⟩)
  dsimp only [Pt.U, Pt.locs, Pt.cells, Pt.slots] at X9 l9 y9 z9 st9 hQ9
  subst l9 y9 z9
  obtain ⟨rfl, N9q, K9q, F9q⟩ := hQ9
  have N9 := Fr.app N3 N9q
  have Z9 : n0 ≤ T9.heap.size := Nat.le_trans Z5 K9q.1
  have G10 : Exa Z T9.heap b2 "com/example/moonclaim/moonclaim/engine/Rng" := G7.keep K9q
  have G11 : Fld Z T9.heap b2 "com/example/moonclaim/moonclaim/engine/Rng" "state" "J" (.long q0) := G8.keep K9q (ninS ne6 nin0)
  have G12 : Exa Z T9.heap b5 "com/example/moonclaim/moonclaim/engine/Rng" := A5.keep K9q
  obtain ⟨cq13, kq13, q13a, q13b, q13c⟩ := isOf hZ rfl G10
  obtain ⟨_, _, ⟨T13, L13, k13, n13⟩, -, X13, ⟨Lc13, hQ13, l13, y13, z13⟩, st13⟩ := X9.virtualBack hx (y := (⟨"com/example/moonclaim/moonclaim/engine/Rng", "below", "(I)I"⟩ : MethodName)) (z := (⟨"com/example/moonclaim/moonclaim/engine/Rng", "below", "(I)I"⟩ : MethodName)) hown (mvT hZ (hw _ (List.mem_of_getElem? (i := 16) rfl))) (mvT hZ (hw _ (List.mem_of_getElem? (i := 17) rfl))) (notFace_of_selects (args := #[]) (mvT hZ (hw _ (List.mem_of_getElem? (i := 19) rfl)))) (mvT hZ (hw _ (List.mem_of_getElem? (i := 19) rfl))) (mvT hZ (hw _ (List.mem_of_getElem? (i := 18) rfl))) (by decide) (backOf (W := 0) (rm4 l Z a0 hw [] b2 (gB p1) q0 (own_k q0) T9.heap n0 Z9 G11 G10 gn2 (own_b1 p1) (own_bnz p1) (own_term p1 q0)) hZ (hw _ (List.mem_of_getElem? (i := 20) rfl)) (hw _ (List.mem_of_getElem? (i := 7) rfl)) (by decide) (by decide)) q13a q13c (g := (mkF m 32 #[.val (.long q0), .second, .val (.int p1), .val (.int (gB p1)), .val (.ref b2), .val (.ref b5), .unset, .unset, .unset, .unset, .unset, .unset, .unset, .unset, .unset] [(.int (gB p1)), (.ref b2)])) rfl (by rw [hml]; rfl) (Steps.refl _) (argsL := [(.int (gB p1))]) (rest := []) (lenOf pd_3 rfl) rfl (by show 2 * 0 + _ ≤ _; exact Nat.le_of_eq rfl) (hb hby at_32) (fun _ _ => ⟨rfl, rfl, (by decide : 2 + 0 ≤ _), (by decide : 2 + 0 ≤ _)⟩)
  dsimp only [Pt.U, Pt.locs, Pt.cells, Pt.slots] at X13 l13 y13 z13 st13 hQ13
  subst l13 y13 z13
  obtain ⟨j13, rfl, N13q, K13q, F13q, hlt13, hac13⟩ := hQ13
  have N13 := Fr.app N9 N13q
  have Z13 : n0 ≤ T13.heap.size := Nat.le_trans Z9 K13q.1
  have G14 : Exa Z T13.heap b2 "com/example/moonclaim/moonclaim/engine/Rng" := G10.keep K13q
  have G15 : Exa Z T13.heap b5 "com/example/moonclaim/moonclaim/engine/Rng" := G12.keep K13q
  have G16 : Fld Z T13.heap b5 "com/example/moonclaim/moonclaim/engine/Rng" "state" "J" (.long q0) := F9q.keep K13q (ninS ne6.symm nin0)
  obtain ⟨cq17, kq17, q17a, q17b, q17c⟩ := isOf hZ rfl G15
  obtain ⟨_, _, ⟨T17, L17, k17, n17⟩, -, X17, ⟨Lc17, hQ17, l17, y17, z17⟩, st17⟩ := X13.virtualBack hx (y := (⟨"com/example/moonclaim/moonclaim/engine/Rng", "nextLong", "()J"⟩ : MethodName)) (z := (⟨"com/example/moonclaim/moonclaim/engine/Rng", "nextLong", "()J"⟩ : MethodName)) hown (mvT hZ (hw _ (List.mem_of_getElem? (i := 29) rfl))) (mvT hZ (hw _ (List.mem_of_getElem? (i := 22) rfl))) (notFace_of_selects (args := #[]) (mvT hZ (hw _ (List.mem_of_getElem? (i := 24) rfl)))) (mvT hZ (hw _ (List.mem_of_getElem? (i := 24) rfl))) (mvT hZ (hw _ (List.mem_of_getElem? (i := 23) rfl))) (by decide) (backOf (W := 0) (rm5 l Z a0 hw [] b5 q0 T13.heap n0 Z13 G16 G15 gn5) hZ (hw _ (List.mem_of_getElem? (i := 25) rfl)) (hw _ (List.mem_of_getElem? (i := 7) rfl)) (by decide) (by decide)) q17a q17c (g := (mkF m 52 #[.val (.long q0), .second, .val (.int p1), .val (.int (gB p1)), .val (.ref b2), .val (.ref b5), .val (.int (gval (own_it j13 q0) (gB p1)).toInt32), .unset, .unset, .unset, .unset, .unset, .unset, .unset, .unset] [(.ref b5)])) rfl (by rw [hml]; rfl) (Steps.refl _) (argsL := []) (rest := []) (lenOf pd_0 rfl) rfl (by show 2 * 0 + _ ≤ _; exact Nat.le_of_eq rfl) (hb hby at_52) (fun _ _ => ⟨rfl, rfl, (by decide : 2 + 0 ≤ _), (by decide : 2 + 0 ≤ _)⟩)
  dsimp only [Pt.U, Pt.locs, Pt.cells, Pt.slots] at X17 l17 y17 z17 st17 hQ17
  subst l17 y17 z17
  obtain ⟨rfl, N17q, K17q, F17q⟩ := hQ17
  have N17 := Fr.app N13 N17q
  have Z17 : n0 ≤ T17.heap.size := Nat.le_trans Z13 K17q.1
  have G18 : Exa Z T17.heap b2 "com/example/moonclaim/moonclaim/engine/Rng" := G14.keep K17q
  have G19 : Fld Z T17.heap b2 "com/example/moonclaim/moonclaim/engine/Rng" "state" "J" (.long (m0 (own_it j13 q0))) := F13q.keep K17q (ninS ne6 nin0)
  have G20 : Exa Z T17.heap b5 "com/example/moonclaim/moonclaim/engine/Rng" := G15.keep K17q
  obtain ⟨_, _, ⟨T21, L21, k21, n21⟩, -, X21, ⟨Lc21, hQ21, l21, y21, z21⟩, st21⟩ := Jvm.LawKit.callS X17 hx (y := (⟨"com/example/moonclaim/moonclaim/engine/RngBelowPinLaw", "complete", "(JJI)Z"⟩ : MethodName)) hown (mvT hZ (hw _ (List.mem_of_getElem? (i := 30) rfl))) (mvT hZ (hw _ (List.mem_of_getElem? (i := 31) rfl))) (mvT hZ (hw _ (List.mem_of_getElem? (i := 32) rfl))) (mvT hZ (hw _ (List.mem_of_getElem? (i := 33) rfl))) (by decide) (backOf (W := 0) (rm6 l Z a0 hw [] (gbits q0) (gval q0 (gB p1)) (gB p1)  T17.heap ) hZ (hw _ (List.mem_of_getElem? (i := 33) rfl)) (hw _ (List.mem_of_getElem? (i := 32) rfl)) (by decide) (by decide)) (g := (mkF m 71 #[.val (.long q0), .second, .val (.int p1), .val (.int (gB p1)), .val (.ref b2), .val (.ref b5), .val (.int (gval (own_it j13 q0) (gB p1)).toInt32), .val (.long (gbits q0)), .second, .val (.long (gval q0 (gB p1))), .second, .unset, .unset, .unset, .unset] [(.int (gB p1)), (.long (gval q0 (gB p1))), (.long (gbits q0))])) rfl (by rw [hml]; rfl) (argsL := [(.long (gbits q0)), (.long (gval q0 (gB p1))), (.int (gB p1))]) (rest := []) (lenOf pd_4 rfl) rfl (by show 2 * 0 + _ ≤ _; exact Nat.le_of_eq rfl) (hb hby at_71) (fun _ _ => ⟨rfl, rfl, (by decide : 2 + 0 ≤ _), (by decide : 2 + 0 ≤ _)⟩)
  dsimp only [Pt.U, Pt.locs, Pt.cells, Pt.slots] at X21 l21 y21 z21 st21 hQ21
  subst l21 y21 z21
  obtain ⟨rfl, rfl, e21⟩ := hQ21
  try rw [List.append_nil] at X21
  have K22 : ∀ t, Steps p.tables e below (T21.setTop (mkF m 74 #[.val (.long q0), .second, .val (.int p1), .val (.int (gB p1)), .val (.ref b2), .val (.ref b5), .val (.int (gval (own_it j13 q0) (gB p1)).toInt32), .val (.long (gbits q0)), .second, .val (.long (gval q0 (gB p1))), .second, .unset, .unset, .unset, .unset] [(.int (f6 (gbits q0) (gval q0 (gB p1)) (gB p1)))])) t → Steps p.tables e below (s₁.setTop (mkF m 0 #[.val (.long q0), .second, .val (.int p1), .unset, .unset, .unset, .unset, .unset, .unset, .unset, .unset, .unset, .unset, .unset, .unset] [])) t := by
    intro t kt
    show Steps p.tables e below (s₁.setTop (mkF m 0 #[.val (.long q0), .second, .val (.int p1), .unset, .unset, .unset, .unset, .unset, .unset, .unset, .unset, .unset, .unset, .unset, .unset] [])) _
    refine XS.iconst X0.here hx rfl (hb hby at_0) ?_
    show Steps p.tables e below (s₁.setTop (mkF m 1 #[.val (.long q0), .second, .val (.int p1), .unset, .unset, .unset, .unset, .unset, .unset, .unset, .unset, .unset, .unset, .unset, .unset] [(.int (1 : Int32))])) _
    refine XS.iloadN X0.here hx rfl (hb hby at_1) rfl ?_
    show Steps p.tables e below (s₁.setTop (mkF m 2 #[.val (.long q0), .second, .val (.int p1), .unset, .unset, .unset, .unset, .unset, .unset, .unset, .unset, .unset, .unset, .unset, .unset] [(.int p1), (.int (1 : Int32))])) _
    refine X0.ldcInt hx hown (mvT hZ (hw _ (List.mem_of_getElem? (i := 0) rfl))) (g := (mkF m 2 #[.val (.long q0), .second, .val (.int p1), .unset, .unset, .unset, .unset, .unset, .unset, .unset, .unset, .unset, .unset, .unset, .unset] [(.int p1), (.int (1 : Int32))])) rfl (hb hby at_2) _ ?_
    show Steps p.tables e below (s₁.setTop (mkF m 4 #[.val (.long q0), .second, .val (.int p1), .unset, .unset, .unset, .unset, .unset, .unset, .unset, .unset, .unset, .unset, .unset, .unset] [(.int (2147483647 : Int32)), (.int p1), (.int (1 : Int32))])) _
    refine XS.iand X0.here hx rfl (hb hby at_4) rfl ?_
    show Steps p.tables e below (s₁.setTop (mkF m 5 #[.val (.long q0), .second, .val (.int p1), .unset, .unset, .unset, .unset, .unset, .unset, .unset, .unset, .unset, .unset, .unset, .unset] [(.int (p1 &&& (2147483647 : Int32))), (.int (1 : Int32))])) _
    refine st1 _ ?_
    show Steps p.tables e below (T1.setTop (mkF m 8 #[.val (.long q0), .second, .val (.int p1), .unset, .unset, .unset, .unset, .unset, .unset, .unset, .unset, .unset, .unset, .unset, .unset] [(.int (f1 (1 : Int32) (p1 &&& (2147483647 : Int32))))])) _
    refine XS.istoreN X1.here hx rfl (hb hby at_8) rfl (l' := #[.val (.long q0), .second, .val (.int p1), .val (.int (gB p1)), .unset, .unset, .unset, .unset, .unset, .unset, .unset, .unset, .unset, .unset, .unset]) rfl ?_
    show Steps p.tables e below (T1.setTop (mkF m 9 #[.val (.long q0), .second, .val (.int p1), .val (.int (gB p1)), .unset, .unset, .unset, .unset, .unset, .unset, .unset, .unset, .unset, .unset, .unset] [])) _
    refine st2 _ ?_
    show Steps p.tables e below (T2.setTop (mkF m 12 #[.val (.long q0), .second, .val (.int p1), .val (.int (gB p1)), .unset, .unset, .unset, .unset, .unset, .unset, .unset, .unset, .unset, .unset, .unset] [(.ref b2)])) _
    refine XS.dup X2.here hx rfl (hb hby at_12) rfl rfl ?_
    show Steps p.tables e below (T2.setTop (mkF m 13 #[.val (.long q0), .second, .val (.int p1), .val (.int (gB p1)), .unset, .unset, .unset, .unset, .unset, .unset, .unset, .unset, .unset, .unset, .unset] [(.ref b2), (.ref b2)])) _
    refine XS.lloadN X2.here hx rfl (hb hby at_13) rfl ?_
    show Steps p.tables e below (T2.setTop (mkF m 14 #[.val (.long q0), .second, .val (.int p1), .val (.int (gB p1)), .unset, .unset, .unset, .unset, .unset, .unset, .unset, .unset, .unset, .unset, .unset] [(.long q0), (.ref b2), (.ref b2)])) _
    refine st3.trans ?_
    show Steps p.tables e below (T3.setTop (mkF m 17 #[.val (.long q0), .second, .val (.int p1), .val (.int (gB p1)), .unset, .unset, .unset, .unset, .unset, .unset, .unset, .unset, .unset, .unset, .unset] [(.ref b2)])) _
    refine XS.astore X3.here hx rfl (hb hby at_17) rfl rfl (l' := #[.val (.long q0), .second, .val (.int p1), .val (.int (gB p1)), .val (.ref b2), .unset, .unset, .unset, .unset, .unset, .unset, .unset, .unset, .unset, .unset]) rfl ?_
    show Steps p.tables e below (T3.setTop (mkF m 19 #[.val (.long q0), .second, .val (.int p1), .val (.int (gB p1)), .val (.ref b2), .unset, .unset, .unset, .unset, .unset, .unset, .unset, .unset, .unset, .unset] [])) _
    refine st5 _ ?_
    show Steps p.tables e below (T5.setTop (mkF m 22 #[.val (.long q0), .second, .val (.int p1), .val (.int (gB p1)), .val (.ref b2), .unset, .unset, .unset, .unset, .unset, .unset, .unset, .unset, .unset, .unset] [(.ref b5)])) _
    refine XS.dup X5.here hx rfl (hb hby at_22) rfl rfl ?_
    show Steps p.tables e below (T5.setTop (mkF m 23 #[.val (.long q0), .second, .val (.int p1), .val (.int (gB p1)), .val (.ref b2), .unset, .unset, .unset, .unset, .unset, .unset, .unset, .unset, .unset, .unset] [(.ref b5), (.ref b5)])) _
    refine XS.lloadN X5.here hx rfl (hb hby at_23) rfl ?_
    show Steps p.tables e below (T5.setTop (mkF m 24 #[.val (.long q0), .second, .val (.int p1), .val (.int (gB p1)), .val (.ref b2), .unset, .unset, .unset, .unset, .unset, .unset, .unset, .unset, .unset, .unset] [(.long q0), (.ref b5), (.ref b5)])) _
    refine st9.trans ?_
    show Steps p.tables e below (T9.setTop (mkF m 27 #[.val (.long q0), .second, .val (.int p1), .val (.int (gB p1)), .val (.ref b2), .unset, .unset, .unset, .unset, .unset, .unset, .unset, .unset, .unset, .unset] [(.ref b5)])) _
    refine XS.astore X9.here hx rfl (hb hby at_27) rfl rfl (l' := #[.val (.long q0), .second, .val (.int p1), .val (.int (gB p1)), .val (.ref b2), .val (.ref b5), .unset, .unset, .unset, .unset, .unset, .unset, .unset, .unset, .unset]) rfl ?_
    show Steps p.tables e below (T9.setTop (mkF m 29 #[.val (.long q0), .second, .val (.int p1), .val (.int (gB p1)), .val (.ref b2), .val (.ref b5), .unset, .unset, .unset, .unset, .unset, .unset, .unset, .unset, .unset] [])) _
    refine XS.aload X9.here hx rfl (hb hby at_29) rfl rfl ?_
    show Steps p.tables e below (T9.setTop (mkF m 31 #[.val (.long q0), .second, .val (.int p1), .val (.int (gB p1)), .val (.ref b2), .val (.ref b5), .unset, .unset, .unset, .unset, .unset, .unset, .unset, .unset, .unset] [(.ref b2)])) _
    refine XS.iloadN X9.here hx rfl (hb hby at_31) rfl ?_
    show Steps p.tables e below (T9.setTop (mkF m 32 #[.val (.long q0), .second, .val (.int p1), .val (.int (gB p1)), .val (.ref b2), .val (.ref b5), .unset, .unset, .unset, .unset, .unset, .unset, .unset, .unset, .unset] [(.int (gB p1)), (.ref b2)])) _
    refine st13.trans ?_
    show Steps p.tables e below (T13.setTop (mkF m 35 #[.val (.long q0), .second, .val (.int p1), .val (.int (gB p1)), .val (.ref b2), .val (.ref b5), .unset, .unset, .unset, .unset, .unset, .unset, .unset, .unset, .unset] [(.int (gval (own_it j13 q0) (gB p1)).toInt32)])) _
    refine XS.istore X13.here hx rfl (hb hby at_35) rfl (l' := #[.val (.long q0), .second, .val (.int p1), .val (.int (gB p1)), .val (.ref b2), .val (.ref b5), .val (.int (gval (own_it j13 q0) (gB p1)).toInt32), .unset, .unset, .unset, .unset, .unset, .unset, .unset, .unset]) rfl ?_
    show Steps p.tables e below (T13.setTop (mkF m 37 #[.val (.long q0), .second, .val (.int p1), .val (.int (gB p1)), .val (.ref b2), .val (.ref b5), .val (.int (gval (own_it j13 q0) (gB p1)).toInt32), .unset, .unset, .unset, .unset, .unset, .unset, .unset, .unset] [])) _
    refine XS.iload X13.here hx rfl (hb hby at_37) rfl ?_
    show Steps p.tables e below (T13.setTop (mkF m 39 #[.val (.long q0), .second, .val (.int p1), .val (.int (gB p1)), .val (.ref b2), .val (.ref b5), .val (.int (gval (own_it j13 q0) (gB p1)).toInt32), .unset, .unset, .unset, .unset, .unset, .unset, .unset, .unset] [(.int (gval (own_it j13 q0) (gB p1)).toInt32)])) _
    refine XS.ifNo X13.here hx rfl (hb hby at_39) rfl ((if0 _ _).trans (flt (show ¬ ((gval (own_it j13 q0) (gB p1)).toInt32 < (0 : Int32)) from (own_r0 p1 _))).1) ?_
    show Steps p.tables e below (T13.setTop (mkF m 42 #[.val (.long q0), .second, .val (.int p1), .val (.int (gB p1)), .val (.ref b2), .val (.ref b5), .val (.int (gval (own_it j13 q0) (gB p1)).toInt32), .unset, .unset, .unset, .unset, .unset, .unset, .unset, .unset] [])) _
    refine XS.iload X13.here hx rfl (hb hby at_42) rfl ?_
    show Steps p.tables e below (T13.setTop (mkF m 44 #[.val (.long q0), .second, .val (.int p1), .val (.int (gB p1)), .val (.ref b2), .val (.ref b5), .val (.int (gval (own_it j13 q0) (gB p1)).toInt32), .unset, .unset, .unset, .unset, .unset, .unset, .unset, .unset] [(.int (gval (own_it j13 q0) (gB p1)).toInt32)])) _
    refine XS.iloadN X13.here hx rfl (hb hby at_44) rfl ?_
    show Steps p.tables e below (T13.setTop (mkF m 45 #[.val (.long q0), .second, .val (.int p1), .val (.int (gB p1)), .val (.ref b2), .val (.ref b5), .val (.int (gval (own_it j13 q0) (gB p1)).toInt32), .unset, .unset, .unset, .unset, .unset, .unset, .unset, .unset] [(.int (gB p1)), (.int (gval (own_it j13 q0) (gB p1)).toInt32)])) _
    refine XS.icmpYes X13.here hx rfl (pc0 := 45) (pc' := 50) rfl (hb hby at_45) rfl (tlt (show (gval (own_it j13 q0) (gB p1)).toInt32 < (gB p1) from (own_r1 p1 _))).1 (by decide) (by decide) ?_
    show Steps p.tables e below (T13.setTop (mkF m 50 #[.val (.long q0), .second, .val (.int p1), .val (.int (gB p1)), .val (.ref b2), .val (.ref b5), .val (.int (gval (own_it j13 q0) (gB p1)).toInt32), .unset, .unset, .unset, .unset, .unset, .unset, .unset, .unset] [])) _
    refine XS.aload X13.here hx rfl (hb hby at_50) rfl rfl ?_
    show Steps p.tables e below (T13.setTop (mkF m 52 #[.val (.long q0), .second, .val (.int p1), .val (.int (gB p1)), .val (.ref b2), .val (.ref b5), .val (.int (gval (own_it j13 q0) (gB p1)).toInt32), .unset, .unset, .unset, .unset, .unset, .unset, .unset, .unset] [(.ref b5)])) _
    refine st17.trans ?_
    show Steps p.tables e below (T17.setTop (mkF m 55 #[.val (.long q0), .second, .val (.int p1), .val (.int (gB p1)), .val (.ref b2), .val (.ref b5), .val (.int (gval (own_it j13 q0) (gB p1)).toInt32), .unset, .unset, .unset, .unset, .unset, .unset, .unset, .unset] [(.long (m3 q0))])) _
    refine XS.iconst X17.here hx rfl (hb hby at_55) ?_
    show Steps p.tables e below (T17.setTop (mkF m 56 #[.val (.long q0), .second, .val (.int p1), .val (.int (gB p1)), .val (.ref b2), .val (.ref b5), .val (.int (gval (own_it j13 q0) (gB p1)).toInt32), .unset, .unset, .unset, .unset, .unset, .unset, .unset, .unset] [(.int (1 : Int32)), (.long (m3 q0))])) _
    refine XS.lushr X17.here hx rfl (hb hby at_56) rfl ?_
    show Steps p.tables e below (T17.setTop (mkF m 57 #[.val (.long q0), .second, .val (.int p1), .val (.int (gB p1)), .val (.ref b2), .val (.ref b5), .val (.int (gval (own_it j13 q0) (gB p1)).toInt32), .unset, .unset, .unset, .unset, .unset, .unset, .unset, .unset] [(.long (((m3 q0).toUInt64 >>> ((1 : Int32) &&& 0x3f).toInt64.toUInt64).toInt64))])) _
    refine XS.lstore X17.here hx rfl (hb hby at_57) rfl (l' := #[.val (.long q0), .second, .val (.int p1), .val (.int (gB p1)), .val (.ref b2), .val (.ref b5), .val (.int (gval (own_it j13 q0) (gB p1)).toInt32), .val (.long (gbits q0)), .second, .unset, .unset, .unset, .unset, .unset, .unset]) rfl ?_
    show Steps p.tables e below (T17.setTop (mkF m 59 #[.val (.long q0), .second, .val (.int p1), .val (.int (gB p1)), .val (.ref b2), .val (.ref b5), .val (.int (gval (own_it j13 q0) (gB p1)).toInt32), .val (.long (gbits q0)), .second, .unset, .unset, .unset, .unset, .unset, .unset] [])) _
    refine XS.lload X17.here hx rfl (hb hby at_59) rfl ?_
    show Steps p.tables e below (T17.setTop (mkF m 61 #[.val (.long q0), .second, .val (.int p1), .val (.int (gB p1)), .val (.ref b2), .val (.ref b5), .val (.int (gval (own_it j13 q0) (gB p1)).toInt32), .val (.long (gbits q0)), .second, .unset, .unset, .unset, .unset, .unset, .unset] [(.long (gbits q0))])) _
    refine XS.iloadN X17.here hx rfl (hb hby at_61) rfl ?_
    show Steps p.tables e below (T17.setTop (mkF m 62 #[.val (.long q0), .second, .val (.int p1), .val (.int (gB p1)), .val (.ref b2), .val (.ref b5), .val (.int (gval (own_it j13 q0) (gB p1)).toInt32), .val (.long (gbits q0)), .second, .unset, .unset, .unset, .unset, .unset, .unset] [(.int (gB p1)), (.long (gbits q0))])) _
    refine XS.i2l X17.here hx rfl (hb hby at_62) rfl ?_
    show Steps p.tables e below (T17.setTop (mkF m 63 #[.val (.long q0), .second, .val (.int p1), .val (.int (gB p1)), .val (.ref b2), .val (.ref b5), .val (.int (gval (own_it j13 q0) (gB p1)).toInt32), .val (.long (gbits q0)), .second, .unset, .unset, .unset, .unset, .unset, .unset] [(.long ((gB p1).toInt64)), (.long (gbits q0))])) _
    refine XS.lrem X17.here hx rfl (hb hby at_63) rfl (own_bnz p1) ?_
    show Steps p.tables e below (T17.setTop (mkF m 64 #[.val (.long q0), .second, .val (.int p1), .val (.int (gB p1)), .val (.ref b2), .val (.ref b5), .val (.int (gval (own_it j13 q0) (gB p1)).toInt32), .val (.long (gbits q0)), .second, .unset, .unset, .unset, .unset, .unset, .unset] [(.long ((gbits q0) - ((gbits q0) / ((gB p1).toInt64)) * ((gB p1).toInt64)))])) _
    refine XS.lstore X17.here hx rfl (hb hby at_64) rfl (l' := #[.val (.long q0), .second, .val (.int p1), .val (.int (gB p1)), .val (.ref b2), .val (.ref b5), .val (.int (gval (own_it j13 q0) (gB p1)).toInt32), .val (.long (gbits q0)), .second, .val (.long (gval q0 (gB p1))), .second, .unset, .unset, .unset, .unset]) rfl ?_
    show Steps p.tables e below (T17.setTop (mkF m 66 #[.val (.long q0), .second, .val (.int p1), .val (.int (gB p1)), .val (.ref b2), .val (.ref b5), .val (.int (gval (own_it j13 q0) (gB p1)).toInt32), .val (.long (gbits q0)), .second, .val (.long (gval q0 (gB p1))), .second, .unset, .unset, .unset, .unset] [])) _
    refine XS.lload X17.here hx rfl (hb hby at_66) rfl ?_
    show Steps p.tables e below (T17.setTop (mkF m 68 #[.val (.long q0), .second, .val (.int p1), .val (.int (gB p1)), .val (.ref b2), .val (.ref b5), .val (.int (gval (own_it j13 q0) (gB p1)).toInt32), .val (.long (gbits q0)), .second, .val (.long (gval q0 (gB p1))), .second, .unset, .unset, .unset, .unset] [(.long (gbits q0))])) _
    refine XS.lload X17.here hx rfl (hb hby at_68) rfl ?_
    show Steps p.tables e below (T17.setTop (mkF m 70 #[.val (.long q0), .second, .val (.int p1), .val (.int (gB p1)), .val (.ref b2), .val (.ref b5), .val (.int (gval (own_it j13 q0) (gB p1)).toInt32), .val (.long (gbits q0)), .second, .val (.long (gval q0 (gB p1))), .second, .unset, .unset, .unset, .unset] [(.long (gval q0 (gB p1))), (.long (gbits q0))])) _
    refine XS.iloadN X17.here hx rfl (hb hby at_70) rfl ?_
    show Steps p.tables e below (T17.setTop (mkF m 71 #[.val (.long q0), .second, .val (.int p1), .val (.int (gB p1)), .val (.ref b2), .val (.ref b5), .val (.int (gval (own_it j13 q0) (gB p1)).toInt32), .val (.long (gbits q0)), .second, .val (.long (gval q0 (gB p1))), .second, .unset, .unset, .unset, .unset] [(.int (gB p1)), (.long (gval q0 (gB p1))), (.long (gbits q0))])) _
    refine st21 _ ?_
    exact kt
  by_cases hc23 : (f6 (gbits q0) (gval q0 (gB p1)) (gB p1)) = (0 : Int32)
  · skip
    obtain ⟨cq24, kq24, q24a, q24b, q24c⟩ := isOf hZ e21 G20
    obtain ⟨_, _, ⟨T24, L24, k24, n24⟩, -, X24, ⟨Lc24, hQ24, l24, y24, z24⟩, st24⟩ := X21.virtualBack hx (y := (⟨"com/example/moonclaim/moonclaim/engine/Rng", "nextLong", "()J"⟩ : MethodName)) (z := (⟨"com/example/moonclaim/moonclaim/engine/Rng", "nextLong", "()J"⟩ : MethodName)) hown (mvT hZ (hw _ (List.mem_of_getElem? (i := 29) rfl))) (mvT hZ (hw _ (List.mem_of_getElem? (i := 22) rfl))) (notFace_of_selects (args := #[]) (mvT hZ (hw _ (List.mem_of_getElem? (i := 24) rfl)))) (mvT hZ (hw _ (List.mem_of_getElem? (i := 24) rfl))) (mvT hZ (hw _ (List.mem_of_getElem? (i := 23) rfl))) (by decide) (backOf (W := 0) (rm5 l Z a0 hw [] b5 (m0 q0) T17.heap n0 Z17 F17q G20 gn5) hZ (hw _ (List.mem_of_getElem? (i := 25) rfl)) (hw _ (List.mem_of_getElem? (i := 7) rfl)) (by decide) (by decide)) q24a q24c (g := (mkF m 108 #[.val (.long q0), .second, .val (.int p1), .val (.int (gB p1)), .val (.ref b2), .val (.ref b5), .val (.int (gval (own_it j13 q0) (gB p1)).toInt32), .val (.long (gbits q0)), .second, .val (.long (gval q0 (gB p1))), .second, .unset, .unset, .unset, .unset] [(.ref b5)])) rfl (by rw [hml]; rfl) (Steps.refl _) (argsL := []) (rest := []) (lenOf pd_0 rfl) rfl (by show 2 * 0 + _ ≤ _; exact Nat.le_of_eq rfl) (hb hby at_108) (fun _ _ => ⟨rfl, e21, (by decide : 2 + 0 ≤ _), (by decide : 2 + 0 ≤ _)⟩)
    dsimp only [Pt.U, Pt.locs, Pt.cells, Pt.slots] at X24 l24 y24 z24 st24 hQ24
    subst l24 y24 z24
    obtain ⟨rfl, N24q, K24q, F24q⟩ := hQ24
    have N24 := Fr.app N17 N24q
    have Z24 : n0 ≤ T24.heap.size := Nat.le_trans Z17 K24q.1
    have G25 : Exa Z T24.heap b2 "com/example/moonclaim/moonclaim/engine/Rng" := G18.keep K24q
    have G26 : Fld Z T24.heap b2 "com/example/moonclaim/moonclaim/engine/Rng" "state" "J" (.long (m0 (own_it j13 q0))) := G19.keep K24q (ninS ne6 nin0)
    have G27 : Exa Z T24.heap b5 "com/example/moonclaim/moonclaim/engine/Rng" := G20.keep K24q
    obtain ⟨_, _, ⟨T28, L28, k28, n28⟩, -, X28, ⟨Lc28, hQ28, l28, y28, z28⟩, st28⟩ := Jvm.LawKit.callS X24 hx (y := (⟨"com/example/moonclaim/moonclaim/engine/RngBelowPinLaw", "complete", "(JJI)Z"⟩ : MethodName)) hown (mvT hZ (hw _ (List.mem_of_getElem? (i := 30) rfl))) (mvT hZ (hw _ (List.mem_of_getElem? (i := 31) rfl))) (mvT hZ (hw _ (List.mem_of_getElem? (i := 32) rfl))) (mvT hZ (hw _ (List.mem_of_getElem? (i := 33) rfl))) (by decide) (backOf (W := 0) (rm6 l Z a0 hw [] (gbits (m0 q0)) (gval (m0 q0) (gB p1)) (gB p1)  T24.heap ) hZ (hw _ (List.mem_of_getElem? (i := 33) rfl)) (hw _ (List.mem_of_getElem? (i := 32) rfl)) (by decide) (by decide)) (g := (mkF m 127 #[.val (.long q0), .second, .val (.int p1), .val (.int (gB p1)), .val (.ref b2), .val (.ref b5), .val (.int (gval (own_it j13 q0) (gB p1)).toInt32), .val (.long (gbits q0)), .second, .val (.long (gval q0 (gB p1))), .second, .val (.long (gbits (m0 q0))), .second, .val (.long (gval (m0 q0) (gB p1))), .second] [(.int (gB p1)), (.long (gval (m0 q0) (gB p1))), (.long (gbits (m0 q0)))])) rfl (by rw [hml]; rfl) (argsL := [(.long (gbits (m0 q0))), (.long (gval (m0 q0) (gB p1))), (.int (gB p1))]) (rest := []) (lenOf pd_4 rfl) rfl (by show 2 * 0 + _ ≤ _; exact Nat.le_of_eq rfl) (hb hby at_127) (fun _ _ => ⟨rfl, rfl, (by decide : 2 + 0 ≤ _), (by decide : 2 + 0 ≤ _)⟩)
    dsimp only [Pt.U, Pt.locs, Pt.cells, Pt.slots] at X28 l28 y28 z28 st28 hQ28
    subst l28 y28 z28
    obtain ⟨rfl, rfl, e28⟩ := hQ28
    try rw [List.append_nil] at X28
    have K29 : ∀ t, Steps p.tables e below (T28.setTop (mkF m 130 #[.val (.long q0), .second, .val (.int p1), .val (.int (gB p1)), .val (.ref b2), .val (.ref b5), .val (.int (gval (own_it j13 q0) (gB p1)).toInt32), .val (.long (gbits q0)), .second, .val (.long (gval q0 (gB p1))), .second, .val (.long (gbits (m0 q0))), .second, .val (.long (gval (m0 q0) (gB p1))), .second] [(.int (f6 (gbits (m0 q0)) (gval (m0 q0) (gB p1)) (gB p1)))])) t → Steps p.tables e below (s₁.setTop (mkF m 0 #[.val (.long q0), .second, .val (.int p1), .unset, .unset, .unset, .unset, .unset, .unset, .unset, .unset, .unset, .unset, .unset, .unset] [])) t := by
      intro t kt
      refine K22 _ ?_
      show Steps p.tables e below (T21.setTop (mkF m 74 #[.val (.long q0), .second, .val (.int p1), .val (.int (gB p1)), .val (.ref b2), .val (.ref b5), .val (.int (gval (own_it j13 q0) (gB p1)).toInt32), .val (.long (gbits q0)), .second, .val (.long (gval q0 (gB p1))), .second, .unset, .unset, .unset, .unset] [(.int (f6 (gbits q0) (gval q0 (gB p1)) (gB p1)))])) _
      refine XS.ifYes X21.here hx rfl (pc0 := 74) (pc' := 106) rfl (hb hby at_74) rfl ((if0 _ _).trans (teq hc23).1) (by decide) (by decide) ?_
      show Steps p.tables e below (T21.setTop (mkF m 106 #[.val (.long q0), .second, .val (.int p1), .val (.int (gB p1)), .val (.ref b2), .val (.ref b5), .val (.int (gval (own_it j13 q0) (gB p1)).toInt32), .val (.long (gbits q0)), .second, .val (.long (gval q0 (gB p1))), .second, .unset, .unset, .unset, .unset] [])) _
      refine XS.aload X21.here hx rfl (hb hby at_106) rfl rfl ?_
      show Steps p.tables e below (T21.setTop (mkF m 108 #[.val (.long q0), .second, .val (.int p1), .val (.int (gB p1)), .val (.ref b2), .val (.ref b5), .val (.int (gval (own_it j13 q0) (gB p1)).toInt32), .val (.long (gbits q0)), .second, .val (.long (gval q0 (gB p1))), .second, .unset, .unset, .unset, .unset] [(.ref b5)])) _
      refine st24.trans ?_
      show Steps p.tables e below (T24.setTop (mkF m 111 #[.val (.long q0), .second, .val (.int p1), .val (.int (gB p1)), .val (.ref b2), .val (.ref b5), .val (.int (gval (own_it j13 q0) (gB p1)).toInt32), .val (.long (gbits q0)), .second, .val (.long (gval q0 (gB p1))), .second, .unset, .unset, .unset, .unset] [(.long (m3 (m0 q0)))])) _
      refine XS.iconst X24.here hx rfl (hb hby at_111) ?_
      show Steps p.tables e below (T24.setTop (mkF m 112 #[.val (.long q0), .second, .val (.int p1), .val (.int (gB p1)), .val (.ref b2), .val (.ref b5), .val (.int (gval (own_it j13 q0) (gB p1)).toInt32), .val (.long (gbits q0)), .second, .val (.long (gval q0 (gB p1))), .second, .unset, .unset, .unset, .unset] [(.int (1 : Int32)), (.long (m3 (m0 q0)))])) _
      refine XS.lushr X24.here hx rfl (hb hby at_112) rfl ?_
      show Steps p.tables e below (T24.setTop (mkF m 113 #[.val (.long q0), .second, .val (.int p1), .val (.int (gB p1)), .val (.ref b2), .val (.ref b5), .val (.int (gval (own_it j13 q0) (gB p1)).toInt32), .val (.long (gbits q0)), .second, .val (.long (gval q0 (gB p1))), .second, .unset, .unset, .unset, .unset] [(.long (((m3 (m0 q0)).toUInt64 >>> ((1 : Int32) &&& 0x3f).toInt64.toUInt64).toInt64))])) _
      refine XS.lstore X24.here hx rfl (hb hby at_113) rfl (l' := #[.val (.long q0), .second, .val (.int p1), .val (.int (gB p1)), .val (.ref b2), .val (.ref b5), .val (.int (gval (own_it j13 q0) (gB p1)).toInt32), .val (.long (gbits q0)), .second, .val (.long (gval q0 (gB p1))), .second, .val (.long (gbits (m0 q0))), .second, .unset, .unset]) rfl ?_
      show Steps p.tables e below (T24.setTop (mkF m 115 #[.val (.long q0), .second, .val (.int p1), .val (.int (gB p1)), .val (.ref b2), .val (.ref b5), .val (.int (gval (own_it j13 q0) (gB p1)).toInt32), .val (.long (gbits q0)), .second, .val (.long (gval q0 (gB p1))), .second, .val (.long (gbits (m0 q0))), .second, .unset, .unset] [])) _
      refine XS.lload X24.here hx rfl (hb hby at_115) rfl ?_
      show Steps p.tables e below (T24.setTop (mkF m 117 #[.val (.long q0), .second, .val (.int p1), .val (.int (gB p1)), .val (.ref b2), .val (.ref b5), .val (.int (gval (own_it j13 q0) (gB p1)).toInt32), .val (.long (gbits q0)), .second, .val (.long (gval q0 (gB p1))), .second, .val (.long (gbits (m0 q0))), .second, .unset, .unset] [(.long (gbits (m0 q0)))])) _
      refine XS.iloadN X24.here hx rfl (hb hby at_117) rfl ?_
      show Steps p.tables e below (T24.setTop (mkF m 118 #[.val (.long q0), .second, .val (.int p1), .val (.int (gB p1)), .val (.ref b2), .val (.ref b5), .val (.int (gval (own_it j13 q0) (gB p1)).toInt32), .val (.long (gbits q0)), .second, .val (.long (gval q0 (gB p1))), .second, .val (.long (gbits (m0 q0))), .second, .unset, .unset] [(.int (gB p1)), (.long (gbits (m0 q0)))])) _
      refine XS.i2l X24.here hx rfl (hb hby at_118) rfl ?_
      show Steps p.tables e below (T24.setTop (mkF m 119 #[.val (.long q0), .second, .val (.int p1), .val (.int (gB p1)), .val (.ref b2), .val (.ref b5), .val (.int (gval (own_it j13 q0) (gB p1)).toInt32), .val (.long (gbits q0)), .second, .val (.long (gval q0 (gB p1))), .second, .val (.long (gbits (m0 q0))), .second, .unset, .unset] [(.long ((gB p1).toInt64)), (.long (gbits (m0 q0)))])) _
      refine XS.lrem X24.here hx rfl (hb hby at_119) rfl (own_bnz p1) ?_
      show Steps p.tables e below (T24.setTop (mkF m 120 #[.val (.long q0), .second, .val (.int p1), .val (.int (gB p1)), .val (.ref b2), .val (.ref b5), .val (.int (gval (own_it j13 q0) (gB p1)).toInt32), .val (.long (gbits q0)), .second, .val (.long (gval q0 (gB p1))), .second, .val (.long (gbits (m0 q0))), .second, .unset, .unset] [(.long ((gbits (m0 q0)) - ((gbits (m0 q0)) / ((gB p1).toInt64)) * ((gB p1).toInt64)))])) _
      refine XS.lstore X24.here hx rfl (hb hby at_120) rfl (l' := #[.val (.long q0), .second, .val (.int p1), .val (.int (gB p1)), .val (.ref b2), .val (.ref b5), .val (.int (gval (own_it j13 q0) (gB p1)).toInt32), .val (.long (gbits q0)), .second, .val (.long (gval q0 (gB p1))), .second, .val (.long (gbits (m0 q0))), .second, .val (.long (gval (m0 q0) (gB p1))), .second]) rfl ?_
      show Steps p.tables e below (T24.setTop (mkF m 122 #[.val (.long q0), .second, .val (.int p1), .val (.int (gB p1)), .val (.ref b2), .val (.ref b5), .val (.int (gval (own_it j13 q0) (gB p1)).toInt32), .val (.long (gbits q0)), .second, .val (.long (gval q0 (gB p1))), .second, .val (.long (gbits (m0 q0))), .second, .val (.long (gval (m0 q0) (gB p1))), .second] [])) _
      refine XS.lload X24.here hx rfl (hb hby at_122) rfl ?_
      show Steps p.tables e below (T24.setTop (mkF m 124 #[.val (.long q0), .second, .val (.int p1), .val (.int (gB p1)), .val (.ref b2), .val (.ref b5), .val (.int (gval (own_it j13 q0) (gB p1)).toInt32), .val (.long (gbits q0)), .second, .val (.long (gval q0 (gB p1))), .second, .val (.long (gbits (m0 q0))), .second, .val (.long (gval (m0 q0) (gB p1))), .second] [(.long (gbits (m0 q0)))])) _
      refine XS.lload X24.here hx rfl (hb hby at_124) rfl ?_
      show Steps p.tables e below (T24.setTop (mkF m 126 #[.val (.long q0), .second, .val (.int p1), .val (.int (gB p1)), .val (.ref b2), .val (.ref b5), .val (.int (gval (own_it j13 q0) (gB p1)).toInt32), .val (.long (gbits q0)), .second, .val (.long (gval q0 (gB p1))), .second, .val (.long (gbits (m0 q0))), .second, .val (.long (gval (m0 q0) (gB p1))), .second] [(.long (gval (m0 q0) (gB p1))), (.long (gbits (m0 q0)))])) _
      refine XS.iloadN X24.here hx rfl (hb hby at_126) rfl ?_
      show Steps p.tables e below (T24.setTop (mkF m 127 #[.val (.long q0), .second, .val (.int p1), .val (.int (gB p1)), .val (.ref b2), .val (.ref b5), .val (.int (gval (own_it j13 q0) (gB p1)).toInt32), .val (.long (gbits q0)), .second, .val (.long (gval q0 (gB p1))), .second, .val (.long (gbits (m0 q0))), .second, .val (.long (gval (m0 q0) (gB p1))), .second] [(.int (gB p1)), (.long (gval (m0 q0) (gB p1))), (.long (gbits (m0 q0)))])) _
      refine st28 _ ?_
      exact kt
    by_cases hc30 : (f6 (gbits (m0 q0)) (gval (m0 q0) (gB p1)) (gB p1)) = (0 : Int32)
    · skip
      have K31 : ∀ t, Steps p.tables e below (T28.setTop (mkF m 163 #[.val (.long q0), .second, .val (.int p1), .val (.int (gB p1)), .val (.ref b2), .val (.ref b5), .val (.int (gval (own_it j13 q0) (gB p1)).toInt32), .val (.long (gbits q0)), .second, .val (.long (gval q0 (gB p1))), .second, .val (.long (gbits (m0 q0))), .second, .val (.long (gval (m0 q0) (gB p1))), .second] [(.int (1 : Int32))])) t → Steps p.tables e below (s₁.setTop (mkF m 0 #[.val (.long q0), .second, .val (.int p1), .unset, .unset, .unset, .unset, .unset, .unset, .unset, .unset, .unset, .unset, .unset, .unset] [])) t := by
        intro t kt
        refine K29 _ ?_
        show Steps p.tables e below (T28.setTop (mkF m 130 #[.val (.long q0), .second, .val (.int p1), .val (.int (gB p1)), .val (.ref b2), .val (.ref b5), .val (.int (gval (own_it j13 q0) (gB p1)).toInt32), .val (.long (gbits q0)), .second, .val (.long (gval q0 (gB p1))), .second, .val (.long (gbits (m0 q0))), .second, .val (.long (gval (m0 q0) (gB p1))), .second] [(.int (f6 (gbits (m0 q0)) (gval (m0 q0) (gB p1)) (gB p1)))])) _
        refine XS.ifYes X28.here hx rfl (pc0 := 130) (pc' := 162) rfl (hb hby at_130) rfl ((if0 _ _).trans (teq hc30).1) (by decide) (by decide) ?_
        show Steps p.tables e below (T28.setTop (mkF m 162 #[.val (.long q0), .second, .val (.int p1), .val (.int (gB p1)), .val (.ref b2), .val (.ref b5), .val (.int (gval (own_it j13 q0) (gB p1)).toInt32), .val (.long (gbits q0)), .second, .val (.long (gval q0 (gB p1))), .second, .val (.long (gbits (m0 q0))), .second, .val (.long (gval (m0 q0) (gB p1))), .second] [])) _
        refine XS.iconst X28.here hx rfl (hb hby at_162) ?_
        exact kt
      obtain ⟨fs, hr, hrun, hended, hW, hsame⟩ := X28.leave (v := some (.int (1 : Int32))) (fun h => by rw [Bd.returns] at h; cases h)
      refine ⟨_, _, pre0 _ (K31 _ ?_), hrun, hended, _, _, rfl, ?_, ⟨_, rfl⟩, hW, hsame.mono (by decide) (by decide)⟩
      · show Steps p.tables e below (T28.setTop (mkF m 163 #[.val (.long q0), .second, .val (.int p1), .val (.int (gB p1)), .val (.ref b2), .val (.ref b5), .val (.int (gval (own_it j13 q0) (gB p1)).toInt32), .val (.long (gbits q0)), .second, .val (.long (gval q0 (gB p1))), .second, .val (.long (gbits (m0 q0))), .second, .val (.long (gval (m0 q0) (gB p1))), .second] [(.int (1 : Int32))])) _
        exact retN X28 hx (t := .boolean) Bd.returns (by simp) (hb hby at_163) hr
      · show Q0 Z q0 p1  h0 n0 _ T28.heap _
        rw [e28]
        exact ⟨rfl, N24⟩
    · skip
      obtain ⟨cq32, kq32, q32a, q32b, q32c⟩ := isOf hZ e28 G25
      obtain ⟨_, _, ⟨T32, L32, k32, n32⟩, -, X32, ⟨Lc32, hQ32, l32, y32, z32⟩, st32⟩ := X28.virtualBack hx (y := (⟨"com/example/moonclaim/moonclaim/engine/Rng", "nextLong", "()J"⟩ : MethodName)) (z := (⟨"com/example/moonclaim/moonclaim/engine/Rng", "nextLong", "()J"⟩ : MethodName)) hown (mvT hZ (hw _ (List.mem_of_getElem? (i := 29) rfl))) (mvT hZ (hw _ (List.mem_of_getElem? (i := 22) rfl))) (notFace_of_selects (args := #[]) (mvT hZ (hw _ (List.mem_of_getElem? (i := 24) rfl)))) (mvT hZ (hw _ (List.mem_of_getElem? (i := 24) rfl))) (mvT hZ (hw _ (List.mem_of_getElem? (i := 23) rfl))) (by decide) (backOf (W := 0) (rm5 l Z a0 hw [] b2 (m0 (own_it j13 q0)) T24.heap n0 Z24 G26 G25 gn2) hZ (hw _ (List.mem_of_getElem? (i := 25) rfl)) (hw _ (List.mem_of_getElem? (i := 7) rfl)) (by decide) (by decide)) q32a q32c (g := (mkF m 144 #[.val (.long q0), .second, .val (.int p1), .val (.int (gB p1)), .val (.ref b2), .val (.ref b5), .val (.int (gval (own_it j13 q0) (gB p1)).toInt32), .val (.long (gbits q0)), .second, .val (.long (gval q0 (gB p1))), .second, .val (.long (gbits (m0 q0))), .second, .val (.long (gval (m0 q0) (gB p1))), .second] [(.ref b2)])) rfl (by rw [hml]; rfl) (Steps.refl _) (argsL := []) (rest := []) (lenOf pd_0 rfl) rfl (by show 2 * 0 + _ ≤ _; exact Nat.le_of_eq rfl) (hb hby at_144) (fun _ _ => ⟨rfl, e28, (by decide : 2 + 0 ≤ _), (by decide : 2 + 0 ≤ _)⟩)
      dsimp only [Pt.U, Pt.locs, Pt.cells, Pt.slots] at X32 l32 y32 z32 st32 hQ32
      subst l32 y32 z32
      obtain ⟨rfl, N32q, K32q, F32q⟩ := hQ32
      have N32 := Fr.app N24 N32q
      have Z32 : n0 ≤ T32.heap.size := Nat.le_trans Z24 K32q.1
      have G33 : Exa Z T32.heap b2 "com/example/moonclaim/moonclaim/engine/Rng" := G25.keep K32q
      have G34 : Exa Z T32.heap b5 "com/example/moonclaim/moonclaim/engine/Rng" := G27.keep K32q
      have G35 : Fld Z T32.heap b5 "com/example/moonclaim/moonclaim/engine/Rng" "state" "J" (.long (m0 (m0 q0))) := F24q.keep K32q (ninS ne6.symm nin0)
      obtain ⟨cq36, kq36, q36a, q36b, q36c⟩ := isOf hZ rfl G34
      obtain ⟨_, _, ⟨T36, L36, k36, n36⟩, -, X36, ⟨Lc36, hQ36, l36, y36, z36⟩, st36⟩ := X32.virtualBack hx (y := (⟨"com/example/moonclaim/moonclaim/engine/Rng", "nextLong", "()J"⟩ : MethodName)) (z := (⟨"com/example/moonclaim/moonclaim/engine/Rng", "nextLong", "()J"⟩ : MethodName)) hown (mvT hZ (hw _ (List.mem_of_getElem? (i := 29) rfl))) (mvT hZ (hw _ (List.mem_of_getElem? (i := 22) rfl))) (notFace_of_selects (args := #[]) (mvT hZ (hw _ (List.mem_of_getElem? (i := 24) rfl)))) (mvT hZ (hw _ (List.mem_of_getElem? (i := 24) rfl))) (mvT hZ (hw _ (List.mem_of_getElem? (i := 23) rfl))) (by decide) (backOf (W := 2) (rm5 l Z a0 hw [] b5 (m0 (m0 q0)) T32.heap n0 Z32 G35 G34 gn5) hZ (hw _ (List.mem_of_getElem? (i := 25) rfl)) (hw _ (List.mem_of_getElem? (i := 7) rfl)) (by decide) (by decide)) q36a q36c (g := (mkF m 149 #[.val (.long q0), .second, .val (.int p1), .val (.int (gB p1)), .val (.ref b2), .val (.ref b5), .val (.int (gval (own_it j13 q0) (gB p1)).toInt32), .val (.long (gbits q0)), .second, .val (.long (gval q0 (gB p1))), .second, .val (.long (gbits (m0 q0))), .second, .val (.long (gval (m0 q0) (gB p1))), .second] [(.ref b5), (.long (m3 (m0 (own_it j13 q0))))])) rfl (by rw [hml]; rfl) (Steps.refl _) (argsL := []) (rest := [(.long (m3 (m0 (own_it j13 q0))))]) (lenOf pd_0 rfl) rfl (by show 2 * 0 + _ ≤ _; exact Nat.le_of_eq rfl) (hb hby at_149) (fun _ _ => ⟨rfl, rfl, (by decide : 2 + 0 ≤ _), (by decide : 2 + 0 ≤ _)⟩)
      dsimp only [Pt.U, Pt.locs, Pt.cells, Pt.slots] at X36 l36 y36 z36 st36 hQ36
      subst l36 y36 z36
      obtain ⟨rfl, N36q, K36q, F36q⟩ := hQ36
      have N36 := Fr.app N32 N36q
      have Z36 : n0 ≤ T36.heap.size := Nat.le_trans Z32 K36q.1
      have G37 : Exa Z T36.heap b2 "com/example/moonclaim/moonclaim/engine/Rng" := G33.keep K36q
      have G38 : Fld Z T36.heap b2 "com/example/moonclaim/moonclaim/engine/Rng" "state" "J" (.long (m0 (m0 (own_it j13 q0)))) := F32q.keep K36q (ninS ne6 nin0)
      have G39 : Exa Z T36.heap b5 "com/example/moonclaim/moonclaim/engine/Rng" := G34.keep K36q
      have K40 : ∀ t, Steps p.tables e below (T36.setTop (mkF m 161 #[.val (.long q0), .second, .val (.int p1), .val (.int (gB p1)), .val (.ref b2), .val (.ref b5), .val (.int (gval (own_it j13 q0) (gB p1)).toInt32), .val (.long (gbits q0)), .second, .val (.long (gval q0 (gB p1))), .second, .val (.long (gbits (m0 q0))), .second, .val (.long (gval (m0 q0) (gB p1))), .second] [(.int (1 : Int32))])) t → Steps p.tables e below (s₁.setTop (mkF m 0 #[.val (.long q0), .second, .val (.int p1), .unset, .unset, .unset, .unset, .unset, .unset, .unset, .unset, .unset, .unset, .unset, .unset] [])) t := by
        intro t kt
        refine K29 _ ?_
        show Steps p.tables e below (T28.setTop (mkF m 130 #[.val (.long q0), .second, .val (.int p1), .val (.int (gB p1)), .val (.ref b2), .val (.ref b5), .val (.int (gval (own_it j13 q0) (gB p1)).toInt32), .val (.long (gbits q0)), .second, .val (.long (gval q0 (gB p1))), .second, .val (.long (gbits (m0 q0))), .second, .val (.long (gval (m0 q0) (gB p1))), .second] [(.int (f6 (gbits (m0 q0)) (gval (m0 q0) (gB p1)) (gB p1)))])) _
        refine XS.ifNo X28.here hx rfl (hb hby at_130) rfl ((if0 _ _).trans (feq hc30).1) ?_
        show Steps p.tables e below (T28.setTop (mkF m 133 #[.val (.long q0), .second, .val (.int p1), .val (.int (gB p1)), .val (.ref b2), .val (.ref b5), .val (.int (gval (own_it j13 q0) (gB p1)).toInt32), .val (.long (gbits q0)), .second, .val (.long (gval q0 (gB p1))), .second, .val (.long (gbits (m0 q0))), .second, .val (.long (gval (m0 q0) (gB p1))), .second] [])) _
        refine XS.iload X28.here hx rfl (hb hby at_133) rfl ?_
        show Steps p.tables e below (T28.setTop (mkF m 135 #[.val (.long q0), .second, .val (.int p1), .val (.int (gB p1)), .val (.ref b2), .val (.ref b5), .val (.int (gval (own_it j13 q0) (gB p1)).toInt32), .val (.long (gbits q0)), .second, .val (.long (gval q0 (gB p1))), .second, .val (.long (gbits (m0 q0))), .second, .val (.long (gval (m0 q0) (gB p1))), .second] [(.int (gval (own_it j13 q0) (gB p1)).toInt32)])) _
        refine XS.i2l X28.here hx rfl (hb hby at_135) rfl ?_
        show Steps p.tables e below (T28.setTop (mkF m 136 #[.val (.long q0), .second, .val (.int p1), .val (.int (gB p1)), .val (.ref b2), .val (.ref b5), .val (.int (gval (own_it j13 q0) (gB p1)).toInt32), .val (.long (gbits q0)), .second, .val (.long (gval q0 (gB p1))), .second, .val (.long (gbits (m0 q0))), .second, .val (.long (gval (m0 q0) (gB p1))), .second] [(.long ((gval (own_it j13 q0) (gB p1)).toInt32.toInt64))])) _
        refine XS.lload X28.here hx rfl (hb hby at_136) rfl ?_
        show Steps p.tables e below (T28.setTop (mkF m 138 #[.val (.long q0), .second, .val (.int p1), .val (.int (gB p1)), .val (.ref b2), .val (.ref b5), .val (.int (gval (own_it j13 q0) (gB p1)).toInt32), .val (.long (gbits q0)), .second, .val (.long (gval q0 (gB p1))), .second, .val (.long (gbits (m0 q0))), .second, .val (.long (gval (m0 q0) (gB p1))), .second] [(.long (gval (m0 q0) (gB p1))), (.long ((gval (own_it j13 q0) (gB p1)).toInt32.toInt64))])) _
        refine XS.lcmp X28.here hx rfl (hb hby at_138) rfl ?_
        show Steps p.tables e below (T28.setTop (mkF m 139 #[.val (.long q0), .second, .val (.int p1), .val (.int (gB p1)), .val (.ref b2), .val (.ref b5), .val (.int (gval (own_it j13 q0) (gB p1)).toInt32), .val (.long (gbits q0)), .second, .val (.long (gval q0 (gB p1))), .second, .val (.long (gbits (m0 q0))), .second, .val (.long (gval (m0 q0) (gB p1))), .second] [(.int (lcmpW ((gval (own_it j13 q0) (gB p1)).toInt32.toInt64) (gval (m0 q0) (gB p1))))])) _
        refine XS.ifNo X28.here hx rfl (hb hby at_139) rfl ((if0 _ _).trans (teq ((lw_eq _ _).mpr (show ((gval (own_it j13 q0) (gB p1)).toInt32.toInt64) = (gval (m0 q0) (gB p1)) from (own_e3 hlt13 hac13 hc23 hc30)))).2) ?_
        show Steps p.tables e below (T28.setTop (mkF m 142 #[.val (.long q0), .second, .val (.int p1), .val (.int (gB p1)), .val (.ref b2), .val (.ref b5), .val (.int (gval (own_it j13 q0) (gB p1)).toInt32), .val (.long (gbits q0)), .second, .val (.long (gval q0 (gB p1))), .second, .val (.long (gbits (m0 q0))), .second, .val (.long (gval (m0 q0) (gB p1))), .second] [])) _
        refine XS.aload X28.here hx rfl (hb hby at_142) rfl rfl ?_
        show Steps p.tables e below (T28.setTop (mkF m 144 #[.val (.long q0), .second, .val (.int p1), .val (.int (gB p1)), .val (.ref b2), .val (.ref b5), .val (.int (gval (own_it j13 q0) (gB p1)).toInt32), .val (.long (gbits q0)), .second, .val (.long (gval q0 (gB p1))), .second, .val (.long (gbits (m0 q0))), .second, .val (.long (gval (m0 q0) (gB p1))), .second] [(.ref b2)])) _
        refine st32.trans ?_
        show Steps p.tables e below (T32.setTop (mkF m 147 #[.val (.long q0), .second, .val (.int p1), .val (.int (gB p1)), .val (.ref b2), .val (.ref b5), .val (.int (gval (own_it j13 q0) (gB p1)).toInt32), .val (.long (gbits q0)), .second, .val (.long (gval q0 (gB p1))), .second, .val (.long (gbits (m0 q0))), .second, .val (.long (gval (m0 q0) (gB p1))), .second] [(.long (m3 (m0 (own_it j13 q0))))])) _
        refine XS.aload X32.here hx rfl (hb hby at_147) rfl rfl ?_
        show Steps p.tables e below (T32.setTop (mkF m 149 #[.val (.long q0), .second, .val (.int p1), .val (.int (gB p1)), .val (.ref b2), .val (.ref b5), .val (.int (gval (own_it j13 q0) (gB p1)).toInt32), .val (.long (gbits q0)), .second, .val (.long (gval q0 (gB p1))), .second, .val (.long (gbits (m0 q0))), .second, .val (.long (gval (m0 q0) (gB p1))), .second] [(.ref b5), (.long (m3 (m0 (own_it j13 q0))))])) _
        refine st36.trans ?_
        show Steps p.tables e below (T36.setTop (mkF m 152 #[.val (.long q0), .second, .val (.int p1), .val (.int (gB p1)), .val (.ref b2), .val (.ref b5), .val (.int (gval (own_it j13 q0) (gB p1)).toInt32), .val (.long (gbits q0)), .second, .val (.long (gval q0 (gB p1))), .second, .val (.long (gbits (m0 q0))), .second, .val (.long (gval (m0 q0) (gB p1))), .second] [(.long (m3 (m0 (m0 q0)))), (.long (m3 (m0 (own_it j13 q0))))])) _
        refine XS.lcmp X36.here hx rfl (hb hby at_152) rfl ?_
        show Steps p.tables e below (T36.setTop (mkF m 153 #[.val (.long q0), .second, .val (.int p1), .val (.int (gB p1)), .val (.ref b2), .val (.ref b5), .val (.int (gval (own_it j13 q0) (gB p1)).toInt32), .val (.long (gbits q0)), .second, .val (.long (gval q0 (gB p1))), .second, .val (.long (gbits (m0 q0))), .second, .val (.long (gval (m0 q0) (gB p1))), .second] [(.int (lcmpW (m3 (m0 (own_it j13 q0))) (m3 (m0 (m0 q0)))))])) _
        refine XS.ifNo X36.here hx rfl (hb hby at_153) rfl ((if0 _ _).trans (teq ((lw_eq _ _).mpr (show (m3 (m0 (own_it j13 q0))) = (m3 (m0 (m0 q0))) from (own_e4 hlt13 hac13 hc23 hc30)))).2) ?_
        show Steps p.tables e below (T36.setTop (mkF m 156 #[.val (.long q0), .second, .val (.int p1), .val (.int (gB p1)), .val (.ref b2), .val (.ref b5), .val (.int (gval (own_it j13 q0) (gB p1)).toInt32), .val (.long (gbits q0)), .second, .val (.long (gval q0 (gB p1))), .second, .val (.long (gbits (m0 q0))), .second, .val (.long (gval (m0 q0) (gB p1))), .second] [])) _
        refine XS.iconst X36.here hx rfl (hb hby at_156) ?_
        show Steps p.tables e below (T36.setTop (mkF m 157 #[.val (.long q0), .second, .val (.int p1), .val (.int (gB p1)), .val (.ref b2), .val (.ref b5), .val (.int (gval (own_it j13 q0) (gB p1)).toInt32), .val (.long (gbits q0)), .second, .val (.long (gval q0 (gB p1))), .second, .val (.long (gbits (m0 q0))), .second, .val (.long (gval (m0 q0) (gB p1))), .second] [(.int (1 : Int32))])) _
        refine XS.goto X36.here hx rfl (pc0 := 157) (pc' := 161) rfl (hb hby at_157) (by decide) (by decide) ?_
        exact kt
      obtain ⟨fs, hr, hrun, hended, hW, hsame⟩ := X36.leave (v := some (.int (1 : Int32))) (fun h => by rw [Bd.returns] at h; cases h)
      refine ⟨_, _, pre0 _ (K40 _ ?_), hrun, hended, _, _, rfl, ?_, ⟨_, rfl⟩, hW, hsame.mono (by decide) (by decide)⟩
      · show Steps p.tables e below (T36.setTop (mkF m 161 #[.val (.long q0), .second, .val (.int p1), .val (.int (gB p1)), .val (.ref b2), .val (.ref b5), .val (.int (gval (own_it j13 q0) (gB p1)).toInt32), .val (.long (gbits q0)), .second, .val (.long (gval q0 (gB p1))), .second, .val (.long (gbits (m0 q0))), .second, .val (.long (gval (m0 q0) (gB p1))), .second] [(.int (1 : Int32))])) _
        exact retN X36 hx (t := .boolean) Bd.returns (by simp) (hb hby at_161) hr
      · show Q0 Z q0 p1  h0 n0 _ T36.heap _
        exact ⟨rfl, N36⟩
  · skip
    obtain ⟨cq41, kq41, q41a, q41b, q41c⟩ := isOf hZ e21 G18
    obtain ⟨_, _, ⟨T41, L41, k41, n41⟩, -, X41, ⟨Lc41, hQ41, l41, y41, z41⟩, st41⟩ := X21.virtualBack hx (y := (⟨"com/example/moonclaim/moonclaim/engine/Rng", "nextLong", "()J"⟩ : MethodName)) (z := (⟨"com/example/moonclaim/moonclaim/engine/Rng", "nextLong", "()J"⟩ : MethodName)) hown (mvT hZ (hw _ (List.mem_of_getElem? (i := 29) rfl))) (mvT hZ (hw _ (List.mem_of_getElem? (i := 22) rfl))) (notFace_of_selects (args := #[]) (mvT hZ (hw _ (List.mem_of_getElem? (i := 24) rfl)))) (mvT hZ (hw _ (List.mem_of_getElem? (i := 24) rfl))) (mvT hZ (hw _ (List.mem_of_getElem? (i := 23) rfl))) (by decide) (backOf (W := 0) (rm5 l Z a0 hw [] b2 (m0 (own_it j13 q0)) T17.heap n0 Z17 G19 G18 gn2) hZ (hw _ (List.mem_of_getElem? (i := 25) rfl)) (hw _ (List.mem_of_getElem? (i := 7) rfl)) (by decide) (by decide)) q41a q41c (g := (mkF m 88 #[.val (.long q0), .second, .val (.int p1), .val (.int (gB p1)), .val (.ref b2), .val (.ref b5), .val (.int (gval (own_it j13 q0) (gB p1)).toInt32), .val (.long (gbits q0)), .second, .val (.long (gval q0 (gB p1))), .second, .unset, .unset, .unset, .unset] [(.ref b2)])) rfl (by rw [hml]; rfl) (Steps.refl _) (argsL := []) (rest := []) (lenOf pd_0 rfl) rfl (by show 2 * 0 + _ ≤ _; exact Nat.le_of_eq rfl) (hb hby at_88) (fun _ _ => ⟨rfl, e21, (by decide : 2 + 0 ≤ _), (by decide : 2 + 0 ≤ _)⟩)
    dsimp only [Pt.U, Pt.locs, Pt.cells, Pt.slots] at X41 l41 y41 z41 st41 hQ41
    subst l41 y41 z41
    obtain ⟨rfl, N41q, K41q, F41q⟩ := hQ41
    have N41 := Fr.app N17 N41q
    have Z41 : n0 ≤ T41.heap.size := Nat.le_trans Z17 K41q.1
    have G42 : Exa Z T41.heap b2 "com/example/moonclaim/moonclaim/engine/Rng" := G18.keep K41q
    have G43 : Exa Z T41.heap b5 "com/example/moonclaim/moonclaim/engine/Rng" := G20.keep K41q
    have G44 : Fld Z T41.heap b5 "com/example/moonclaim/moonclaim/engine/Rng" "state" "J" (.long (m0 q0)) := F17q.keep K41q (ninS ne6.symm nin0)
    obtain ⟨cq45, kq45, q45a, q45b, q45c⟩ := isOf hZ rfl G43
    obtain ⟨_, _, ⟨T45, L45, k45, n45⟩, -, X45, ⟨Lc45, hQ45, l45, y45, z45⟩, st45⟩ := X41.virtualBack hx (y := (⟨"com/example/moonclaim/moonclaim/engine/Rng", "nextLong", "()J"⟩ : MethodName)) (z := (⟨"com/example/moonclaim/moonclaim/engine/Rng", "nextLong", "()J"⟩ : MethodName)) hown (mvT hZ (hw _ (List.mem_of_getElem? (i := 29) rfl))) (mvT hZ (hw _ (List.mem_of_getElem? (i := 22) rfl))) (notFace_of_selects (args := #[]) (mvT hZ (hw _ (List.mem_of_getElem? (i := 24) rfl)))) (mvT hZ (hw _ (List.mem_of_getElem? (i := 24) rfl))) (mvT hZ (hw _ (List.mem_of_getElem? (i := 23) rfl))) (by decide) (backOf (W := 2) (rm5 l Z a0 hw [] b5 (m0 q0) T41.heap n0 Z41 G44 G43 gn5) hZ (hw _ (List.mem_of_getElem? (i := 25) rfl)) (hw _ (List.mem_of_getElem? (i := 7) rfl)) (by decide) (by decide)) q45a q45c (g := (mkF m 93 #[.val (.long q0), .second, .val (.int p1), .val (.int (gB p1)), .val (.ref b2), .val (.ref b5), .val (.int (gval (own_it j13 q0) (gB p1)).toInt32), .val (.long (gbits q0)), .second, .val (.long (gval q0 (gB p1))), .second, .unset, .unset, .unset, .unset] [(.ref b5), (.long (m3 (m0 (own_it j13 q0))))])) rfl (by rw [hml]; rfl) (Steps.refl _) (argsL := []) (rest := [(.long (m3 (m0 (own_it j13 q0))))]) (lenOf pd_0 rfl) rfl (by show 2 * 0 + _ ≤ _; exact Nat.le_of_eq rfl) (hb hby at_93) (fun _ _ => ⟨rfl, rfl, (by decide : 2 + 0 ≤ _), (by decide : 2 + 0 ≤ _)⟩)
    dsimp only [Pt.U, Pt.locs, Pt.cells, Pt.slots] at X45 l45 y45 z45 st45 hQ45
    subst l45 y45 z45
    obtain ⟨rfl, N45q, K45q, F45q⟩ := hQ45
    have N45 := Fr.app N41 N45q
    have Z45 : n0 ≤ T45.heap.size := Nat.le_trans Z41 K45q.1
    have G46 : Exa Z T45.heap b2 "com/example/moonclaim/moonclaim/engine/Rng" := G42.keep K45q
    have G47 : Fld Z T45.heap b2 "com/example/moonclaim/moonclaim/engine/Rng" "state" "J" (.long (m0 (m0 (own_it j13 q0)))) := F41q.keep K45q (ninS ne6 nin0)
    have G48 : Exa Z T45.heap b5 "com/example/moonclaim/moonclaim/engine/Rng" := G43.keep K45q
    have K49 : ∀ t, Steps p.tables e below (T45.setTop (mkF m 105 #[.val (.long q0), .second, .val (.int p1), .val (.int (gB p1)), .val (.ref b2), .val (.ref b5), .val (.int (gval (own_it j13 q0) (gB p1)).toInt32), .val (.long (gbits q0)), .second, .val (.long (gval q0 (gB p1))), .second, .unset, .unset, .unset, .unset] [(.int (1 : Int32))])) t → Steps p.tables e below (s₁.setTop (mkF m 0 #[.val (.long q0), .second, .val (.int p1), .unset, .unset, .unset, .unset, .unset, .unset, .unset, .unset, .unset, .unset, .unset, .unset] [])) t := by
      intro t kt
      refine K22 _ ?_
      show Steps p.tables e below (T21.setTop (mkF m 74 #[.val (.long q0), .second, .val (.int p1), .val (.int (gB p1)), .val (.ref b2), .val (.ref b5), .val (.int (gval (own_it j13 q0) (gB p1)).toInt32), .val (.long (gbits q0)), .second, .val (.long (gval q0 (gB p1))), .second, .unset, .unset, .unset, .unset] [(.int (f6 (gbits q0) (gval q0 (gB p1)) (gB p1)))])) _
      refine XS.ifNo X21.here hx rfl (hb hby at_74) rfl ((if0 _ _).trans (feq hc23).1) ?_
      show Steps p.tables e below (T21.setTop (mkF m 77 #[.val (.long q0), .second, .val (.int p1), .val (.int (gB p1)), .val (.ref b2), .val (.ref b5), .val (.int (gval (own_it j13 q0) (gB p1)).toInt32), .val (.long (gbits q0)), .second, .val (.long (gval q0 (gB p1))), .second, .unset, .unset, .unset, .unset] [])) _
      refine XS.iload X21.here hx rfl (hb hby at_77) rfl ?_
      show Steps p.tables e below (T21.setTop (mkF m 79 #[.val (.long q0), .second, .val (.int p1), .val (.int (gB p1)), .val (.ref b2), .val (.ref b5), .val (.int (gval (own_it j13 q0) (gB p1)).toInt32), .val (.long (gbits q0)), .second, .val (.long (gval q0 (gB p1))), .second, .unset, .unset, .unset, .unset] [(.int (gval (own_it j13 q0) (gB p1)).toInt32)])) _
      refine XS.i2l X21.here hx rfl (hb hby at_79) rfl ?_
      show Steps p.tables e below (T21.setTop (mkF m 80 #[.val (.long q0), .second, .val (.int p1), .val (.int (gB p1)), .val (.ref b2), .val (.ref b5), .val (.int (gval (own_it j13 q0) (gB p1)).toInt32), .val (.long (gbits q0)), .second, .val (.long (gval q0 (gB p1))), .second, .unset, .unset, .unset, .unset] [(.long ((gval (own_it j13 q0) (gB p1)).toInt32.toInt64))])) _
      refine XS.lload X21.here hx rfl (hb hby at_80) rfl ?_
      show Steps p.tables e below (T21.setTop (mkF m 82 #[.val (.long q0), .second, .val (.int p1), .val (.int (gB p1)), .val (.ref b2), .val (.ref b5), .val (.int (gval (own_it j13 q0) (gB p1)).toInt32), .val (.long (gbits q0)), .second, .val (.long (gval q0 (gB p1))), .second, .unset, .unset, .unset, .unset] [(.long (gval q0 (gB p1))), (.long ((gval (own_it j13 q0) (gB p1)).toInt32.toInt64))])) _
      refine XS.lcmp X21.here hx rfl (hb hby at_82) rfl ?_
      show Steps p.tables e below (T21.setTop (mkF m 83 #[.val (.long q0), .second, .val (.int p1), .val (.int (gB p1)), .val (.ref b2), .val (.ref b5), .val (.int (gval (own_it j13 q0) (gB p1)).toInt32), .val (.long (gbits q0)), .second, .val (.long (gval q0 (gB p1))), .second, .unset, .unset, .unset, .unset] [(.int (lcmpW ((gval (own_it j13 q0) (gB p1)).toInt32.toInt64) (gval q0 (gB p1))))])) _
      refine XS.ifNo X21.here hx rfl (hb hby at_83) rfl ((if0 _ _).trans (teq ((lw_eq _ _).mpr (show ((gval (own_it j13 q0) (gB p1)).toInt32.toInt64) = (gval q0 (gB p1)) from (own_e1 hlt13 hac13 hc23)))).2) ?_
      show Steps p.tables e below (T21.setTop (mkF m 86 #[.val (.long q0), .second, .val (.int p1), .val (.int (gB p1)), .val (.ref b2), .val (.ref b5), .val (.int (gval (own_it j13 q0) (gB p1)).toInt32), .val (.long (gbits q0)), .second, .val (.long (gval q0 (gB p1))), .second, .unset, .unset, .unset, .unset] [])) _
      refine XS.aload X21.here hx rfl (hb hby at_86) rfl rfl ?_
      show Steps p.tables e below (T21.setTop (mkF m 88 #[.val (.long q0), .second, .val (.int p1), .val (.int (gB p1)), .val (.ref b2), .val (.ref b5), .val (.int (gval (own_it j13 q0) (gB p1)).toInt32), .val (.long (gbits q0)), .second, .val (.long (gval q0 (gB p1))), .second, .unset, .unset, .unset, .unset] [(.ref b2)])) _
      refine st41.trans ?_
      show Steps p.tables e below (T41.setTop (mkF m 91 #[.val (.long q0), .second, .val (.int p1), .val (.int (gB p1)), .val (.ref b2), .val (.ref b5), .val (.int (gval (own_it j13 q0) (gB p1)).toInt32), .val (.long (gbits q0)), .second, .val (.long (gval q0 (gB p1))), .second, .unset, .unset, .unset, .unset] [(.long (m3 (m0 (own_it j13 q0))))])) _
      refine XS.aload X41.here hx rfl (hb hby at_91) rfl rfl ?_
      show Steps p.tables e below (T41.setTop (mkF m 93 #[.val (.long q0), .second, .val (.int p1), .val (.int (gB p1)), .val (.ref b2), .val (.ref b5), .val (.int (gval (own_it j13 q0) (gB p1)).toInt32), .val (.long (gbits q0)), .second, .val (.long (gval q0 (gB p1))), .second, .unset, .unset, .unset, .unset] [(.ref b5), (.long (m3 (m0 (own_it j13 q0))))])) _
      refine st45.trans ?_
      show Steps p.tables e below (T45.setTop (mkF m 96 #[.val (.long q0), .second, .val (.int p1), .val (.int (gB p1)), .val (.ref b2), .val (.ref b5), .val (.int (gval (own_it j13 q0) (gB p1)).toInt32), .val (.long (gbits q0)), .second, .val (.long (gval q0 (gB p1))), .second, .unset, .unset, .unset, .unset] [(.long (m3 (m0 q0))), (.long (m3 (m0 (own_it j13 q0))))])) _
      refine XS.lcmp X45.here hx rfl (hb hby at_96) rfl ?_
      show Steps p.tables e below (T45.setTop (mkF m 97 #[.val (.long q0), .second, .val (.int p1), .val (.int (gB p1)), .val (.ref b2), .val (.ref b5), .val (.int (gval (own_it j13 q0) (gB p1)).toInt32), .val (.long (gbits q0)), .second, .val (.long (gval q0 (gB p1))), .second, .unset, .unset, .unset, .unset] [(.int (lcmpW (m3 (m0 (own_it j13 q0))) (m3 (m0 q0))))])) _
      refine XS.ifNo X45.here hx rfl (hb hby at_97) rfl ((if0 _ _).trans (teq ((lw_eq _ _).mpr (show (m3 (m0 (own_it j13 q0))) = (m3 (m0 q0)) from (own_e2 hlt13 hac13 hc23)))).2) ?_
      show Steps p.tables e below (T45.setTop (mkF m 100 #[.val (.long q0), .second, .val (.int p1), .val (.int (gB p1)), .val (.ref b2), .val (.ref b5), .val (.int (gval (own_it j13 q0) (gB p1)).toInt32), .val (.long (gbits q0)), .second, .val (.long (gval q0 (gB p1))), .second, .unset, .unset, .unset, .unset] [])) _
      refine XS.iconst X45.here hx rfl (hb hby at_100) ?_
      show Steps p.tables e below (T45.setTop (mkF m 101 #[.val (.long q0), .second, .val (.int p1), .val (.int (gB p1)), .val (.ref b2), .val (.ref b5), .val (.int (gval (own_it j13 q0) (gB p1)).toInt32), .val (.long (gbits q0)), .second, .val (.long (gval q0 (gB p1))), .second, .unset, .unset, .unset, .unset] [(.int (1 : Int32))])) _
      refine XS.goto X45.here hx rfl (pc0 := 101) (pc' := 105) rfl (hb hby at_101) (by decide) (by decide) ?_
      exact kt
    obtain ⟨fs, hr, hrun, hended, hW, hsame⟩ := X45.leave (v := some (.int (1 : Int32))) (fun h => by rw [Bd.returns] at h; cases h)
    refine ⟨_, _, pre0 _ (K49 _ ?_), hrun, hended, _, _, rfl, ?_, ⟨_, rfl⟩, hW, hsame.mono (by decide) (by decide)⟩
    · show Steps p.tables e below (T45.setTop (mkF m 105 #[.val (.long q0), .second, .val (.int p1), .val (.int (gB p1)), .val (.ref b2), .val (.ref b5), .val (.int (gval (own_it j13 q0) (gB p1)).toInt32), .val (.long (gbits q0)), .second, .val (.long (gval q0 (gB p1))), .second, .unset, .unset, .unset, .unset] [(.int (1 : Int32))])) _
      exact retN X45 hx (t := .boolean) Bd.returns (by simp) (hb hby at_105) hr
    · show Q0 Z q0 p1  h0 n0 _ T45.heap _
      exact ⟨rfl, N45⟩
set_option maxRecDepth 65536 in
set_option maxHeartbeats 40000000 in
theorem comes_1 {Post : Tables → Env → Array Value → State → Outcome → State → Prop} (hpost : ∀ tb e args s v u, (limb_1_1.after args s (.returned v) u = true ∧ limb_1_2.after args s (.returned v) u = true ∧ True) → FrameEnd s (.returned v) u (Jvm.fieldLocs frame_1_writes args s ++ Jvm.arrayLocs frame_1_arrays args s ++ Jvm.staticLocs frame_1_statics s) 16 128 → Post tb e args s (.returned v) u) :
    ArmFor flags0 classFile x code maxLocals ret World_1 tables_1 room_1 Calls_1 rest_1 Pre_1 Post := by
  intro l hfl _ _ p e ha hc hk s m args below hf hA hF happ hP
  obtain ⟨hcalls, hrest, hpre⟩ := hP
  obtain ⟨-, -, -, hnamed, -, -, -, hat⟩ := (Spec.applies_iff hf).mp happ
  obtain ⟨hg, hn⟩ := and_e (Cond.before_iff.mp (show (Jvm.Cond.and given_1 narrow_1).before args s = true from hpre))
  obtain ⟨hcount, hk0⟩ := and_e hg
  obtain ⟨hi0, hk1⟩ := and_e hk0
  have hi1 := hk1
  obtain ⟨w0, w1, rfl⟩ : ∃ w0 w1 : Value, args = #[w0, w1] := by
    have hs : args.size = 2 := by simpa [Cond.value, given_1] using hcount
    obtain ⟨L⟩ := args
    match L, hs with
    | [w0, w1], _ => exact ⟨w0, w1, rfl⟩
  have hw := fun d (hd : d ∈ tables_1) => atoms_spec (ws := Jvm.Cond.code x code maxLocals ret :: tables_1) hat d (List.mem_cons_of_mem _ hd)
  obtain ⟨i0, ei0⟩ := isL_v hi0
  obtain rfl : w0 = (.long i0) := Option.some.inj ei0
  obtain ⟨i1, ei1⟩ := is_v hi1
  obtain rfl : w1 = (.int i1) := Option.some.inj ei1
  obtain ⟨n, o, h1, h2, h3, v, L, rfl, hQ, hq⟩ := rm0 l s _ hw tables_1 i0 i1 s.heap s.heap.size (Nat.le_refl _) p e ha hc hk s m _ below hf ((Spec.applies_iff_loose hf).mp happ).1 ⟨rfl, State.Warmed39.refl s, rfl⟩ trivial
  obtain ⟨rfl, N⟩ : v = some (.int 1) ∧ Fr s.heap.size L := by
    exact ⟨hQ.1, hQ.2⟩
  refine ⟨n, _, h1, h2, h3, hpost _ _ _ _ _ _ ⟨Cond.after_iff.mpr rfl, Cond.after_iff.mpr (eq_i res_at (Term.int_eval (1)) rfl), trivial⟩ ⟨hq.1, hq.2.1, (hq.2.2.sift fun y hy => Or.inr (N y hy)).mono (by decide) (by decide)⟩⟩
theorem main_1_1 : Claimed_1_1 := comes_1 fun _ _ _ _ _ _ h hF => ⟨h.1, hF⟩
theorem main_1_2 : Claimed_1_2 := comes_1 fun _ _ _ _ _ _ h hF => ⟨h.2.1, hF⟩
end Jvm.Pilot.@@N@@
namespace Jvm.Pilot.@@N@@
open Jvm Jvm.ClassFile Sem Op Lib Jvm.Free Jvm.Stand Jvm.Pilot.@@N@@.Jvm.D
/-! MADE BY PROGRAM (witnessworld.py) out of the Statement's table words and the real class files: 10 classes; the members and pool entries that the words name. The judged class is class 1, her method 2. -/
namespace start1
open Jvm.ClassFile
def u (s : String) : CpInfo := .utf8 (stringToUtf16 s)
/-- a pool by its gaps: so many unusable entries, then the entry; so many at the end -/
def gap : Nat → List CpInfo → List CpInfo
  | 0, r => r
  | n + 1, r => .unusable :: gap n r
def poolList (es : List (Nat × CpInfo)) (last : Nat) : List CpInfo := es.foldr (fun e r => gap e.1 (e.2 :: r)) (gap last [])
def pool (es : List (Nat × CpInfo)) (last : Nat) : Array CpInfo := ⟨poolList es last⟩
def fileOf (pool : Array CpInfo) (this : Nat) (attrs : Array Attribute := #[]) (ms : Array MethodInfo := #[]) (fl : Nat := 33) (sup : Nat := 0) (ifs : Array Nat := #[]) (fds : Array FieldInfo := #[]) : ClassFile where
  minorVersion := 0
  majorVersion := 65
  constantPool := pool
  accessFlags := fl
  thisClass := this
  superClass := sup
  interfaces := ifs
  fields := fds
  methods := ms
  attributes := attrs
def plain (name : String) (sup : Option ClassId) : Class where
  name := name
  kind := .ordinary
  loader := none
  accessFlags := 33
  super := sup
  interfaces := #[]
  cf := none
  fields := #[]
  methods := #[]
  instanceTypes := #[]
  staticTypes := #[]
  resolved := #[]
  callSites := []
  init := .initialized
  statics := none
  mirror := none

def pool0 : Array CpInfo := pool [(5, u "<init>"), (0, u "()V"), (1, .class_ 10), (1, u "java/lang/Object")] 113

def k0c0 : Code := { maxStack := 0, maxLocals := 1, code := object_method_1_code, exceptionTable := #[], attributes := #[] }
def k0m0 : Method := { name := "<init>", desc := "()V", sig := { parameters := [], returnType := none }, accessFlags := 1, code := some k0c0 }
/-- java/lang/Object -/
def k0 : Class := { plain "java/lang/Object" none with
  accessFlags := 33
  interfaces := #[]
  cf := some (fileOf pool0 8 #[] #[{ accessFlags := 1, nameIndex := 5, descriptorIndex := 6, attributes := #[] }] 33 0 #[] #[])
  fields := #[]
  methods := #[k0m0]
  instanceTypes := #[]
  staticTypes := #[]
  resolved := Array.replicate 124 none
  statics := none }

def pool1 : Array CpInfo := pool [(2, .class_ 4), (1, u "java/lang/Object"), (0, u "<init>"), (0, u "()V"), (0, .long 9223372036854775807), (1, .integer 2147483647), (0, .methodref 11 12), (0, .class_ 13), (0, .nameAndType 14 15), (0, u "java/lang/Math"), (0, u "max"), (0, u "(II)I"), (0, .class_ 17), (0, u "com/example/moonclaim/moonclaim/engine/Rng"), (0, .methodref 16 19), (0, .nameAndType 5 20), (0, u "(J)V"), (0, .methodref 16 22), (0, .nameAndType 23 24), (0, u "below"), (0, u "(I)I"), (0, .methodref 16 26), (0, .nameAndType 27 28), (0, u "nextLong"), (0, u "()J"), (0, .methodref 30 31), (0, .class_ 32), (0, .nameAndType 33 34), (0, u "com/example/moonclaim/moonclaim/engine/RngBelowPinLaw"), (0, u "complete"), (0, u "(JJI)Z"), (3, u "law"), (0, u "(JI)Z")] 2

def k1m0 : Method := { name := "<init>", desc := "()V", sig := { parameters := [], returnType := none }, accessFlags := 2, code := none }
def k1c1 : Code := { maxStack := 6, maxLocals := 7, code := method_2_code, exceptionTable := #[], attributes := #[] }
def k1m1 : Method := { name := "complete", desc := "(JJI)Z", sig := { parameters := [.long, .long, .int], returnType := some .boolean }, accessFlags := 10, code := some k1c1 }
def k1c2 : Code := { maxStack := 5, maxLocals := 15, code := code, exceptionTable := #[], attributes := #[] }
def k1m2 : Method := { name := "law", desc := "(JI)Z", sig := { parameters := [.long, .int], returnType := some .boolean }, accessFlags := 9, code := some k1c2 }
/-- com/example/moonclaim/moonclaim/engine/RngBelowPinLaw -/
def k1 : Class := { plain "com/example/moonclaim/moonclaim/engine/RngBelowPinLaw" (some 0) with
  accessFlags := 49
  interfaces := #[]
  cf := some (fileOf pool1 30 #[] #[{ accessFlags := 2, nameIndex := 5, descriptorIndex := 6, attributes := #[] }, { accessFlags := 10, nameIndex := 33, descriptorIndex := 34, attributes := #[] }, { accessFlags := 9, nameIndex := 38, descriptorIndex := 39, attributes := #[] }] 49 2 #[] #[])
  fields := #[]
  methods := #[k1m0, k1m1, k1m2]
  instanceTypes := #[]
  staticTypes := #[]
  resolved := Array.replicate 42 none
  statics := none }

def pool2 : Array CpInfo := pool [(1, .class_ 2), (0, u "java/lang/Math"), (1, .class_ 6), (1, u "java/lang/Object"), (0, u "<init>"), (0, u "()V"), (89, .class_ 100), (1, u "java/lang/Math$RandomNumberGeneratorHolder"), (71, u "negativeZeroFloatBits"), (0, u "J"), (2, u "negativeZeroDoubleBits"), (21, u "max"), (46, u "$assertionsDisabled"), (0, u "Z"), (88, u "(II)I"), (2, u "twoToTheDoubleScaleDown"), (0, u "D"), (4, u "twoToTheDoubleScaleUp"), (9, u "E"), (3, u "PI"), (2, u "TAU"), (2, u "DEGREES_TO_RADIANS"), (0, u "RADIANS_TO_DEGREES")] 94

def k2m0 : Method := { name := "<init>", desc := "()V", sig := { parameters := [], returnType := none }, accessFlags := 2, code := none }
def k2c1 : Code := { maxStack := 2, maxLocals := 2, code := jdk_29_method_65_code, exceptionTable := #[], attributes := #[] }
def k2m1 : Method := { name := "max", desc := "(II)I", sig := { parameters := [.int, .int], returnType := some .int }, accessFlags := 9, code := some k2c1 }
/-- java/lang/Math -/
def k2 : Class := { plain "java/lang/Math" (some 0) with
  accessFlags := 49
  interfaces := #[]
  cf := some (fileOf pool2 1 #[.nestMembers #[98]] #[{ accessFlags := 2, nameIndex := 7, descriptorIndex := 8, attributes := #[] }, { accessFlags := 9, nameIndex := 198, descriptorIndex := 335, attributes := #[] }] 49 4 #[] #[{ accessFlags := 25, nameIndex := 354, descriptorIndex := 339, attributes := #[] }, { accessFlags := 25, nameIndex := 358, descriptorIndex := 339, attributes := #[] }, { accessFlags := 25, nameIndex := 361, descriptorIndex := 339, attributes := #[] }, { accessFlags := 26, nameIndex := 364, descriptorIndex := 339, attributes := #[] }, { accessFlags := 26, nameIndex := 365, descriptorIndex := 339, attributes := #[] }, { accessFlags := 26, nameIndex := 172, descriptorIndex := 173, attributes := #[] }, { accessFlags := 26, nameIndex := 176, descriptorIndex := 173, attributes := #[] }, { accessFlags := 8, nameIndex := 344, descriptorIndex := 339, attributes := #[] }, { accessFlags := 8, nameIndex := 338, descriptorIndex := 339, attributes := #[] }, { accessFlags := 4120, nameIndex := 245, descriptorIndex := 246, attributes := #[] }])
  fields := #[{ name := "E", type := .double, accessFlags := 25, slot := 0, constantValue := 0 }, { name := "PI", type := .double, accessFlags := 25, slot := 1, constantValue := 0 }, { name := "TAU", type := .double, accessFlags := 25, slot := 2, constantValue := 0 }, { name := "DEGREES_TO_RADIANS", type := .double, accessFlags := 26, slot := 3, constantValue := 0 }, { name := "RADIANS_TO_DEGREES", type := .double, accessFlags := 26, slot := 4, constantValue := 0 }, { name := "negativeZeroFloatBits", type := .long, accessFlags := 26, slot := 5, constantValue := 0 }, { name := "negativeZeroDoubleBits", type := .long, accessFlags := 26, slot := 6, constantValue := 0 }, { name := "twoToTheDoubleScaleUp", type := .double, accessFlags := 8, slot := 7, constantValue := 0 }, { name := "twoToTheDoubleScaleDown", type := .double, accessFlags := 8, slot := 8, constantValue := 0 }, { name := "$assertionsDisabled", type := .boolean, accessFlags := 4120, slot := 9, constantValue := 0 }]
  methods := #[k2m0, k2m1]
  instanceTypes := #[]
  staticTypes := #[.double, .double, .double, .double, .double, .long, .long, .double, .double, .boolean]
  resolved := Array.replicate 460 none
  statics := none }

def pool3 : Array CpInfo := pool [(1, .methodref 2 3), (0, .class_ 4), (0, .nameAndType 5 6), (0, u "java/lang/Object"), (0, u "<init>"), (0, u "()V"), (0, .fieldref 8 9), (0, .class_ 10), (0, .nameAndType 11 12), (0, u "com/example/moonclaim/moonclaim/engine/Rng"), (0, u "state"), (0, u "J"), (0, .long 11400714819323198485), (1, .long 13787848793156543929), (1, .long 10723151780598845931), (10, .methodref 8 29), (0, .nameAndType 30 31), (0, u "nextLong"), (0, u "()J"), (8, u "below"), (0, u "(I)I"), (6, u "GAMMA"), (1, u "(J)V")] 24

def k3c0 : Code := { maxStack := 3, maxLocals := 3, code := prog_13_method_1_code, exceptionTable := #[], attributes := #[] }
def k3m0 : Method := { name := "<init>", desc := "(J)V", sig := { parameters := [.long], returnType := none }, accessFlags := 1, code := some k3c0 }
def k3c1 : Code := { maxStack := 5, maxLocals := 3, code := prog_13_method_2_code, exceptionTable := #[], attributes := #[] }
def k3m1 : Method := { name := "nextLong", desc := "()J", sig := { parameters := [], returnType := some .long }, accessFlags := 1, code := some k3c1 }
def k3c2 : Code := { maxStack := 4, maxLocals := 6, code := prog_13_method_3_code, exceptionTable := #[], attributes := #[] }
def k3m2 : Method := { name := "below", desc := "(I)I", sig := { parameters := [.int], returnType := some .int }, accessFlags := 1, code := some k3c2 }
/-- com/example/moonclaim/moonclaim/engine/Rng -/
def k3 : Class := { plain "com/example/moonclaim/moonclaim/engine/Rng" (some 0) with
  accessFlags := 49
  interfaces := #[]
  cf := some (fileOf pool3 8 #[] #[{ accessFlags := 1, nameIndex := 5, descriptorIndex := 50, attributes := #[] }, { accessFlags := 1, nameIndex := 30, descriptorIndex := 31, attributes := #[] }, { accessFlags := 1, nameIndex := 40, descriptorIndex := 41, attributes := #[] }] 49 2 #[] #[{ accessFlags := 26, nameIndex := 48, descriptorIndex := 12, attributes := #[] }, { accessFlags := 2, nameIndex := 11, descriptorIndex := 12, attributes := #[] }])
  fields := #[{ name := "GAMMA", type := .long, accessFlags := 26, slot := 0, constantValue := 0 }, { name := "state", type := .long, accessFlags := 2, slot := 0, constantValue := 0 }]
  methods := #[k3m0, k3m1, k3m2]
  instanceTypes := #[.long]
  staticTypes := #[.long]
  resolved := Array.replicate 75 none
  statics := none }

def pool4 : Array CpInfo := pool [(1, u "java/lang/Cloneable"), (0, .class_ 1), (0, u "java/lang/Object"), (0, .class_ 3)] 3

/-- java/lang/Cloneable -/
def k4 : Class := { plain "java/lang/Cloneable" (some 0) with
  accessFlags := 1537
  interfaces := #[]
  cf := some (fileOf pool4 2 #[] #[] 1537 4 #[] #[])
  fields := #[]
  methods := #[]
  instanceTypes := #[]
  staticTypes := #[]
  resolved := Array.replicate 8 none
  statics := none }

def pool5 : Array CpInfo := pool [(1, u "java/io/Serializable"), (0, .class_ 1), (0, u "java/lang/Object"), (0, .class_ 3)] 3

/-- java/io/Serializable -/
def k5 : Class := { plain "java/io/Serializable" (some 0) with
  accessFlags := 1537
  interfaces := #[]
  cf := some (fileOf pool5 2 #[] #[] 1537 4 #[] #[])
  fields := #[]
  methods := #[]
  instanceTypes := #[]
  staticTypes := #[]
  resolved := Array.replicate 8 none
  statics := none }

/-- the primitive byte -/
def k6 : Class := { plain "byte" none with kind := .primitive 'B', accessFlags := 0x411 }
/-- [B -/
def k7 : Class := { plain "[B" (some 0) with kind := .array 6 .byte, interfaces := #[4, 5], accessFlags := 1041 }

/-- the primitive int -/
def k8 : Class := { plain "int" none with kind := .primitive 'I', accessFlags := 0x411 }
/-- [I -/
def k9 : Class := { plain "[I" (some 0) with kind := .array 8 .int, interfaces := #[4, 5], accessFlags := 1041 }

def heap : Heap := #[]
def classes : Array Class := #[k0, k1, k2, k3, k4, k5, k6, k7, k8, k9]
def interned : List (Array UInt16 × Addr) := []
def slotsUsed : Nat := 0
def theMethod : MethodId := ⟨1, 2⟩
def args0 : Array Value := #[.long 5, .int 5]
def aboutOver (below : List Frame) : State where
  vm := { classes := classes, interned := interned.toArray }
  heap := heap
  slotsUsed := slotsUsed
  threads := #[{ frames := .invoking theMethod args0 :: below }]
def below0 : List Frame := [.native { method := ⟨0, 0⟩, args := #[] }]
def about1 : State := aboutOver below0
def p0 : Program := .bare "" "" ""
def e0 : Env := launch0.env 0 0 0
theorem w_frames : about1.frames = Frame.invoking theMethod args0 :: below0 := rfl
set_option maxRecDepth 65536 in
theorem w_args : argsFit about1.vm theMethod args0 = true := by decide +kernel
set_option maxRecDepth 65536 in
theorem w_heap : heapFits about1 = true := by decide +kernel
set_option maxRecDepth 65536 in
theorem w_runnable : about1.curStatus? = some .runnable := by decide +kernel
set_option maxRecDepth 65536 in
theorem w_alone : about1.alone = true := by decide +kernel
set_option maxRecDepth 65536 in
theorem w_named : about1.methodNamed? x = some theMethod := by decide +kernel
set_option maxRecDepth 65536 in
theorem w_hears : about1.hears theMethod below0 = true := by decide +kernel
set_option maxRecDepth 65536 in
theorem w_ripe : about1.ripe theMethod args0 below0 = true := by decide +kernel
theorem w_running : about1.status = .running := rfl
set_option maxRecDepth 65536 in
theorem w_room : about1.hasRoom e0.platform room_1 = true :=
  launch0.hasRoom_least _ room_1 (by decide +kernel) (by decide +kernel) (by decide +kernel) (by decide +kernel) (by decide +kernel) (by decide +kernel)
theorem allAtoms_all (ts : List Jvm.Cond) (a : Array Jvm.Value) (st : Jvm.State) : (allAtoms ts).before a st = ts.all (fun c => c.before a st) := by
  induction ts with
  | nil => rfl
  | cons c t ih =>
    show (Jvm.Cond.and c (allAtoms t)).before a st = _
    rw [Jvm.Cond.before_and, ih, List.all_cons]
def words1 : List Jvm.Cond := Jvm.Cond.code x code maxLocals ret :: tables_1
/-- a 'code' word, met by the world's own term for the bytes: nothing is compared byte by byte -/
theorem code_word {y : MethodName} {bytes : ByteArray} {mx : Nat} {rt : Option FieldType} {a : Array Value} {s : State} {m : MethodId} {meth : Method} {c : Code} (h1 : s.methodNamed? y = some m) (h2 : s.vm.method? m = some meth) (h3 : meth.code = some c) (h4 : c.code = bytes)
    (h5 : (c.maxLocals == mx && c.exceptionTable.isEmpty && decide (c.maxStack ≤ mostOperands) && decide (meth.sig.returnType = rt) && !meth.locks && decide (parseMethodDescriptor y.desc = some meth.sig)) = true) : (Jvm.Cond.code y bytes mx rt).before a s = true := by
  simp only [Bool.and_eq_true, beq_iff_eq, Bool.not_eq_true', decide_eq_true_eq] at h5
  obtain ⟨⟨⟨⟨⟨g1, g2⟩, g3⟩, g4⟩, g5⟩, g6⟩ := h5
  simp [Cond.before, Cond.holds, Cond.value, h1, h2, h3, h4, g1, g2, g3, g4, g5, g6]
def isCode : Jvm.Cond → Bool
  | .code _ _ _ _ => true
  | _ => false
theorem all_split {L : List Jvm.Cond} {P : Jvm.Cond → Bool} (h1 : L.all (fun c => isCode c || P c) = true) (h2 : ∀ c ∈ L.filter isCode, P c = true) : L.all P = true := by
  refine List.all_eq_true.mpr fun c hc => ?_
  have h := List.all_eq_true.mp h1 c hc
  rcases Bool.eq_false_or_eq_true (isCode c) with hi | hi
  · exact h2 c (List.mem_filter.mpr ⟨hc, hi⟩)
  · simpa [hi] using h
set_option maxRecDepth 65536 in
theorem w_c0 : (Jvm.Cond.code x code maxLocals ret).before args0 about1 = true := code_word (m := ⟨1, 2⟩) (meth := k1m2) (c := k1c2) (by decide +kernel) rfl rfl rfl (by decide +kernel)
set_option maxRecDepth 65536 in
theorem w_c1 : (Jvm.Cond.code ({ cls := "java/lang/Math", name := "max", desc := "(II)I" } : Jvm.MethodName) jdk_29_method_65_code (2 : Nat) (Option.some Jvm.ClassFile.FieldType.int)).before args0 about1 = true := code_word (m := ⟨2, 1⟩) (meth := k2m1) (c := k2c1) (by decide +kernel) rfl rfl rfl (by decide +kernel)
set_option maxRecDepth 65536 in
theorem w_c2 : (Jvm.Cond.code ({ cls := "com/example/moonclaim/moonclaim/engine/Rng", name := "<init>", desc := "(J)V" } : Jvm.MethodName) prog_13_method_1_code (3 : Nat) (Option.none : Option Jvm.ClassFile.FieldType)).before args0 about1 = true := code_word (m := ⟨3, 0⟩) (meth := k3m0) (c := k3c0) (by decide +kernel) rfl rfl rfl (by decide +kernel)
set_option maxRecDepth 65536 in
theorem w_c3 : (Jvm.Cond.code ({ cls := "java/lang/Object", name := "<init>", desc := "()V" } : Jvm.MethodName) object_method_1_code (1 : Nat) (Option.none : Option Jvm.ClassFile.FieldType)).before args0 about1 = true := code_word (m := ⟨0, 0⟩) (meth := k0m0) (c := k0c0) (by decide +kernel) rfl rfl rfl (by decide +kernel)
set_option maxRecDepth 65536 in
theorem w_c4 : (Jvm.Cond.code ({ cls := "com/example/moonclaim/moonclaim/engine/Rng", name := "below", desc := "(I)I" } : Jvm.MethodName) prog_13_method_3_code (6 : Nat) (Option.some Jvm.ClassFile.FieldType.int)).before args0 about1 = true := code_word (m := ⟨3, 2⟩) (meth := k3m2) (c := k3c2) (by decide +kernel) rfl rfl rfl (by decide +kernel)
set_option maxRecDepth 65536 in
theorem w_c5 : (Jvm.Cond.code ({ cls := "com/example/moonclaim/moonclaim/engine/Rng", name := "nextLong", desc := "()J" } : Jvm.MethodName) prog_13_method_2_code (3 : Nat) (Option.some Jvm.ClassFile.FieldType.long)).before args0 about1 = true := code_word (m := ⟨3, 1⟩) (meth := k3m1) (c := k3c1) (by decide +kernel) rfl rfl rfl (by decide +kernel)
set_option maxRecDepth 65536 in
theorem w_c6 : (Jvm.Cond.code ({ cls := "com/example/moonclaim/moonclaim/engine/RngBelowPinLaw", name := "complete", desc := "(JJI)Z" } : Jvm.MethodName) method_2_code (7 : Nat) (Option.some Jvm.ClassFile.FieldType.boolean)).before args0 about1 = true := code_word (m := ⟨1, 1⟩) (meth := k1m1) (c := k1c1) (by decide +kernel) rfl rfl rfl (by decide +kernel)
def codes1 : List Jvm.Cond := [Jvm.Cond.code x code maxLocals ret, Jvm.Cond.code ({ cls := "java/lang/Math", name := "max", desc := "(II)I" } : Jvm.MethodName) jdk_29_method_65_code (2 : Nat) (Option.some Jvm.ClassFile.FieldType.int), Jvm.Cond.code ({ cls := "com/example/moonclaim/moonclaim/engine/Rng", name := "<init>", desc := "(J)V" } : Jvm.MethodName) prog_13_method_1_code (3 : Nat) (Option.none : Option Jvm.ClassFile.FieldType), Jvm.Cond.code ({ cls := "java/lang/Object", name := "<init>", desc := "()V" } : Jvm.MethodName) object_method_1_code (1 : Nat) (Option.none : Option Jvm.ClassFile.FieldType), Jvm.Cond.code ({ cls := "com/example/moonclaim/moonclaim/engine/Rng", name := "below", desc := "(I)I" } : Jvm.MethodName) prog_13_method_3_code (6 : Nat) (Option.some Jvm.ClassFile.FieldType.int), Jvm.Cond.code ({ cls := "com/example/moonclaim/moonclaim/engine/Rng", name := "nextLong", desc := "()J" } : Jvm.MethodName) prog_13_method_2_code (3 : Nat) (Option.some Jvm.ClassFile.FieldType.long), Jvm.Cond.code ({ cls := "com/example/moonclaim/moonclaim/engine/RngBelowPinLaw", name := "complete", desc := "(JJI)Z" } : Jvm.MethodName) method_2_code (7 : Nat) (Option.some Jvm.ClassFile.FieldType.boolean)]
set_option maxRecDepth 65536 in
theorem codes_eq : words1.filter isCode = codes1 := rfl
theorem w_codes : ∀ c ∈ words1.filter isCode, c.before args0 about1 = true := by
  rw [codes_eq]
  intro c hc
  simp only [codes1, List.mem_cons, List.not_mem_nil, or_false] at hc
  rcases hc with rfl | rfl | rfl | rfl | rfl | rfl | rfl
  · exact w_c0
  · exact w_c1
  · exact w_c2
  · exact w_c3
  · exact w_c4
  · exact w_c5
  · exact w_c6
set_option maxRecDepth 65536 in
theorem w_t1 : (words1.take 24).all (fun c => isCode c || c.before args0 about1) = true := by decide +kernel
set_option maxRecDepth 65536 in
theorem w_t2 : (words1.drop 24).all (fun c => isCode c || c.before args0 about1) = true := by decide +kernel
theorem w_tables : (allAtoms (Jvm.Cond.code x code maxLocals ret :: tables_1)).before args0 about1 = true := by
  rw [allAtoms_all]
  show words1.all (fun c => c.before args0 about1) = true
  refine all_split ?_ w_codes
  rw [← List.take_append_drop 24 words1, List.all_append, w_t1, w_t2]
  rfl
set_option maxRecDepth 65536 in
theorem w_case : (Jvm.Cond.and given_1 narrow_1).before args0 about1 = true := by decide +kernel
theorem w_applies : (headSpec (Jvm.Cond.code x code maxLocals ret :: tables_1) room_1).applies x e0.platform about1 = true :=
  (Spec.applies_iff w_frames).mpr ⟨w_running, w_runnable, w_alone, w_named, w_hears, w_ripe, w_room, w_tables⟩
theorem atStart : AtStart classFile x code maxLocals ret World_1 tables_1 room_1 Calls_1 rest_1 Pre_1 launch0 p0 e0 about1 theMethod args0 below0 :=
  ⟨lists_1, trivial, launch0.admits_env _ _ _, launch0.least_env, fairChoices_fair.cas, fairChoices_fair.clock, w_frames, w_args, w_heap, w_applies, trivial, trivial, w_case⟩
end start1
theorem witness_1 : WitnessClaimed_1 := ⟨start1.p0, start1.e0, start1.about1, start1.theMethod, start1.args0, start1.below0, start1.atStart⟩
end Jvm.Pilot.@@N@@
