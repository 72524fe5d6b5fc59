import JvmDerived
import JvmDerived.Pilot.@@N@@Statement
import JvmDerived.Pilot.@@N@@Code
set_option linter.unusedVariables false
set_option linter.unusedSimpArgs false
namespace Jvm.Pilot.@@N@@
open Jvm Jvm.ClassFile Sem Op Lib Jvm.Free Jvm.Stand Jvm.LawKit Jvm.RoadKit Bundle Jvm.Pilot.@@N@@.Jvm.D
theorem ef_1 (m : MethodId) (x0 : Int32) : entryFrame m #[(.int x0)] 6 = mkF m 0 #[.val (.int x0), .unset, .unset, .unset, .unset, .unset] [] := by first | (simp [entryFrame, mkF, argsToLocals, Value.category]; done) | rfl
theorem pn_0 : plainName "com/example/bounded_load/boundedload/client/AnswerTimes" = true := by first | (simp [plainName, overriddenIn]; done) | decide +kernel
theorem d1_0 : decode prog_11_method_7_code 0 = .ok (.iload_n 0, 1) := by decide +kernel
theorem d1_1 : decode prog_11_method_7_code 1 = .ok (.i2l, 1) := by decide +kernel
theorem d1_2 : decode prog_11_method_7_code 2 = .ok (.lstore_n 1, 1) := by decide +kernel
theorem d1_3 : decode prog_11_method_7_code 3 = .ok (.iload_n 0, 1) := by decide +kernel
theorem d1_4 : decode prog_11_method_7_code 4 = .ok (.sipush 256, 3) := by decide +kernel
theorem d1_7 : decode prog_11_method_7_code 7 = .ok (.if_icmp .lt 30, 3) := by decide +kernel
theorem d1_37 : decode prog_11_method_7_code 37 = .ok (.lload_n 1, 1) := by decide +kernel
theorem d1_38 : decode prog_11_method_7_code 38 = .ok (.lreturn, 1) := by decide +kernel
theorem d1_10 : decode prog_11_method_7_code 10 = .ok (.iload_n 0, 1) := by decide +kernel
theorem d1_11 : decode prog_11_method_7_code 11 = .ok (.sipush 128, 3) := by decide +kernel
theorem d1_14 : decode prog_11_method_7_code 14 = .ok (.idiv, 1) := by decide +kernel
theorem d1_15 : decode prog_11_method_7_code 15 = .ok (.iconst 1, 1) := by decide +kernel
theorem d1_16 : decode prog_11_method_7_code 16 = .ok (.isub, 1) := by decide +kernel
theorem d1_17 : decode prog_11_method_7_code 17 = .ok (.istore_n 3, 1) := by decide +kernel
def hs (p0 : Int32) : Int32 := ((p0 / (128 : Int32)) - (1 : Int32))
theorem d1_18 : decode prog_11_method_7_code 18 = .ok (.iload_n 0, 1) := by decide +kernel
theorem d1_19 : decode prog_11_method_7_code 19 = .ok (.iload_n 3, 1) := by decide +kernel
theorem d1_20 : decode prog_11_method_7_code 20 = .ok (.sipush 128, 3) := by decide +kernel
theorem d1_23 : decode prog_11_method_7_code 23 = .ok (.imul, 1) := by decide +kernel
theorem d1_24 : decode prog_11_method_7_code 24 = .ok (.isub, 1) := by decide +kernel
theorem d1_25 : decode prog_11_method_7_code 25 = .ok (.i2l, 1) := by decide +kernel
theorem d1_26 : decode prog_11_method_7_code 26 = .ok (.lstore 4, 2) := by decide +kernel
def hm (p0 : Int32) : Int64 := ((p0 - ((hs p0) * (128 : Int32))).toInt64)
theorem d1_28 : decode prog_11_method_7_code 28 = .ok (.lload 4, 2) := by decide +kernel
theorem d1_30 : decode prog_11_method_7_code 30 = .ok (.lconst 1, 1) := by decide +kernel
theorem d1_31 : decode prog_11_method_7_code 31 = .ok (.ladd, 1) := by decide +kernel
theorem d1_32 : decode prog_11_method_7_code 32 = .ok (.iload_n 3, 1) := by decide +kernel
theorem d1_33 : decode prog_11_method_7_code 33 = .ok (.lshl, 1) := by decide +kernel
theorem d1_34 : decode prog_11_method_7_code 34 = .ok (.lconst 1, 1) := by decide +kernel
theorem d1_35 : decode prog_11_method_7_code 35 = .ok (.lsub, 1) := by decide +kernel
theorem d1_36 : decode prog_11_method_7_code 36 = .ok (.lstore_n 1, 1) := by decide +kernel
def f1 (p0 : Int32) : Int64 := if p0 < (256 : Int32) then (p0.toInt64)
  else ((((hm p0) + (1 : Int64)) <<< ((hs p0) &&& 0x3f).toInt64) - (1 : Int64))
def Q1 (Z : State) (p0 : Int32)  (h0 : Heap) (v : Option Value) (h : Heap) (L : List Loc) : Prop := v = some (.long (f1 p0)) ∧ L = [] ∧ h = h0
set_option maxRecDepth 65536 in
set_option maxHeartbeats 40000000 in
theorem rm1 (l : Launch) (Z : State) (a0 : Array Value) (hw : ∀ d ∈ tables_1, d.before a0 Z = true) (ws : List Jvm.Cond) (p0 : Int32)  (h0 : Heap)  :
    MetFree l (⟨"com/example/bounded_load/boundedload/client/AnswerTimes", "highest", "(I)J"⟩ : MethodName) (head1 (Jvm.Cond.code (⟨"com/example/bounded_load/boundedload/client/AnswerTimes", "highest", "(I)J"⟩ : MethodName) prog_11_method_7_code 6 (some .long) :: ws) ({ frames := 0, cells := 0, slots := 0, locals := 0 } : Room)) (fun a U => a = #[(.int p0)] ∧ Z.Warmed39 U.vm ∧ U.heap = h0) (fun _ _ _ _ _ => True) (fun _ U o U' => ∃ v L, o = .returned v ∧ Q1 Z p0  h0 v U'.heap L ∧ FrameEnd U o U' L ({ frames := 0, cells := 0, slots := 0, locals := 0 } : Room).cells ({ frames := 0, cells := 0, slots := 0, locals := 0 } : Room).slots) := by
  refine MetFree.of_bodySF (plainFor_of_name pn_0) hisR ?_
  intro p e s m args below meth c s₁ Bd hml0 hP hK
  obtain ⟨rfl, hZ, hh⟩ := hP
  have hx := Bd.exec
  have hby := Bd.bytes
  have hml : c.maxLocals = 6 := hml0
  have hown : s.vm.findClass "com/example/bounded_load/boundedload/client/AnswerTimes" = some m.cls := findClass_of_methodNamed Bd.named
  have hnm := (name_of_methodNamed Bd.named Bd.method).1
  have X0 : Stand p l e ({ frames := 0, cells := 0, slots := 0, locals := 0 } : Room) s m #[(.int p0)] below meth c s₁ [] 0 0 := Stand.of_body Bd
  have e0 : s₁.heap = h0 := by rw [← hh, Bd.state]; rfl
  have pre0 : ∀ t, Steps p.tables e below (s₁.setTop (mkF m 0 #[.val (.int p0), .unset, .unset, .unset, .unset, .unset] [])) t → Steps p.tables e below (s₁.setTop (entryFrame m #[(.int p0)] 6)) t := fun t k => castTop (ef_1 m p0) k
  have K1 : ∀ t, Steps p.tables e below (s₁.setTop (mkF m 7 #[.val (.int p0), .val (.long (p0.toInt64)), .second, .unset, .unset, .unset] [(.int (256 : Int32)), (.int p0)])) t → Steps p.tables e below (s₁.setTop (mkF m 0 #[.val (.int p0), .unset, .unset, .unset, .unset, .unset] [])) t := by
    intro t kt
    show Steps p.tables e below (s₁.setTop (mkF m 0 #[.val (.int p0), .unset, .unset, .unset, .unset, .unset] [])) _
    refine XS.iloadN X0.here hx rfl (hb hby d1_0) rfl ?_
    show Steps p.tables e below (s₁.setTop (mkF m 1 #[.val (.int p0), .unset, .unset, .unset, .unset, .unset] [(.int p0)])) _
    refine XS.i2l X0.here hx rfl (hb hby d1_1) rfl ?_
    show Steps p.tables e below (s₁.setTop (mkF m 2 #[.val (.int p0), .unset, .unset, .unset, .unset, .unset] [(.long (p0.toInt64))])) _
    refine XS.lstoreN X0.here hx rfl (hb hby d1_2) rfl (l' := #[.val (.int p0), .val (.long (p0.toInt64)), .second, .unset, .unset, .unset]) rfl ?_
    show Steps p.tables e below (s₁.setTop (mkF m 3 #[.val (.int p0), .val (.long (p0.toInt64)), .second, .unset, .unset, .unset] [])) _
    refine XS.iloadN X0.here hx rfl (hb hby d1_3) rfl ?_
    show Steps p.tables e below (s₁.setTop (mkF m 4 #[.val (.int p0), .val (.long (p0.toInt64)), .second, .unset, .unset, .unset] [(.int p0)])) _
    refine XS.sipush X0.here hx rfl (hb hby d1_4) ?_
    exact kt
  by_cases hc2 : p0 < (256 : Int32)
  · skip
    have K3 : ∀ t, Steps p.tables e below (s₁.setTop (mkF m 38 #[.val (.int p0), .val (.long (p0.toInt64)), .second, .unset, .unset, .unset] [(.long (p0.toInt64))])) t → Steps p.tables e below (s₁.setTop (mkF m 0 #[.val (.int p0), .unset, .unset, .unset, .unset, .unset] [])) t := by
      intro t kt
      refine K1 _ ?_
      show Steps p.tables e below (s₁.setTop (mkF m 7 #[.val (.int p0), .val (.long (p0.toInt64)), .second, .unset, .unset, .unset] [(.int (256 : Int32)), (.int p0)])) _
      refine XS.icmpYes X0.here hx rfl (pc0 := 7) (pc' := 37) rfl (hb hby d1_7) rfl (tlt hc2).1 (by decide) (by decide) ?_
      show Steps p.tables e below (s₁.setTop (mkF m 37 #[.val (.int p0), .val (.long (p0.toInt64)), .second, .unset, .unset, .unset] [])) _
      refine XS.lloadN X0.here hx rfl (hb hby d1_37) rfl ?_
      exact kt
    have hv : f1 p0 = (p0.toInt64) := by simp only [f1, if_pos hc2]
    obtain ⟨fs, hr, hrun, hended, hW, hsame⟩ := X0.leave (v := some (.long (p0.toInt64))) (fun h => by rw [Bd.returns] at h; cases h)
    refine ⟨_, _, pre0 _ (K3 _ ?_), hrun, hended, _, _, rfl, ?_, ⟨_, rfl⟩, hW, hsame.mono (by decide) (by decide)⟩
    · show Steps p.tables e below (s₁.setTop (mkF m 38 #[.val (.int p0), .val (.long (p0.toInt64)), .second, .unset, .unset, .unset] [(.long (p0.toInt64))])) _
      exact retOut X0 hx Bd.returns rfl (Or.inr (Or.inl ⟨rfl, rfl, _, rfl⟩)) (hb hby d1_38) hr
    · show Q1 Z p0  h0 _ s₁.heap _
      rw [e0]
      exact ⟨by rw [hv], rfl, rfl⟩
  · skip
    have K4 : ∀ t, Steps p.tables e below (s₁.setTop (mkF m 38 #[.val (.int p0), .val (.long ((((hm p0) + (1 : Int64)) <<< ((hs p0) &&& 0x3f).toInt64) - (1 : Int64))), .second, .val (.int (hs p0)), .val (.long (hm p0)), .second] [(.long ((((hm p0) + (1 : Int64)) <<< ((hs p0) &&& 0x3f).toInt64) - (1 : Int64)))])) t → Steps p.tables e below (s₁.setTop (mkF m 0 #[.val (.int p0), .unset, .unset, .unset, .unset, .unset] [])) t := by
      intro t kt
      refine K1 _ ?_
      show Steps p.tables e below (s₁.setTop (mkF m 7 #[.val (.int p0), .val (.long (p0.toInt64)), .second, .unset, .unset, .unset] [(.int (256 : Int32)), (.int p0)])) _
      refine XS.icmpNo X0.here hx rfl (hb hby d1_7) rfl (flt hc2).1 ?_
      show Steps p.tables e below (s₁.setTop (mkF m 10 #[.val (.int p0), .val (.long (p0.toInt64)), .second, .unset, .unset, .unset] [])) _
      refine XS.iloadN X0.here hx rfl (hb hby d1_10) rfl ?_
      show Steps p.tables e below (s₁.setTop (mkF m 11 #[.val (.int p0), .val (.long (p0.toInt64)), .second, .unset, .unset, .unset] [(.int p0)])) _
      refine XS.sipush X0.here hx rfl (hb hby d1_11) ?_
      show Steps p.tables e below (s₁.setTop (mkF m 14 #[.val (.int p0), .val (.long (p0.toInt64)), .second, .unset, .unset, .unset] [(.int (128 : Int32)), (.int p0)])) _
      refine XS.idiv X0.here hx rfl (hb hby d1_14) rfl (by decide) ?_
      show Steps p.tables e below (s₁.setTop (mkF m 15 #[.val (.int p0), .val (.long (p0.toInt64)), .second, .unset, .unset, .unset] [(.int (p0 / (128 : Int32)))])) _
      refine XS.iconst X0.here hx rfl (hb hby d1_15) ?_
      show Steps p.tables e below (s₁.setTop (mkF m 16 #[.val (.int p0), .val (.long (p0.toInt64)), .second, .unset, .unset, .unset] [(.int (1 : Int32)), (.int (p0 / (128 : Int32)))])) _
      refine XS.isub X0.here hx rfl (hb hby d1_16) rfl ?_
      show Steps p.tables e below (s₁.setTop (mkF m 17 #[.val (.int p0), .val (.long (p0.toInt64)), .second, .unset, .unset, .unset] [(.int ((p0 / (128 : Int32)) - (1 : Int32)))])) _
      refine XS.istoreN X0.here hx rfl (hb hby d1_17) rfl (l' := #[.val (.int p0), .val (.long (p0.toInt64)), .second, .val (.int (hs p0)), .unset, .unset]) rfl ?_
      show Steps p.tables e below (s₁.setTop (mkF m 18 #[.val (.int p0), .val (.long (p0.toInt64)), .second, .val (.int (hs p0)), .unset, .unset] [])) _
      refine XS.iloadN X0.here hx rfl (hb hby d1_18) rfl ?_
      show Steps p.tables e below (s₁.setTop (mkF m 19 #[.val (.int p0), .val (.long (p0.toInt64)), .second, .val (.int (hs p0)), .unset, .unset] [(.int p0)])) _
      refine XS.iloadN X0.here hx rfl (hb hby d1_19) rfl ?_
      show Steps p.tables e below (s₁.setTop (mkF m 20 #[.val (.int p0), .val (.long (p0.toInt64)), .second, .val (.int (hs p0)), .unset, .unset] [(.int (hs p0)), (.int p0)])) _
      refine XS.sipush X0.here hx rfl (hb hby d1_20) ?_
      show Steps p.tables e below (s₁.setTop (mkF m 23 #[.val (.int p0), .val (.long (p0.toInt64)), .second, .val (.int (hs p0)), .unset, .unset] [(.int (128 : Int32)), (.int (hs p0)), (.int p0)])) _
      refine XS.imul X0.here hx rfl (hb hby d1_23) rfl ?_
      show Steps p.tables e below (s₁.setTop (mkF m 24 #[.val (.int p0), .val (.long (p0.toInt64)), .second, .val (.int (hs p0)), .unset, .unset] [(.int ((hs p0) * (128 : Int32))), (.int p0)])) _
      refine XS.isub X0.here hx rfl (hb hby d1_24) rfl ?_
      show Steps p.tables e below (s₁.setTop (mkF m 25 #[.val (.int p0), .val (.long (p0.toInt64)), .second, .val (.int (hs p0)), .unset, .unset] [(.int (p0 - ((hs p0) * (128 : Int32))))])) _
      refine XS.i2l X0.here hx rfl (hb hby d1_25) rfl ?_
      show Steps p.tables e below (s₁.setTop (mkF m 26 #[.val (.int p0), .val (.long (p0.toInt64)), .second, .val (.int (hs p0)), .unset, .unset] [(.long ((p0 - ((hs p0) * (128 : Int32))).toInt64))])) _
      refine XS.lstore X0.here hx rfl (hb hby d1_26) rfl (l' := #[.val (.int p0), .val (.long (p0.toInt64)), .second, .val (.int (hs p0)), .val (.long (hm p0)), .second]) rfl ?_
      show Steps p.tables e below (s₁.setTop (mkF m 28 #[.val (.int p0), .val (.long (p0.toInt64)), .second, .val (.int (hs p0)), .val (.long (hm p0)), .second] [])) _
      refine XS.lload X0.here hx rfl (hb hby d1_28) rfl ?_
      show Steps p.tables e below (s₁.setTop (mkF m 30 #[.val (.int p0), .val (.long (p0.toInt64)), .second, .val (.int (hs p0)), .val (.long (hm p0)), .second] [(.long (hm p0))])) _
      refine XS.lconst X0.here hx rfl (hb hby d1_30) ?_
      show Steps p.tables e below (s₁.setTop (mkF m 31 #[.val (.int p0), .val (.long (p0.toInt64)), .second, .val (.int (hs p0)), .val (.long (hm p0)), .second] [(.long (1 : Int64)), (.long (hm p0))])) _
      refine XS.ladd X0.here hx rfl (hb hby d1_31) rfl ?_
      show Steps p.tables e below (s₁.setTop (mkF m 32 #[.val (.int p0), .val (.long (p0.toInt64)), .second, .val (.int (hs p0)), .val (.long (hm p0)), .second] [(.long ((hm p0) + (1 : Int64)))])) _
      refine XS.iloadN X0.here hx rfl (hb hby d1_32) rfl ?_
      show Steps p.tables e below (s₁.setTop (mkF m 33 #[.val (.int p0), .val (.long (p0.toInt64)), .second, .val (.int (hs p0)), .val (.long (hm p0)), .second] [(.int (hs p0)), (.long ((hm p0) + (1 : Int64)))])) _
      refine XS.lshl X0.here hx rfl (hb hby d1_33) rfl ?_
      show Steps p.tables e below (s₁.setTop (mkF m 34 #[.val (.int p0), .val (.long (p0.toInt64)), .second, .val (.int (hs p0)), .val (.long (hm p0)), .second] [(.long (((hm p0) + (1 : Int64)) <<< ((hs p0) &&& 0x3f).toInt64))])) _
      refine XS.lconst X0.here hx rfl (hb hby d1_34) ?_
      show Steps p.tables e below (s₁.setTop (mkF m 35 #[.val (.int p0), .val (.long (p0.toInt64)), .second, .val (.int (hs p0)), .val (.long (hm p0)), .second] [(.long (1 : Int64)), (.long (((hm p0) + (1 : Int64)) <<< ((hs p0) &&& 0x3f).toInt64))])) _
      refine XS.lsub X0.here hx rfl (hb hby d1_35) rfl ?_
      show Steps p.tables e below (s₁.setTop (mkF m 36 #[.val (.int p0), .val (.long (p0.toInt64)), .second, .val (.int (hs p0)), .val (.long (hm p0)), .second] [(.long ((((hm p0) + (1 : Int64)) <<< ((hs p0) &&& 0x3f).toInt64) - (1 : Int64)))])) _
      refine XS.lstoreN X0.here hx rfl (hb hby d1_36) rfl (l' := #[.val (.int p0), .val (.long ((((hm p0) + (1 : Int64)) <<< ((hs p0) &&& 0x3f).toInt64) - (1 : Int64))), .second, .val (.int (hs p0)), .val (.long (hm p0)), .second]) rfl ?_
      show Steps p.tables e below (s₁.setTop (mkF m 37 #[.val (.int p0), .val (.long ((((hm p0) + (1 : Int64)) <<< ((hs p0) &&& 0x3f).toInt64) - (1 : Int64))), .second, .val (.int (hs p0)), .val (.long (hm p0)), .second] [])) _
      refine XS.lloadN X0.here hx rfl (hb hby d1_37) rfl ?_
      exact kt
    have hv : f1 p0 = ((((hm p0) + (1 : Int64)) <<< ((hs p0) &&& 0x3f).toInt64) - (1 : Int64)) := by simp only [f1, if_neg hc2]
    obtain ⟨fs, hr, hrun, hended, hW, hsame⟩ := X0.leave (v := some (.long ((((hm p0) + (1 : Int64)) <<< ((hs p0) &&& 0x3f).toInt64) - (1 : Int64)))) (fun h => by rw [Bd.returns] at h; cases h)
    refine ⟨_, _, pre0 _ (K4 _ ?_), hrun, hended, _, _, rfl, ?_, ⟨_, rfl⟩, hW, hsame.mono (by decide) (by decide)⟩
    · show Steps p.tables e below (s₁.setTop (mkF m 38 #[.val (.int p0), .val (.long ((((hm p0) + (1 : Int64)) <<< ((hs p0) &&& 0x3f).toInt64) - (1 : Int64))), .second, .val (.int (hs p0)), .val (.long (hm p0)), .second] [(.long ((((hm p0) + (1 : Int64)) <<< ((hs p0) &&& 0x3f).toInt64) - (1 : Int64)))])) _
      exact retOut X0 hx Bd.returns rfl (Or.inr (Or.inl ⟨rfl, rfl, _, rfl⟩)) (hb hby d1_38) hr
    · show Q1 Z p0  h0 _ s₁.heap _
      rw [e0]
      exact ⟨by rw [hv], rfl, rfl⟩
theorem ef_4 (m : MethodId) (x0 : Int32) : entryFrame m #[(.int x0)] 2 = mkF m 0 #[.val (.int x0), .unset] [] := by first | (simp [entryFrame, mkF, argsToLocals, Value.category]; done) | rfl
theorem pn_1 : plainName "java/lang/Integer" = true := by first | (simp [plainName, overriddenIn]; done) | decide +kernel
theorem d4_0 : decode jdk_33_method_47_code 0 = .ok (.iload_n 0, 1) := by decide +kernel
theorem d4_1 : decode jdk_33_method_47_code 1 = .ok (.ifCond .gt 14, 3) := by decide +kernel
theorem d4_15 : decode jdk_33_method_47_code 15 = .ok (.bipush 31, 2) := by decide +kernel
theorem d4_17 : decode jdk_33_method_47_code 17 = .ok (.istore_n 1, 1) := by decide +kernel
theorem d4_18 : decode jdk_33_method_47_code 18 = .ok (.iload_n 0, 1) := by decide +kernel
theorem d4_19 : decode jdk_33_method_47_code 19 = .ok (.ldc_w 264, 3) := by decide +kernel
theorem d4_22 : decode jdk_33_method_47_code 22 = .ok (.if_icmp .lt 11, 3) := by decide +kernel
theorem d4_33 : decode jdk_33_method_47_code 33 = .ok (.iload_n 0, 1) := by decide +kernel
theorem d4_34 : decode jdk_33_method_47_code 34 = .ok (.sipush 256, 3) := by decide +kernel
theorem d4_37 : decode jdk_33_method_47_code 37 = .ok (.if_icmp .lt 11, 3) := by decide +kernel
theorem d4_48 : decode jdk_33_method_47_code 48 = .ok (.iload_n 0, 1) := by decide +kernel
theorem d4_49 : decode jdk_33_method_47_code 49 = .ok (.bipush 16, 2) := by decide +kernel
theorem d4_51 : decode jdk_33_method_47_code 51 = .ok (.if_icmp .lt 10, 3) := by decide +kernel
theorem d4_61 : decode jdk_33_method_47_code 61 = .ok (.iload_n 0, 1) := by decide +kernel
theorem d4_62 : decode jdk_33_method_47_code 62 = .ok (.iconst 4, 1) := by decide +kernel
theorem d4_63 : decode jdk_33_method_47_code 63 = .ok (.if_icmp .lt 10, 3) := by decide +kernel
theorem d4_73 : decode jdk_33_method_47_code 73 = .ok (.iload_n 1, 1) := by decide +kernel
theorem d4_74 : decode jdk_33_method_47_code 74 = .ok (.iload_n 0, 1) := by decide +kernel
theorem d4_75 : decode jdk_33_method_47_code 75 = .ok (.iconst 1, 1) := by decide +kernel
theorem d4_76 : decode jdk_33_method_47_code 76 = .ok (.iushr, 1) := by decide +kernel
theorem d4_77 : decode jdk_33_method_47_code 77 = .ok (.isub, 1) := by decide +kernel
theorem d4_78 : decode jdk_33_method_47_code 78 = .ok (.ireturn, 1) := by decide +kernel
theorem d4_66 : decode jdk_33_method_47_code 66 = .ok (.iinc 1 (-2), 3) := by decide +kernel
theorem d4_69 : decode jdk_33_method_47_code 69 = .ok (.iload_n 0, 1) := by decide +kernel
theorem d4_70 : decode jdk_33_method_47_code 70 = .ok (.iconst 2, 1) := by decide +kernel
theorem d4_71 : decode jdk_33_method_47_code 71 = .ok (.iushr, 1) := by decide +kernel
theorem d4_72 : decode jdk_33_method_47_code 72 = .ok (.istore_n 0, 1) := by decide +kernel
theorem d4_54 : decode jdk_33_method_47_code 54 = .ok (.iinc 1 (-4), 3) := by decide +kernel
theorem d4_57 : decode jdk_33_method_47_code 57 = .ok (.iload_n 0, 1) := by decide +kernel
theorem d4_58 : decode jdk_33_method_47_code 58 = .ok (.iconst 4, 1) := by decide +kernel
theorem d4_59 : decode jdk_33_method_47_code 59 = .ok (.iushr, 1) := by decide +kernel
theorem d4_60 : decode jdk_33_method_47_code 60 = .ok (.istore_n 0, 1) := by decide +kernel
theorem d4_40 : decode jdk_33_method_47_code 40 = .ok (.iinc 1 (-8), 3) := by decide +kernel
theorem d4_43 : decode jdk_33_method_47_code 43 = .ok (.iload_n 0, 1) := by decide +kernel
theorem d4_44 : decode jdk_33_method_47_code 44 = .ok (.bipush 8, 2) := by decide +kernel
theorem d4_46 : decode jdk_33_method_47_code 46 = .ok (.iushr, 1) := by decide +kernel
theorem d4_47 : decode jdk_33_method_47_code 47 = .ok (.istore_n 0, 1) := by decide +kernel
theorem d4_25 : decode jdk_33_method_47_code 25 = .ok (.iinc 1 (-16), 3) := by decide +kernel
theorem d4_28 : decode jdk_33_method_47_code 28 = .ok (.iload_n 0, 1) := by decide +kernel
theorem d4_29 : decode jdk_33_method_47_code 29 = .ok (.bipush 16, 2) := by decide +kernel
theorem d4_31 : decode jdk_33_method_47_code 31 = .ok (.iushr, 1) := by decide +kernel
theorem d4_32 : decode jdk_33_method_47_code 32 = .ok (.istore_n 0, 1) := by decide +kernel
theorem d4_4 : decode jdk_33_method_47_code 4 = .ok (.iload_n 0, 1) := by decide +kernel
theorem d4_5 : decode jdk_33_method_47_code 5 = .ok (.ifCond .ne 8, 3) := by decide +kernel
theorem d4_8 : decode jdk_33_method_47_code 8 = .ok (.bipush 32, 2) := by decide +kernel
theorem d4_10 : decode jdk_33_method_47_code 10 = .ok (.goto 4, 3) := by decide +kernel
theorem d4_14 : decode jdk_33_method_47_code 14 = .ok (.ireturn, 1) := by decide +kernel
theorem d4_13 : decode jdk_33_method_47_code 13 = .ok (.iconst 0, 1) := by decide +kernel
def f4 (p0 : Int32) : Int32 := if (0 : Int32) < p0 then (if p0 < (65536 : Int32) then (if p0 < (256 : Int32) then (if p0 < (16 : Int32) then (if p0 < (4 : Int32) then ((31 : Int32) - ((p0.toUInt32 >>> ((1 : Int32) &&& 31).toUInt32).toInt32))
          else (((31 : Int32) + (-2 : Int32)) - ((((p0.toUInt32 >>> ((2 : Int32) &&& 31).toUInt32).toInt32).toUInt32 >>> ((1 : Int32) &&& 31).toUInt32).toInt32)))
        else if ((p0.toUInt32 >>> ((4 : Int32) &&& 31).toUInt32).toInt32) < (4 : Int32) then (((31 : Int32) + (-4 : Int32)) - ((((p0.toUInt32 >>> ((4 : Int32) &&& 31).toUInt32).toInt32).toUInt32 >>> ((1 : Int32) &&& 31).toUInt32).toInt32))
        else ((((31 : Int32) + (-4 : Int32)) + (-2 : Int32)) - ((((((p0.toUInt32 >>> ((4 : Int32) &&& 31).toUInt32).toInt32).toUInt32 >>> ((2 : Int32) &&& 31).toUInt32).toInt32).toUInt32 >>> ((1 : Int32) &&& 31).toUInt32).toInt32)))
      else if ((p0.toUInt32 >>> ((8 : Int32) &&& 31).toUInt32).toInt32) < (16 : Int32) then (if ((p0.toUInt32 >>> ((8 : Int32) &&& 31).toUInt32).toInt32) < (4 : Int32) then (((31 : Int32) + (-8 : Int32)) - ((((p0.toUInt32 >>> ((8 : Int32) &&& 31).toUInt32).toInt32).toUInt32 >>> ((1 : Int32) &&& 31).toUInt32).toInt32))
        else ((((31 : Int32) + (-8 : Int32)) + (-2 : Int32)) - ((((((p0.toUInt32 >>> ((8 : Int32) &&& 31).toUInt32).toInt32).toUInt32 >>> ((2 : Int32) &&& 31).toUInt32).toInt32).toUInt32 >>> ((1 : Int32) &&& 31).toUInt32).toInt32)))
      else if ((((p0.toUInt32 >>> ((8 : Int32) &&& 31).toUInt32).toInt32).toUInt32 >>> ((4 : Int32) &&& 31).toUInt32).toInt32) < (4 : Int32) then ((((31 : Int32) + (-8 : Int32)) + (-4 : Int32)) - ((((((p0.toUInt32 >>> ((8 : Int32) &&& 31).toUInt32).toInt32).toUInt32 >>> ((4 : Int32) &&& 31).toUInt32).toInt32).toUInt32 >>> ((1 : Int32) &&& 31).toUInt32).toInt32))
      else (((((31 : Int32) + (-8 : Int32)) + (-4 : Int32)) + (-2 : Int32)) - ((((((((p0.toUInt32 >>> ((8 : Int32) &&& 31).toUInt32).toInt32).toUInt32 >>> ((4 : Int32) &&& 31).toUInt32).toInt32).toUInt32 >>> ((2 : Int32) &&& 31).toUInt32).toInt32).toUInt32 >>> ((1 : Int32) &&& 31).toUInt32).toInt32)))
    else if ((p0.toUInt32 >>> ((16 : Int32) &&& 31).toUInt32).toInt32) < (256 : Int32) then (if ((p0.toUInt32 >>> ((16 : Int32) &&& 31).toUInt32).toInt32) < (16 : Int32) then (if ((p0.toUInt32 >>> ((16 : Int32) &&& 31).toUInt32).toInt32) < (4 : Int32) then (((31 : Int32) + (-16 : Int32)) - ((((p0.toUInt32 >>> ((16 : Int32) &&& 31).toUInt32).toInt32).toUInt32 >>> ((1 : Int32) &&& 31).toUInt32).toInt32))
        else ((((31 : Int32) + (-16 : Int32)) + (-2 : Int32)) - ((((((p0.toUInt32 >>> ((16 : Int32) &&& 31).toUInt32).toInt32).toUInt32 >>> ((2 : Int32) &&& 31).toUInt32).toInt32).toUInt32 >>> ((1 : Int32) &&& 31).toUInt32).toInt32)))
      else if ((((p0.toUInt32 >>> ((16 : Int32) &&& 31).toUInt32).toInt32).toUInt32 >>> ((4 : Int32) &&& 31).toUInt32).toInt32) < (4 : Int32) then ((((31 : Int32) + (-16 : Int32)) + (-4 : Int32)) - ((((((p0.toUInt32 >>> ((16 : Int32) &&& 31).toUInt32).toInt32).toUInt32 >>> ((4 : Int32) &&& 31).toUInt32).toInt32).toUInt32 >>> ((1 : Int32) &&& 31).toUInt32).toInt32))
      else (((((31 : Int32) + (-16 : Int32)) + (-4 : Int32)) + (-2 : Int32)) - ((((((((p0.toUInt32 >>> ((16 : Int32) &&& 31).toUInt32).toInt32).toUInt32 >>> ((4 : Int32) &&& 31).toUInt32).toInt32).toUInt32 >>> ((2 : Int32) &&& 31).toUInt32).toInt32).toUInt32 >>> ((1 : Int32) &&& 31).toUInt32).toInt32)))
    else if ((((p0.toUInt32 >>> ((16 : Int32) &&& 31).toUInt32).toInt32).toUInt32 >>> ((8 : Int32) &&& 31).toUInt32).toInt32) < (16 : Int32) then (if ((((p0.toUInt32 >>> ((16 : Int32) &&& 31).toUInt32).toInt32).toUInt32 >>> ((8 : Int32) &&& 31).toUInt32).toInt32) < (4 : Int32) then ((((31 : Int32) + (-16 : Int32)) + (-8 : Int32)) - ((((((p0.toUInt32 >>> ((16 : Int32) &&& 31).toUInt32).toInt32).toUInt32 >>> ((8 : Int32) &&& 31).toUInt32).toInt32).toUInt32 >>> ((1 : Int32) &&& 31).toUInt32).toInt32))
      else (((((31 : Int32) + (-16 : Int32)) + (-8 : Int32)) + (-2 : Int32)) - ((((((((p0.toUInt32 >>> ((16 : Int32) &&& 31).toUInt32).toInt32).toUInt32 >>> ((8 : Int32) &&& 31).toUInt32).toInt32).toUInt32 >>> ((2 : Int32) &&& 31).toUInt32).toInt32).toUInt32 >>> ((1 : Int32) &&& 31).toUInt32).toInt32)))
    else if ((((((p0.toUInt32 >>> ((16 : Int32) &&& 31).toUInt32).toInt32).toUInt32 >>> ((8 : Int32) &&& 31).toUInt32).toInt32).toUInt32 >>> ((4 : Int32) &&& 31).toUInt32).toInt32) < (4 : Int32) then (((((31 : Int32) + (-16 : Int32)) + (-8 : Int32)) + (-4 : Int32)) - ((((((((p0.toUInt32 >>> ((16 : Int32) &&& 31).toUInt32).toInt32).toUInt32 >>> ((8 : Int32) &&& 31).toUInt32).toInt32).toUInt32 >>> ((4 : Int32) &&& 31).toUInt32).toInt32).toUInt32 >>> ((1 : Int32) &&& 31).toUInt32).toInt32))
    else ((((((31 : Int32) + (-16 : Int32)) + (-8 : Int32)) + (-4 : Int32)) + (-2 : Int32)) - ((((((((((p0.toUInt32 >>> ((16 : Int32) &&& 31).toUInt32).toInt32).toUInt32 >>> ((8 : Int32) &&& 31).toUInt32).toInt32).toUInt32 >>> ((4 : Int32) &&& 31).toUInt32).toInt32).toUInt32 >>> ((2 : Int32) &&& 31).toUInt32).toInt32).toUInt32 >>> ((1 : Int32) &&& 31).toUInt32).toInt32)))
  else if p0 = (0 : Int32) then (32 : Int32)
  else (0 : Int32)
def Q4 (Z : State) (p0 : Int32)  (h0 : Heap) (v : Option Value) (h : Heap) (L : List Loc) : Prop := v = some (.int (f4 p0)) ∧ L = [] ∧ h = h0
set_option maxRecDepth 65536 in
set_option maxHeartbeats 40000000 in
theorem rm4 (l : Launch) (Z : State) (a0 : Array Value) (hw : ∀ d ∈ tables_1, d.before a0 Z = true) (ws : List Jvm.Cond) (p0 : Int32)  (h0 : Heap)  :
    MetFree l (⟨"java/lang/Integer", "numberOfLeadingZeros", "(I)I"⟩ : MethodName) (head1 (Jvm.Cond.code (⟨"java/lang/Integer", "numberOfLeadingZeros", "(I)I"⟩ : MethodName) jdk_33_method_47_code 2 (some .int) :: ws) ({ frames := 0, cells := 0, slots := 0, locals := 0 } : Room)) (fun a U => a = #[(.int p0)] ∧ Z.Warmed39 U.vm ∧ U.heap = h0) (fun _ _ _ _ _ => True) (fun _ U o U' => ∃ v L, o = .returned v ∧ Q4 Z p0  h0 v U'.heap L ∧ FrameEnd U o U' L ({ frames := 0, cells := 0, slots := 0, locals := 0 } : Room).cells ({ frames := 0, cells := 0, slots := 0, locals := 0 } : Room).slots) := by
  refine MetFree.of_bodySF (plainFor_of_name pn_1) hisR ?_
  intro p e s m args below meth c s₁ Bd hml0 hP hK
  obtain ⟨rfl, hZ, hh⟩ := hP
  have hx := Bd.exec
  have hby := Bd.bytes
  have hml : c.maxLocals = 2 := hml0
  have hown : s.vm.findClass "java/lang/Integer" = some m.cls := findClass_of_methodNamed Bd.named
  have hnm := (name_of_methodNamed Bd.named Bd.method).1
  have X0 : Stand p l e ({ frames := 0, cells := 0, slots := 0, locals := 0 } : Room) s m #[(.int p0)] below meth c s₁ [] 0 0 := Stand.of_body Bd
  have e0 : s₁.heap = h0 := by rw [← hh, Bd.state]; rfl
  have pre0 : ∀ t, Steps p.tables e below (s₁.setTop (mkF m 0 #[.val (.int p0), .unset] [])) t → Steps p.tables e below (s₁.setTop (entryFrame m #[(.int p0)] 2)) t := fun t k => castTop (ef_4 m p0) k
  have K1 : ∀ t, Steps p.tables e below (s₁.setTop (mkF m 1 #[.val (.int p0), .unset] [(.int p0)])) t → Steps p.tables e below (s₁.setTop (mkF m 0 #[.val (.int p0), .unset] [])) t := by
    intro t kt
    show Steps p.tables e below (s₁.setTop (mkF m 0 #[.val (.int p0), .unset] [])) _
    refine XS.iloadN X0.here hx rfl (hb hby d4_0) rfl ?_
    exact kt
  by_cases hc2 : (0 : Int32) < p0
  · skip
    have K3 : ∀ t, Steps p.tables e below (s₁.setTop (mkF m 22 #[.val (.int p0), .val (.int (31 : Int32))] [(.int (65536 : Int32)), (.int p0)])) t → Steps p.tables e below (s₁.setTop (mkF m 0 #[.val (.int p0), .unset] [])) t := by
      intro t kt
      refine K1 _ ?_
      show Steps p.tables e below (s₁.setTop (mkF m 1 #[.val (.int p0), .unset] [(.int p0)])) _
      refine XS.ifYes X0.here hx rfl (pc0 := 1) (pc' := 15) rfl (hb hby d4_1) rfl ((if0 _ _).trans (tlt hc2).2.2.1) (by decide) (by decide) ?_
      show Steps p.tables e below (s₁.setTop (mkF m 15 #[.val (.int p0), .unset] [])) _
      refine XS.bipush X0.here hx rfl (hb hby d4_15) ?_
      show Steps p.tables e below (s₁.setTop (mkF m 17 #[.val (.int p0), .unset] [(.int (31 : Int32))])) _
      refine XS.istoreN X0.here hx rfl (hb hby d4_17) rfl (l' := #[.val (.int p0), .val (.int (31 : Int32))]) rfl ?_
      show Steps p.tables e below (s₁.setTop (mkF m 18 #[.val (.int p0), .val (.int (31 : Int32))] [])) _
      refine XS.iloadN X0.here hx rfl (hb hby d4_18) rfl ?_
      show Steps p.tables e below (s₁.setTop (mkF m 19 #[.val (.int p0), .val (.int (31 : Int32))] [(.int p0)])) _
      refine X0.ldcwInt hx hown (mvT hZ (hw _ (List.mem_of_getElem? (i := 18) rfl))) (g := (mkF m 19 #[.val (.int p0), .val (.int (31 : Int32))] [(.int p0)])) rfl (hb hby d4_19) _ ?_
      exact kt
    by_cases hc4 : p0 < (65536 : Int32)
    · skip
      have K5 : ∀ t, Steps p.tables e below (s₁.setTop (mkF m 37 #[.val (.int p0), .val (.int (31 : Int32))] [(.int (256 : Int32)), (.int p0)])) t → Steps p.tables e below (s₁.setTop (mkF m 0 #[.val (.int p0), .unset] [])) t := by
        intro t kt
        refine K3 _ ?_
        show Steps p.tables e below (s₁.setTop (mkF m 22 #[.val (.int p0), .val (.int (31 : Int32))] [(.int (65536 : Int32)), (.int p0)])) _
        refine XS.icmpYes X0.here hx rfl (pc0 := 22) (pc' := 33) rfl (hb hby d4_22) rfl (tlt hc4).1 (by decide) (by decide) ?_
        show Steps p.tables e below (s₁.setTop (mkF m 33 #[.val (.int p0), .val (.int (31 : Int32))] [])) _
        refine XS.iloadN X0.here hx rfl (hb hby d4_33) rfl ?_
        show Steps p.tables e below (s₁.setTop (mkF m 34 #[.val (.int p0), .val (.int (31 : Int32))] [(.int p0)])) _
        refine XS.sipush X0.here hx rfl (hb hby d4_34) ?_
        exact kt
      by_cases hc6 : p0 < (256 : Int32)
      · skip
        have K7 : ∀ t, Steps p.tables e below (s₁.setTop (mkF m 51 #[.val (.int p0), .val (.int (31 : Int32))] [(.int (16 : Int32)), (.int p0)])) t → Steps p.tables e below (s₁.setTop (mkF m 0 #[.val (.int p0), .unset] [])) t := by
          intro t kt
          refine K5 _ ?_
          show Steps p.tables e below (s₁.setTop (mkF m 37 #[.val (.int p0), .val (.int (31 : Int32))] [(.int (256 : Int32)), (.int p0)])) _
          refine XS.icmpYes X0.here hx rfl (pc0 := 37) (pc' := 48) rfl (hb hby d4_37) rfl (tlt hc6).1 (by decide) (by decide) ?_
          show Steps p.tables e below (s₁.setTop (mkF m 48 #[.val (.int p0), .val (.int (31 : Int32))] [])) _
          refine XS.iloadN X0.here hx rfl (hb hby d4_48) rfl ?_
          show Steps p.tables e below (s₁.setTop (mkF m 49 #[.val (.int p0), .val (.int (31 : Int32))] [(.int p0)])) _
          refine XS.bipush X0.here hx rfl (hb hby d4_49) ?_
          exact kt
        by_cases hc8 : p0 < (16 : Int32)
        · skip
          have K9 : ∀ t, Steps p.tables e below (s₁.setTop (mkF m 63 #[.val (.int p0), .val (.int (31 : Int32))] [(.int (4 : Int32)), (.int p0)])) t → Steps p.tables e below (s₁.setTop (mkF m 0 #[.val (.int p0), .unset] [])) t := by
            intro t kt
            refine K7 _ ?_
            show Steps p.tables e below (s₁.setTop (mkF m 51 #[.val (.int p0), .val (.int (31 : Int32))] [(.int (16 : Int32)), (.int p0)])) _
            refine XS.icmpYes X0.here hx rfl (pc0 := 51) (pc' := 61) rfl (hb hby d4_51) rfl (tlt hc8).1 (by decide) (by decide) ?_
            show Steps p.tables e below (s₁.setTop (mkF m 61 #[.val (.int p0), .val (.int (31 : Int32))] [])) _
            refine XS.iloadN X0.here hx rfl (hb hby d4_61) rfl ?_
            show Steps p.tables e below (s₁.setTop (mkF m 62 #[.val (.int p0), .val (.int (31 : Int32))] [(.int p0)])) _
            refine XS.iconst X0.here hx rfl (hb hby d4_62) ?_
            exact kt
          by_cases hc10 : p0 < (4 : Int32)
          · skip
            have K11 : ∀ t, Steps p.tables e below (s₁.setTop (mkF m 78 #[.val (.int p0), .val (.int (31 : Int32))] [(.int ((31 : Int32) - ((p0.toUInt32 >>> ((1 : Int32) &&& 31).toUInt32).toInt32)))])) t → Steps p.tables e below (s₁.setTop (mkF m 0 #[.val (.int p0), .unset] [])) t := by
              intro t kt
              refine K9 _ ?_
              show Steps p.tables e below (s₁.setTop (mkF m 63 #[.val (.int p0), .val (.int (31 : Int32))] [(.int (4 : Int32)), (.int p0)])) _
              refine XS.icmpYes X0.here hx rfl (pc0 := 63) (pc' := 73) rfl (hb hby d4_63) rfl (tlt hc10).1 (by decide) (by decide) ?_
              show Steps p.tables e below (s₁.setTop (mkF m 73 #[.val (.int p0), .val (.int (31 : Int32))] [])) _
              refine XS.iloadN X0.here hx rfl (hb hby d4_73) rfl ?_
              show Steps p.tables e below (s₁.setTop (mkF m 74 #[.val (.int p0), .val (.int (31 : Int32))] [(.int (31 : Int32))])) _
              refine XS.iloadN X0.here hx rfl (hb hby d4_74) rfl ?_
              show Steps p.tables e below (s₁.setTop (mkF m 75 #[.val (.int p0), .val (.int (31 : Int32))] [(.int p0), (.int (31 : Int32))])) _
              refine XS.iconst X0.here hx rfl (hb hby d4_75) ?_
              show Steps p.tables e below (s₁.setTop (mkF m 76 #[.val (.int p0), .val (.int (31 : Int32))] [(.int (1 : Int32)), (.int p0), (.int (31 : Int32))])) _
              refine XS.iushr X0.here hx rfl (hb hby d4_76) rfl ?_
              show Steps p.tables e below (s₁.setTop (mkF m 77 #[.val (.int p0), .val (.int (31 : Int32))] [(.int ((p0.toUInt32 >>> ((1 : Int32) &&& 31).toUInt32).toInt32)), (.int (31 : Int32))])) _
              refine XS.isub X0.here hx rfl (hb hby d4_77) rfl ?_
              exact kt
            have hv : f4 p0 = ((31 : Int32) - ((p0.toUInt32 >>> ((1 : Int32) &&& 31).toUInt32).toInt32)) := by simp only [f4, if_pos hc2, if_pos hc4, if_pos hc6, if_pos hc8, if_pos hc10]
            obtain ⟨fs, hr, hrun, hended, hW, hsame⟩ := X0.leave (v := some (.int ((31 : Int32) - ((p0.toUInt32 >>> ((1 : Int32) &&& 31).toUInt32).toInt32)))) (fun h => by rw [Bd.returns] at h; cases h)
            refine ⟨_, _, pre0 _ (K11 _ ?_), hrun, hended, _, _, rfl, ?_, ⟨_, rfl⟩, hW, hsame.mono (by decide) (by decide)⟩
            · show Steps p.tables e below (s₁.setTop (mkF m 78 #[.val (.int p0), .val (.int (31 : Int32))] [(.int ((31 : Int32) - ((p0.toUInt32 >>> ((1 : Int32) &&& 31).toUInt32).toInt32)))])) _
              exact retOut X0 hx Bd.returns rfl (Or.inl ⟨rfl, Or.inl rfl, _, rfl⟩) (hb hby d4_78) hr
            · show Q4 Z p0  h0 _ s₁.heap _
              rw [e0]
              exact ⟨by rw [hv], rfl, rfl⟩
          · skip
            have K12 : ∀ t, Steps p.tables e below (s₁.setTop (mkF m 78 #[.val (.int ((p0.toUInt32 >>> ((2 : Int32) &&& 31).toUInt32).toInt32)), .val (.int ((31 : Int32) + (-2 : Int32)))] [(.int (((31 : Int32) + (-2 : Int32)) - ((((p0.toUInt32 >>> ((2 : Int32) &&& 31).toUInt32).toInt32).toUInt32 >>> ((1 : Int32) &&& 31).toUInt32).toInt32)))])) t → Steps p.tables e below (s₁.setTop (mkF m 0 #[.val (.int p0), .unset] [])) t := by
              intro t kt
              refine K9 _ ?_
              show Steps p.tables e below (s₁.setTop (mkF m 63 #[.val (.int p0), .val (.int (31 : Int32))] [(.int (4 : Int32)), (.int p0)])) _
              refine XS.icmpNo X0.here hx rfl (hb hby d4_63) rfl (flt hc10).1 ?_
              show Steps p.tables e below (s₁.setTop (mkF m 66 #[.val (.int p0), .val (.int (31 : Int32))] [])) _
              refine XS.iinc X0.here hx rfl (hb hby d4_66) rfl (l' := #[.val (.int p0), .val (.int ((31 : Int32) + (-2 : Int32)))]) rfl ?_
              show Steps p.tables e below (s₁.setTop (mkF m 69 #[.val (.int p0), .val (.int ((31 : Int32) + (-2 : Int32)))] [])) _
              refine XS.iloadN X0.here hx rfl (hb hby d4_69) rfl ?_
              show Steps p.tables e below (s₁.setTop (mkF m 70 #[.val (.int p0), .val (.int ((31 : Int32) + (-2 : Int32)))] [(.int p0)])) _
              refine XS.iconst X0.here hx rfl (hb hby d4_70) ?_
              show Steps p.tables e below (s₁.setTop (mkF m 71 #[.val (.int p0), .val (.int ((31 : Int32) + (-2 : Int32)))] [(.int (2 : Int32)), (.int p0)])) _
              refine XS.iushr X0.here hx rfl (hb hby d4_71) rfl ?_
              show Steps p.tables e below (s₁.setTop (mkF m 72 #[.val (.int p0), .val (.int ((31 : Int32) + (-2 : Int32)))] [(.int ((p0.toUInt32 >>> ((2 : Int32) &&& 31).toUInt32).toInt32))])) _
              refine XS.istoreN X0.here hx rfl (hb hby d4_72) rfl (l' := #[.val (.int ((p0.toUInt32 >>> ((2 : Int32) &&& 31).toUInt32).toInt32)), .val (.int ((31 : Int32) + (-2 : Int32)))]) rfl ?_
              show Steps p.tables e below (s₁.setTop (mkF m 73 #[.val (.int ((p0.toUInt32 >>> ((2 : Int32) &&& 31).toUInt32).toInt32)), .val (.int ((31 : Int32) + (-2 : Int32)))] [])) _
              refine XS.iloadN X0.here hx rfl (hb hby d4_73) rfl ?_
              show Steps p.tables e below (s₁.setTop (mkF m 74 #[.val (.int ((p0.toUInt32 >>> ((2 : Int32) &&& 31).toUInt32).toInt32)), .val (.int ((31 : Int32) + (-2 : Int32)))] [(.int ((31 : Int32) + (-2 : Int32)))])) _
              refine XS.iloadN X0.here hx rfl (hb hby d4_74) rfl ?_
              show Steps p.tables e below (s₁.setTop (mkF m 75 #[.val (.int ((p0.toUInt32 >>> ((2 : Int32) &&& 31).toUInt32).toInt32)), .val (.int ((31 : Int32) + (-2 : Int32)))] [(.int ((p0.toUInt32 >>> ((2 : Int32) &&& 31).toUInt32).toInt32)), (.int ((31 : Int32) + (-2 : Int32)))])) _
              refine XS.iconst X0.here hx rfl (hb hby d4_75) ?_
              show Steps p.tables e below (s₁.setTop (mkF m 76 #[.val (.int ((p0.toUInt32 >>> ((2 : Int32) &&& 31).toUInt32).toInt32)), .val (.int ((31 : Int32) + (-2 : Int32)))] [(.int (1 : Int32)), (.int ((p0.toUInt32 >>> ((2 : Int32) &&& 31).toUInt32).toInt32)), (.int ((31 : Int32) + (-2 : Int32)))])) _
              refine XS.iushr X0.here hx rfl (hb hby d4_76) rfl ?_
              show Steps p.tables e below (s₁.setTop (mkF m 77 #[.val (.int ((p0.toUInt32 >>> ((2 : Int32) &&& 31).toUInt32).toInt32)), .val (.int ((31 : Int32) + (-2 : Int32)))] [(.int ((((p0.toUInt32 >>> ((2 : Int32) &&& 31).toUInt32).toInt32).toUInt32 >>> ((1 : Int32) &&& 31).toUInt32).toInt32)), (.int ((31 : Int32) + (-2 : Int32)))])) _
              refine XS.isub X0.here hx rfl (hb hby d4_77) rfl ?_
              exact kt
            have hv : f4 p0 = (((31 : Int32) + (-2 : Int32)) - ((((p0.toUInt32 >>> ((2 : Int32) &&& 31).toUInt32).toInt32).toUInt32 >>> ((1 : Int32) &&& 31).toUInt32).toInt32)) := by simp only [f4, if_pos hc2, if_pos hc4, if_pos hc6, if_pos hc8, if_neg hc10]
            obtain ⟨fs, hr, hrun, hended, hW, hsame⟩ := X0.leave (v := some (.int (((31 : Int32) + (-2 : Int32)) - ((((p0.toUInt32 >>> ((2 : Int32) &&& 31).toUInt32).toInt32).toUInt32 >>> ((1 : Int32) &&& 31).toUInt32).toInt32)))) (fun h => by rw [Bd.returns] at h; cases h)
            refine ⟨_, _, pre0 _ (K12 _ ?_), hrun, hended, _, _, rfl, ?_, ⟨_, rfl⟩, hW, hsame.mono (by decide) (by decide)⟩
            · show Steps p.tables e below (s₁.setTop (mkF m 78 #[.val (.int ((p0.toUInt32 >>> ((2 : Int32) &&& 31).toUInt32).toInt32)), .val (.int ((31 : Int32) + (-2 : Int32)))] [(.int (((31 : Int32) + (-2 : Int32)) - ((((p0.toUInt32 >>> ((2 : Int32) &&& 31).toUInt32).toInt32).toUInt32 >>> ((1 : Int32) &&& 31).toUInt32).toInt32)))])) _
              exact retOut X0 hx Bd.returns rfl (Or.inl ⟨rfl, Or.inl rfl, _, rfl⟩) (hb hby d4_78) hr
            · show Q4 Z p0  h0 _ s₁.heap _
              rw [e0]
              exact ⟨by rw [hv], rfl, rfl⟩
        · skip
          have K13 : ∀ t, Steps p.tables e below (s₁.setTop (mkF m 63 #[.val (.int ((p0.toUInt32 >>> ((4 : Int32) &&& 31).toUInt32).toInt32)), .val (.int ((31 : Int32) + (-4 : Int32)))] [(.int (4 : Int32)), (.int ((p0.toUInt32 >>> ((4 : Int32) &&& 31).toUInt32).toInt32))])) t → Steps p.tables e below (s₁.setTop (mkF m 0 #[.val (.int p0), .unset] [])) t := by
            intro t kt
            refine K7 _ ?_
            show Steps p.tables e below (s₁.setTop (mkF m 51 #[.val (.int p0), .val (.int (31 : Int32))] [(.int (16 : Int32)), (.int p0)])) _
            refine XS.icmpNo X0.here hx rfl (hb hby d4_51) rfl (flt hc8).1 ?_
            show Steps p.tables e below (s₁.setTop (mkF m 54 #[.val (.int p0), .val (.int (31 : Int32))] [])) _
            refine XS.iinc X0.here hx rfl (hb hby d4_54) rfl (l' := #[.val (.int p0), .val (.int ((31 : Int32) + (-4 : Int32)))]) rfl ?_
            show Steps p.tables e below (s₁.setTop (mkF m 57 #[.val (.int p0), .val (.int ((31 : Int32) + (-4 : Int32)))] [])) _
            refine XS.iloadN X0.here hx rfl (hb hby d4_57) rfl ?_
            show Steps p.tables e below (s₁.setTop (mkF m 58 #[.val (.int p0), .val (.int ((31 : Int32) + (-4 : Int32)))] [(.int p0)])) _
            refine XS.iconst X0.here hx rfl (hb hby d4_58) ?_
            show Steps p.tables e below (s₁.setTop (mkF m 59 #[.val (.int p0), .val (.int ((31 : Int32) + (-4 : Int32)))] [(.int (4 : Int32)), (.int p0)])) _
            refine XS.iushr X0.here hx rfl (hb hby d4_59) rfl ?_
            show Steps p.tables e below (s₁.setTop (mkF m 60 #[.val (.int p0), .val (.int ((31 : Int32) + (-4 : Int32)))] [(.int ((p0.toUInt32 >>> ((4 : Int32) &&& 31).toUInt32).toInt32))])) _
            refine XS.istoreN X0.here hx rfl (hb hby d4_60) rfl (l' := #[.val (.int ((p0.toUInt32 >>> ((4 : Int32) &&& 31).toUInt32).toInt32)), .val (.int ((31 : Int32) + (-4 : Int32)))]) rfl ?_
            show Steps p.tables e below (s₁.setTop (mkF m 61 #[.val (.int ((p0.toUInt32 >>> ((4 : Int32) &&& 31).toUInt32).toInt32)), .val (.int ((31 : Int32) + (-4 : Int32)))] [])) _
            refine XS.iloadN X0.here hx rfl (hb hby d4_61) rfl ?_
            show Steps p.tables e below (s₁.setTop (mkF m 62 #[.val (.int ((p0.toUInt32 >>> ((4 : Int32) &&& 31).toUInt32).toInt32)), .val (.int ((31 : Int32) + (-4 : Int32)))] [(.int ((p0.toUInt32 >>> ((4 : Int32) &&& 31).toUInt32).toInt32))])) _
            refine XS.iconst X0.here hx rfl (hb hby d4_62) ?_
            exact kt
          by_cases hc14 : ((p0.toUInt32 >>> ((4 : Int32) &&& 31).toUInt32).toInt32) < (4 : Int32)
          · skip
            have K15 : ∀ t, Steps p.tables e below (s₁.setTop (mkF m 78 #[.val (.int ((p0.toUInt32 >>> ((4 : Int32) &&& 31).toUInt32).toInt32)), .val (.int ((31 : Int32) + (-4 : Int32)))] [(.int (((31 : Int32) + (-4 : Int32)) - ((((p0.toUInt32 >>> ((4 : Int32) &&& 31).toUInt32).toInt32).toUInt32 >>> ((1 : Int32) &&& 31).toUInt32).toInt32)))])) t → Steps p.tables e below (s₁.setTop (mkF m 0 #[.val (.int p0), .unset] [])) t := by
              intro t kt
              refine K13 _ ?_
              show Steps p.tables e below (s₁.setTop (mkF m 63 #[.val (.int ((p0.toUInt32 >>> ((4 : Int32) &&& 31).toUInt32).toInt32)), .val (.int ((31 : Int32) + (-4 : Int32)))] [(.int (4 : Int32)), (.int ((p0.toUInt32 >>> ((4 : Int32) &&& 31).toUInt32).toInt32))])) _
              refine XS.icmpYes X0.here hx rfl (pc0 := 63) (pc' := 73) rfl (hb hby d4_63) rfl (tlt hc14).1 (by decide) (by decide) ?_
              show Steps p.tables e below (s₁.setTop (mkF m 73 #[.val (.int ((p0.toUInt32 >>> ((4 : Int32) &&& 31).toUInt32).toInt32)), .val (.int ((31 : Int32) + (-4 : Int32)))] [])) _
              refine XS.iloadN X0.here hx rfl (hb hby d4_73) rfl ?_
              show Steps p.tables e below (s₁.setTop (mkF m 74 #[.val (.int ((p0.toUInt32 >>> ((4 : Int32) &&& 31).toUInt32).toInt32)), .val (.int ((31 : Int32) + (-4 : Int32)))] [(.int ((31 : Int32) + (-4 : Int32)))])) _
              refine XS.iloadN X0.here hx rfl (hb hby d4_74) rfl ?_
              show Steps p.tables e below (s₁.setTop (mkF m 75 #[.val (.int ((p0.toUInt32 >>> ((4 : Int32) &&& 31).toUInt32).toInt32)), .val (.int ((31 : Int32) + (-4 : Int32)))] [(.int ((p0.toUInt32 >>> ((4 : Int32) &&& 31).toUInt32).toInt32)), (.int ((31 : Int32) + (-4 : Int32)))])) _
              refine XS.iconst X0.here hx rfl (hb hby d4_75) ?_
              show Steps p.tables e below (s₁.setTop (mkF m 76 #[.val (.int ((p0.toUInt32 >>> ((4 : Int32) &&& 31).toUInt32).toInt32)), .val (.int ((31 : Int32) + (-4 : Int32)))] [(.int (1 : Int32)), (.int ((p0.toUInt32 >>> ((4 : Int32) &&& 31).toUInt32).toInt32)), (.int ((31 : Int32) + (-4 : Int32)))])) _
              refine XS.iushr X0.here hx rfl (hb hby d4_76) rfl ?_
              show Steps p.tables e below (s₁.setTop (mkF m 77 #[.val (.int ((p0.toUInt32 >>> ((4 : Int32) &&& 31).toUInt32).toInt32)), .val (.int ((31 : Int32) + (-4 : Int32)))] [(.int ((((p0.toUInt32 >>> ((4 : Int32) &&& 31).toUInt32).toInt32).toUInt32 >>> ((1 : Int32) &&& 31).toUInt32).toInt32)), (.int ((31 : Int32) + (-4 : Int32)))])) _
              refine XS.isub X0.here hx rfl (hb hby d4_77) rfl ?_
              exact kt
            have hv : f4 p0 = (((31 : Int32) + (-4 : Int32)) - ((((p0.toUInt32 >>> ((4 : Int32) &&& 31).toUInt32).toInt32).toUInt32 >>> ((1 : Int32) &&& 31).toUInt32).toInt32)) := by simp only [f4, if_pos hc2, if_pos hc4, if_pos hc6, if_neg hc8, if_pos hc14]
            obtain ⟨fs, hr, hrun, hended, hW, hsame⟩ := X0.leave (v := some (.int (((31 : Int32) + (-4 : Int32)) - ((((p0.toUInt32 >>> ((4 : Int32) &&& 31).toUInt32).toInt32).toUInt32 >>> ((1 : Int32) &&& 31).toUInt32).toInt32)))) (fun h => by rw [Bd.returns] at h; cases h)
            refine ⟨_, _, pre0 _ (K15 _ ?_), hrun, hended, _, _, rfl, ?_, ⟨_, rfl⟩, hW, hsame.mono (by decide) (by decide)⟩
            · show Steps p.tables e below (s₁.setTop (mkF m 78 #[.val (.int ((p0.toUInt32 >>> ((4 : Int32) &&& 31).toUInt32).toInt32)), .val (.int ((31 : Int32) + (-4 : Int32)))] [(.int (((31 : Int32) + (-4 : Int32)) - ((((p0.toUInt32 >>> ((4 : Int32) &&& 31).toUInt32).toInt32).toUInt32 >>> ((1 : Int32) &&& 31).toUInt32).toInt32)))])) _
              exact retOut X0 hx Bd.returns rfl (Or.inl ⟨rfl, Or.inl rfl, _, rfl⟩) (hb hby d4_78) hr
            · show Q4 Z p0  h0 _ s₁.heap _
              rw [e0]
              exact ⟨by rw [hv], rfl, rfl⟩
          · skip
            have K16 : ∀ t, Steps p.tables e below (s₁.setTop (mkF m 78 #[.val (.int ((((p0.toUInt32 >>> ((4 : Int32) &&& 31).toUInt32).toInt32).toUInt32 >>> ((2 : Int32) &&& 31).toUInt32).toInt32)), .val (.int (((31 : Int32) + (-4 : Int32)) + (-2 : Int32)))] [(.int ((((31 : Int32) + (-4 : Int32)) + (-2 : Int32)) - ((((((p0.toUInt32 >>> ((4 : Int32) &&& 31).toUInt32).toInt32).toUInt32 >>> ((2 : Int32) &&& 31).toUInt32).toInt32).toUInt32 >>> ((1 : Int32) &&& 31).toUInt32).toInt32)))])) t → Steps p.tables e below (s₁.setTop (mkF m 0 #[.val (.int p0), .unset] [])) t := by
              intro t kt
              refine K13 _ ?_
              show Steps p.tables e below (s₁.setTop (mkF m 63 #[.val (.int ((p0.toUInt32 >>> ((4 : Int32) &&& 31).toUInt32).toInt32)), .val (.int ((31 : Int32) + (-4 : Int32)))] [(.int (4 : Int32)), (.int ((p0.toUInt32 >>> ((4 : Int32) &&& 31).toUInt32).toInt32))])) _
              refine XS.icmpNo X0.here hx rfl (hb hby d4_63) rfl (flt hc14).1 ?_
              show Steps p.tables e below (s₁.setTop (mkF m 66 #[.val (.int ((p0.toUInt32 >>> ((4 : Int32) &&& 31).toUInt32).toInt32)), .val (.int ((31 : Int32) + (-4 : Int32)))] [])) _
              refine XS.iinc X0.here hx rfl (hb hby d4_66) rfl (l' := #[.val (.int ((p0.toUInt32 >>> ((4 : Int32) &&& 31).toUInt32).toInt32)), .val (.int (((31 : Int32) + (-4 : Int32)) + (-2 : Int32)))]) rfl ?_
              show Steps p.tables e below (s₁.setTop (mkF m 69 #[.val (.int ((p0.toUInt32 >>> ((4 : Int32) &&& 31).toUInt32).toInt32)), .val (.int (((31 : Int32) + (-4 : Int32)) + (-2 : Int32)))] [])) _
              refine XS.iloadN X0.here hx rfl (hb hby d4_69) rfl ?_
              show Steps p.tables e below (s₁.setTop (mkF m 70 #[.val (.int ((p0.toUInt32 >>> ((4 : Int32) &&& 31).toUInt32).toInt32)), .val (.int (((31 : Int32) + (-4 : Int32)) + (-2 : Int32)))] [(.int ((p0.toUInt32 >>> ((4 : Int32) &&& 31).toUInt32).toInt32))])) _
              refine XS.iconst X0.here hx rfl (hb hby d4_70) ?_
              show Steps p.tables e below (s₁.setTop (mkF m 71 #[.val (.int ((p0.toUInt32 >>> ((4 : Int32) &&& 31).toUInt32).toInt32)), .val (.int (((31 : Int32) + (-4 : Int32)) + (-2 : Int32)))] [(.int (2 : Int32)), (.int ((p0.toUInt32 >>> ((4 : Int32) &&& 31).toUInt32).toInt32))])) _
              refine XS.iushr X0.here hx rfl (hb hby d4_71) rfl ?_
              show Steps p.tables e below (s₁.setTop (mkF m 72 #[.val (.int ((p0.toUInt32 >>> ((4 : Int32) &&& 31).toUInt32).toInt32)), .val (.int (((31 : Int32) + (-4 : Int32)) + (-2 : Int32)))] [(.int ((((p0.toUInt32 >>> ((4 : Int32) &&& 31).toUInt32).toInt32).toUInt32 >>> ((2 : Int32) &&& 31).toUInt32).toInt32))])) _
              refine XS.istoreN X0.here hx rfl (hb hby d4_72) rfl (l' := #[.val (.int ((((p0.toUInt32 >>> ((4 : Int32) &&& 31).toUInt32).toInt32).toUInt32 >>> ((2 : Int32) &&& 31).toUInt32).toInt32)), .val (.int (((31 : Int32) + (-4 : Int32)) + (-2 : Int32)))]) rfl ?_
              show Steps p.tables e below (s₁.setTop (mkF m 73 #[.val (.int ((((p0.toUInt32 >>> ((4 : Int32) &&& 31).toUInt32).toInt32).toUInt32 >>> ((2 : Int32) &&& 31).toUInt32).toInt32)), .val (.int (((31 : Int32) + (-4 : Int32)) + (-2 : Int32)))] [])) _
              refine XS.iloadN X0.here hx rfl (hb hby d4_73) rfl ?_
              show Steps p.tables e below (s₁.setTop (mkF m 74 #[.val (.int ((((p0.toUInt32 >>> ((4 : Int32) &&& 31).toUInt32).toInt32).toUInt32 >>> ((2 : Int32) &&& 31).toUInt32).toInt32)), .val (.int (((31 : Int32) + (-4 : Int32)) + (-2 : Int32)))] [(.int (((31 : Int32) + (-4 : Int32)) + (-2 : Int32)))])) _
              refine XS.iloadN X0.here hx rfl (hb hby d4_74) rfl ?_
              show Steps p.tables e below (s₁.setTop (mkF m 75 #[.val (.int ((((p0.toUInt32 >>> ((4 : Int32) &&& 31).toUInt32).toInt32).toUInt32 >>> ((2 : Int32) &&& 31).toUInt32).toInt32)), .val (.int (((31 : Int32) + (-4 : Int32)) + (-2 : Int32)))] [(.int ((((p0.toUInt32 >>> ((4 : Int32) &&& 31).toUInt32).toInt32).toUInt32 >>> ((2 : Int32) &&& 31).toUInt32).toInt32)), (.int (((31 : Int32) + (-4 : Int32)) + (-2 : Int32)))])) _
              refine XS.iconst X0.here hx rfl (hb hby d4_75) ?_
              show Steps p.tables e below (s₁.setTop (mkF m 76 #[.val (.int ((((p0.toUInt32 >>> ((4 : Int32) &&& 31).toUInt32).toInt32).toUInt32 >>> ((2 : Int32) &&& 31).toUInt32).toInt32)), .val (.int (((31 : Int32) + (-4 : Int32)) + (-2 : Int32)))] [(.int (1 : Int32)), (.int ((((p0.toUInt32 >>> ((4 : Int32) &&& 31).toUInt32).toInt32).toUInt32 >>> ((2 : Int32) &&& 31).toUInt32).toInt32)), (.int (((31 : Int32) + (-4 : Int32)) + (-2 : Int32)))])) _
              refine XS.iushr X0.here hx rfl (hb hby d4_76) rfl ?_
              show Steps p.tables e below (s₁.setTop (mkF m 77 #[.val (.int ((((p0.toUInt32 >>> ((4 : Int32) &&& 31).toUInt32).toInt32).toUInt32 >>> ((2 : Int32) &&& 31).toUInt32).toInt32)), .val (.int (((31 : Int32) + (-4 : Int32)) + (-2 : Int32)))] [(.int ((((((p0.toUInt32 >>> ((4 : Int32) &&& 31).toUInt32).toInt32).toUInt32 >>> ((2 : Int32) &&& 31).toUInt32).toInt32).toUInt32 >>> ((1 : Int32) &&& 31).toUInt32).toInt32)), (.int (((31 : Int32) + (-4 : Int32)) + (-2 : Int32)))])) _
              refine XS.isub X0.here hx rfl (hb hby d4_77) rfl ?_
              exact kt
            have hv : f4 p0 = ((((31 : Int32) + (-4 : Int32)) + (-2 : Int32)) - ((((((p0.toUInt32 >>> ((4 : Int32) &&& 31).toUInt32).toInt32).toUInt32 >>> ((2 : Int32) &&& 31).toUInt32).toInt32).toUInt32 >>> ((1 : Int32) &&& 31).toUInt32).toInt32)) := by simp only [f4, if_pos hc2, if_pos hc4, if_pos hc6, if_neg hc8, if_neg hc14]
            obtain ⟨fs, hr, hrun, hended, hW, hsame⟩ := X0.leave (v := some (.int ((((31 : Int32) + (-4 : Int32)) + (-2 : Int32)) - ((((((p0.toUInt32 >>> ((4 : Int32) &&& 31).toUInt32).toInt32).toUInt32 >>> ((2 : Int32) &&& 31).toUInt32).toInt32).toUInt32 >>> ((1 : Int32) &&& 31).toUInt32).toInt32)))) (fun h => by rw [Bd.returns] at h; cases h)
            refine ⟨_, _, pre0 _ (K16 _ ?_), hrun, hended, _, _, rfl, ?_, ⟨_, rfl⟩, hW, hsame.mono (by decide) (by decide)⟩
            · show Steps p.tables e below (s₁.setTop (mkF m 78 #[.val (.int ((((p0.toUInt32 >>> ((4 : Int32) &&& 31).toUInt32).toInt32).toUInt32 >>> ((2 : Int32) &&& 31).toUInt32).toInt32)), .val (.int (((31 : Int32) + (-4 : Int32)) + (-2 : Int32)))] [(.int ((((31 : Int32) + (-4 : Int32)) + (-2 : Int32)) - ((((((p0.toUInt32 >>> ((4 : Int32) &&& 31).toUInt32).toInt32).toUInt32 >>> ((2 : Int32) &&& 31).toUInt32).toInt32).toUInt32 >>> ((1 : Int32) &&& 31).toUInt32).toInt32)))])) _
              exact retOut X0 hx Bd.returns rfl (Or.inl ⟨rfl, Or.inl rfl, _, rfl⟩) (hb hby d4_78) hr
            · show Q4 Z p0  h0 _ s₁.heap _
              rw [e0]
              exact ⟨by rw [hv], rfl, rfl⟩
      · skip
        have K17 : ∀ t, Steps p.tables e below (s₁.setTop (mkF m 51 #[.val (.int ((p0.toUInt32 >>> ((8 : Int32) &&& 31).toUInt32).toInt32)), .val (.int ((31 : Int32) + (-8 : Int32)))] [(.int (16 : Int32)), (.int ((p0.toUInt32 >>> ((8 : Int32) &&& 31).toUInt32).toInt32))])) t → Steps p.tables e below (s₁.setTop (mkF m 0 #[.val (.int p0), .unset] [])) t := by
          intro t kt
          refine K5 _ ?_
          show Steps p.tables e below (s₁.setTop (mkF m 37 #[.val (.int p0), .val (.int (31 : Int32))] [(.int (256 : Int32)), (.int p0)])) _
          refine XS.icmpNo X0.here hx rfl (hb hby d4_37) rfl (flt hc6).1 ?_
          show Steps p.tables e below (s₁.setTop (mkF m 40 #[.val (.int p0), .val (.int (31 : Int32))] [])) _
          refine XS.iinc X0.here hx rfl (hb hby d4_40) rfl (l' := #[.val (.int p0), .val (.int ((31 : Int32) + (-8 : Int32)))]) rfl ?_
          show Steps p.tables e below (s₁.setTop (mkF m 43 #[.val (.int p0), .val (.int ((31 : Int32) + (-8 : Int32)))] [])) _
          refine XS.iloadN X0.here hx rfl (hb hby d4_43) rfl ?_
          show Steps p.tables e below (s₁.setTop (mkF m 44 #[.val (.int p0), .val (.int ((31 : Int32) + (-8 : Int32)))] [(.int p0)])) _
          refine XS.bipush X0.here hx rfl (hb hby d4_44) ?_
          show Steps p.tables e below (s₁.setTop (mkF m 46 #[.val (.int p0), .val (.int ((31 : Int32) + (-8 : Int32)))] [(.int (8 : Int32)), (.int p0)])) _
          refine XS.iushr X0.here hx rfl (hb hby d4_46) rfl ?_
          show Steps p.tables e below (s₁.setTop (mkF m 47 #[.val (.int p0), .val (.int ((31 : Int32) + (-8 : Int32)))] [(.int ((p0.toUInt32 >>> ((8 : Int32) &&& 31).toUInt32).toInt32))])) _
          refine XS.istoreN X0.here hx rfl (hb hby d4_47) rfl (l' := #[.val (.int ((p0.toUInt32 >>> ((8 : Int32) &&& 31).toUInt32).toInt32)), .val (.int ((31 : Int32) + (-8 : Int32)))]) rfl ?_
          show Steps p.tables e below (s₁.setTop (mkF m 48 #[.val (.int ((p0.toUInt32 >>> ((8 : Int32) &&& 31).toUInt32).toInt32)), .val (.int ((31 : Int32) + (-8 : Int32)))] [])) _
          refine XS.iloadN X0.here hx rfl (hb hby d4_48) rfl ?_
          show Steps p.tables e below (s₁.setTop (mkF m 49 #[.val (.int ((p0.toUInt32 >>> ((8 : Int32) &&& 31).toUInt32).toInt32)), .val (.int ((31 : Int32) + (-8 : Int32)))] [(.int ((p0.toUInt32 >>> ((8 : Int32) &&& 31).toUInt32).toInt32))])) _
          refine XS.bipush X0.here hx rfl (hb hby d4_49) ?_
          exact kt
        by_cases hc18 : ((p0.toUInt32 >>> ((8 : Int32) &&& 31).toUInt32).toInt32) < (16 : Int32)
        · skip
          have K19 : ∀ t, Steps p.tables e below (s₁.setTop (mkF m 63 #[.val (.int ((p0.toUInt32 >>> ((8 : Int32) &&& 31).toUInt32).toInt32)), .val (.int ((31 : Int32) + (-8 : Int32)))] [(.int (4 : Int32)), (.int ((p0.toUInt32 >>> ((8 : Int32) &&& 31).toUInt32).toInt32))])) t → Steps p.tables e below (s₁.setTop (mkF m 0 #[.val (.int p0), .unset] [])) t := by
            intro t kt
            refine K17 _ ?_
            show Steps p.tables e below (s₁.setTop (mkF m 51 #[.val (.int ((p0.toUInt32 >>> ((8 : Int32) &&& 31).toUInt32).toInt32)), .val (.int ((31 : Int32) + (-8 : Int32)))] [(.int (16 : Int32)), (.int ((p0.toUInt32 >>> ((8 : Int32) &&& 31).toUInt32).toInt32))])) _
            refine XS.icmpYes X0.here hx rfl (pc0 := 51) (pc' := 61) rfl (hb hby d4_51) rfl (tlt hc18).1 (by decide) (by decide) ?_
            show Steps p.tables e below (s₁.setTop (mkF m 61 #[.val (.int ((p0.toUInt32 >>> ((8 : Int32) &&& 31).toUInt32).toInt32)), .val (.int ((31 : Int32) + (-8 : Int32)))] [])) _
            refine XS.iloadN X0.here hx rfl (hb hby d4_61) rfl ?_
            show Steps p.tables e below (s₁.setTop (mkF m 62 #[.val (.int ((p0.toUInt32 >>> ((8 : Int32) &&& 31).toUInt32).toInt32)), .val (.int ((31 : Int32) + (-8 : Int32)))] [(.int ((p0.toUInt32 >>> ((8 : Int32) &&& 31).toUInt32).toInt32))])) _
            refine XS.iconst X0.here hx rfl (hb hby d4_62) ?_
            exact kt
          by_cases hc20 : ((p0.toUInt32 >>> ((8 : Int32) &&& 31).toUInt32).toInt32) < (4 : Int32)
          · skip
            have K21 : ∀ t, Steps p.tables e below (s₁.setTop (mkF m 78 #[.val (.int ((p0.toUInt32 >>> ((8 : Int32) &&& 31).toUInt32).toInt32)), .val (.int ((31 : Int32) + (-8 : Int32)))] [(.int (((31 : Int32) + (-8 : Int32)) - ((((p0.toUInt32 >>> ((8 : Int32) &&& 31).toUInt32).toInt32).toUInt32 >>> ((1 : Int32) &&& 31).toUInt32).toInt32)))])) t → Steps p.tables e below (s₁.setTop (mkF m 0 #[.val (.int p0), .unset] [])) t := by
              intro t kt
              refine K19 _ ?_
              show Steps p.tables e below (s₁.setTop (mkF m 63 #[.val (.int ((p0.toUInt32 >>> ((8 : Int32) &&& 31).toUInt32).toInt32)), .val (.int ((31 : Int32) + (-8 : Int32)))] [(.int (4 : Int32)), (.int ((p0.toUInt32 >>> ((8 : Int32) &&& 31).toUInt32).toInt32))])) _
              refine XS.icmpYes X0.here hx rfl (pc0 := 63) (pc' := 73) rfl (hb hby d4_63) rfl (tlt hc20).1 (by decide) (by decide) ?_
              show Steps p.tables e below (s₁.setTop (mkF m 73 #[.val (.int ((p0.toUInt32 >>> ((8 : Int32) &&& 31).toUInt32).toInt32)), .val (.int ((31 : Int32) + (-8 : Int32)))] [])) _
              refine XS.iloadN X0.here hx rfl (hb hby d4_73) rfl ?_
              show Steps p.tables e below (s₁.setTop (mkF m 74 #[.val (.int ((p0.toUInt32 >>> ((8 : Int32) &&& 31).toUInt32).toInt32)), .val (.int ((31 : Int32) + (-8 : Int32)))] [(.int ((31 : Int32) + (-8 : Int32)))])) _
              refine XS.iloadN X0.here hx rfl (hb hby d4_74) rfl ?_
              show Steps p.tables e below (s₁.setTop (mkF m 75 #[.val (.int ((p0.toUInt32 >>> ((8 : Int32) &&& 31).toUInt32).toInt32)), .val (.int ((31 : Int32) + (-8 : Int32)))] [(.int ((p0.toUInt32 >>> ((8 : Int32) &&& 31).toUInt32).toInt32)), (.int ((31 : Int32) + (-8 : Int32)))])) _
              refine XS.iconst X0.here hx rfl (hb hby d4_75) ?_
              show Steps p.tables e below (s₁.setTop (mkF m 76 #[.val (.int ((p0.toUInt32 >>> ((8 : Int32) &&& 31).toUInt32).toInt32)), .val (.int ((31 : Int32) + (-8 : Int32)))] [(.int (1 : Int32)), (.int ((p0.toUInt32 >>> ((8 : Int32) &&& 31).toUInt32).toInt32)), (.int ((31 : Int32) + (-8 : Int32)))])) _
              refine XS.iushr X0.here hx rfl (hb hby d4_76) rfl ?_
              show Steps p.tables e below (s₁.setTop (mkF m 77 #[.val (.int ((p0.toUInt32 >>> ((8 : Int32) &&& 31).toUInt32).toInt32)), .val (.int ((31 : Int32) + (-8 : Int32)))] [(.int ((((p0.toUInt32 >>> ((8 : Int32) &&& 31).toUInt32).toInt32).toUInt32 >>> ((1 : Int32) &&& 31).toUInt32).toInt32)), (.int ((31 : Int32) + (-8 : Int32)))])) _
              refine XS.isub X0.here hx rfl (hb hby d4_77) rfl ?_
              exact kt
            have hv : f4 p0 = (((31 : Int32) + (-8 : Int32)) - ((((p0.toUInt32 >>> ((8 : Int32) &&& 31).toUInt32).toInt32).toUInt32 >>> ((1 : Int32) &&& 31).toUInt32).toInt32)) := by simp only [f4, if_pos hc2, if_pos hc4, if_neg hc6, if_pos hc18, if_pos hc20]
            obtain ⟨fs, hr, hrun, hended, hW, hsame⟩ := X0.leave (v := some (.int (((31 : Int32) + (-8 : Int32)) - ((((p0.toUInt32 >>> ((8 : Int32) &&& 31).toUInt32).toInt32).toUInt32 >>> ((1 : Int32) &&& 31).toUInt32).toInt32)))) (fun h => by rw [Bd.returns] at h; cases h)
            refine ⟨_, _, pre0 _ (K21 _ ?_), hrun, hended, _, _, rfl, ?_, ⟨_, rfl⟩, hW, hsame.mono (by decide) (by decide)⟩
            · show Steps p.tables e below (s₁.setTop (mkF m 78 #[.val (.int ((p0.toUInt32 >>> ((8 : Int32) &&& 31).toUInt32).toInt32)), .val (.int ((31 : Int32) + (-8 : Int32)))] [(.int (((31 : Int32) + (-8 : Int32)) - ((((p0.toUInt32 >>> ((8 : Int32) &&& 31).toUInt32).toInt32).toUInt32 >>> ((1 : Int32) &&& 31).toUInt32).toInt32)))])) _
              exact retOut X0 hx Bd.returns rfl (Or.inl ⟨rfl, Or.inl rfl, _, rfl⟩) (hb hby d4_78) hr
            · show Q4 Z p0  h0 _ s₁.heap _
              rw [e0]
              exact ⟨by rw [hv], rfl, rfl⟩
          · skip
            have K22 : ∀ t, Steps p.tables e below (s₁.setTop (mkF m 78 #[.val (.int ((((p0.toUInt32 >>> ((8 : Int32) &&& 31).toUInt32).toInt32).toUInt32 >>> ((2 : Int32) &&& 31).toUInt32).toInt32)), .val (.int (((31 : Int32) + (-8 : Int32)) + (-2 : Int32)))] [(.int ((((31 : Int32) + (-8 : Int32)) + (-2 : Int32)) - ((((((p0.toUInt32 >>> ((8 : Int32) &&& 31).toUInt32).toInt32).toUInt32 >>> ((2 : Int32) &&& 31).toUInt32).toInt32).toUInt32 >>> ((1 : Int32) &&& 31).toUInt32).toInt32)))])) t → Steps p.tables e below (s₁.setTop (mkF m 0 #[.val (.int p0), .unset] [])) t := by
              intro t kt
              refine K19 _ ?_
              show Steps p.tables e below (s₁.setTop (mkF m 63 #[.val (.int ((p0.toUInt32 >>> ((8 : Int32) &&& 31).toUInt32).toInt32)), .val (.int ((31 : Int32) + (-8 : Int32)))] [(.int (4 : Int32)), (.int ((p0.toUInt32 >>> ((8 : Int32) &&& 31).toUInt32).toInt32))])) _
              refine XS.icmpNo X0.here hx rfl (hb hby d4_63) rfl (flt hc20).1 ?_
              show Steps p.tables e below (s₁.setTop (mkF m 66 #[.val (.int ((p0.toUInt32 >>> ((8 : Int32) &&& 31).toUInt32).toInt32)), .val (.int ((31 : Int32) + (-8 : Int32)))] [])) _
              refine XS.iinc X0.here hx rfl (hb hby d4_66) rfl (l' := #[.val (.int ((p0.toUInt32 >>> ((8 : Int32) &&& 31).toUInt32).toInt32)), .val (.int (((31 : Int32) + (-8 : Int32)) + (-2 : Int32)))]) rfl ?_
              show Steps p.tables e below (s₁.setTop (mkF m 69 #[.val (.int ((p0.toUInt32 >>> ((8 : Int32) &&& 31).toUInt32).toInt32)), .val (.int (((31 : Int32) + (-8 : Int32)) + (-2 : Int32)))] [])) _
              refine XS.iloadN X0.here hx rfl (hb hby d4_69) rfl ?_
              show Steps p.tables e below (s₁.setTop (mkF m 70 #[.val (.int ((p0.toUInt32 >>> ((8 : Int32) &&& 31).toUInt32).toInt32)), .val (.int (((31 : Int32) + (-8 : Int32)) + (-2 : Int32)))] [(.int ((p0.toUInt32 >>> ((8 : Int32) &&& 31).toUInt32).toInt32))])) _
              refine XS.iconst X0.here hx rfl (hb hby d4_70) ?_
              show Steps p.tables e below (s₁.setTop (mkF m 71 #[.val (.int ((p0.toUInt32 >>> ((8 : Int32) &&& 31).toUInt32).toInt32)), .val (.int (((31 : Int32) + (-8 : Int32)) + (-2 : Int32)))] [(.int (2 : Int32)), (.int ((p0.toUInt32 >>> ((8 : Int32) &&& 31).toUInt32).toInt32))])) _
              refine XS.iushr X0.here hx rfl (hb hby d4_71) rfl ?_
              show Steps p.tables e below (s₁.setTop (mkF m 72 #[.val (.int ((p0.toUInt32 >>> ((8 : Int32) &&& 31).toUInt32).toInt32)), .val (.int (((31 : Int32) + (-8 : Int32)) + (-2 : Int32)))] [(.int ((((p0.toUInt32 >>> ((8 : Int32) &&& 31).toUInt32).toInt32).toUInt32 >>> ((2 : Int32) &&& 31).toUInt32).toInt32))])) _
              refine XS.istoreN X0.here hx rfl (hb hby d4_72) rfl (l' := #[.val (.int ((((p0.toUInt32 >>> ((8 : Int32) &&& 31).toUInt32).toInt32).toUInt32 >>> ((2 : Int32) &&& 31).toUInt32).toInt32)), .val (.int (((31 : Int32) + (-8 : Int32)) + (-2 : Int32)))]) rfl ?_
              show Steps p.tables e below (s₁.setTop (mkF m 73 #[.val (.int ((((p0.toUInt32 >>> ((8 : Int32) &&& 31).toUInt32).toInt32).toUInt32 >>> ((2 : Int32) &&& 31).toUInt32).toInt32)), .val (.int (((31 : Int32) + (-8 : Int32)) + (-2 : Int32)))] [])) _
              refine XS.iloadN X0.here hx rfl (hb hby d4_73) rfl ?_
              show Steps p.tables e below (s₁.setTop (mkF m 74 #[.val (.int ((((p0.toUInt32 >>> ((8 : Int32) &&& 31).toUInt32).toInt32).toUInt32 >>> ((2 : Int32) &&& 31).toUInt32).toInt32)), .val (.int (((31 : Int32) + (-8 : Int32)) + (-2 : Int32)))] [(.int (((31 : Int32) + (-8 : Int32)) + (-2 : Int32)))])) _
              refine XS.iloadN X0.here hx rfl (hb hby d4_74) rfl ?_
              show Steps p.tables e below (s₁.setTop (mkF m 75 #[.val (.int ((((p0.toUInt32 >>> ((8 : Int32) &&& 31).toUInt32).toInt32).toUInt32 >>> ((2 : Int32) &&& 31).toUInt32).toInt32)), .val (.int (((31 : Int32) + (-8 : Int32)) + (-2 : Int32)))] [(.int ((((p0.toUInt32 >>> ((8 : Int32) &&& 31).toUInt32).toInt32).toUInt32 >>> ((2 : Int32) &&& 31).toUInt32).toInt32)), (.int (((31 : Int32) + (-8 : Int32)) + (-2 : Int32)))])) _
              refine XS.iconst X0.here hx rfl (hb hby d4_75) ?_
              show Steps p.tables e below (s₁.setTop (mkF m 76 #[.val (.int ((((p0.toUInt32 >>> ((8 : Int32) &&& 31).toUInt32).toInt32).toUInt32 >>> ((2 : Int32) &&& 31).toUInt32).toInt32)), .val (.int (((31 : Int32) + (-8 : Int32)) + (-2 : Int32)))] [(.int (1 : Int32)), (.int ((((p0.toUInt32 >>> ((8 : Int32) &&& 31).toUInt32).toInt32).toUInt32 >>> ((2 : Int32) &&& 31).toUInt32).toInt32)), (.int (((31 : Int32) + (-8 : Int32)) + (-2 : Int32)))])) _
              refine XS.iushr X0.here hx rfl (hb hby d4_76) rfl ?_
              show Steps p.tables e below (s₁.setTop (mkF m 77 #[.val (.int ((((p0.toUInt32 >>> ((8 : Int32) &&& 31).toUInt32).toInt32).toUInt32 >>> ((2 : Int32) &&& 31).toUInt32).toInt32)), .val (.int (((31 : Int32) + (-8 : Int32)) + (-2 : Int32)))] [(.int ((((((p0.toUInt32 >>> ((8 : Int32) &&& 31).toUInt32).toInt32).toUInt32 >>> ((2 : Int32) &&& 31).toUInt32).toInt32).toUInt32 >>> ((1 : Int32) &&& 31).toUInt32).toInt32)), (.int (((31 : Int32) + (-8 : Int32)) + (-2 : Int32)))])) _
              refine XS.isub X0.here hx rfl (hb hby d4_77) rfl ?_
              exact kt
            have hv : f4 p0 = ((((31 : Int32) + (-8 : Int32)) + (-2 : Int32)) - ((((((p0.toUInt32 >>> ((8 : Int32) &&& 31).toUInt32).toInt32).toUInt32 >>> ((2 : Int32) &&& 31).toUInt32).toInt32).toUInt32 >>> ((1 : Int32) &&& 31).toUInt32).toInt32)) := by simp only [f4, if_pos hc2, if_pos hc4, if_neg hc6, if_pos hc18, if_neg hc20]
            obtain ⟨fs, hr, hrun, hended, hW, hsame⟩ := X0.leave (v := some (.int ((((31 : Int32) + (-8 : Int32)) + (-2 : Int32)) - ((((((p0.toUInt32 >>> ((8 : Int32) &&& 31).toUInt32).toInt32).toUInt32 >>> ((2 : Int32) &&& 31).toUInt32).toInt32).toUInt32 >>> ((1 : Int32) &&& 31).toUInt32).toInt32)))) (fun h => by rw [Bd.returns] at h; cases h)
            refine ⟨_, _, pre0 _ (K22 _ ?_), hrun, hended, _, _, rfl, ?_, ⟨_, rfl⟩, hW, hsame.mono (by decide) (by decide)⟩
            · show Steps p.tables e below (s₁.setTop (mkF m 78 #[.val (.int ((((p0.toUInt32 >>> ((8 : Int32) &&& 31).toUInt32).toInt32).toUInt32 >>> ((2 : Int32) &&& 31).toUInt32).toInt32)), .val (.int (((31 : Int32) + (-8 : Int32)) + (-2 : Int32)))] [(.int ((((31 : Int32) + (-8 : Int32)) + (-2 : Int32)) - ((((((p0.toUInt32 >>> ((8 : Int32) &&& 31).toUInt32).toInt32).toUInt32 >>> ((2 : Int32) &&& 31).toUInt32).toInt32).toUInt32 >>> ((1 : Int32) &&& 31).toUInt32).toInt32)))])) _
              exact retOut X0 hx Bd.returns rfl (Or.inl ⟨rfl, Or.inl rfl, _, rfl⟩) (hb hby d4_78) hr
            · show Q4 Z p0  h0 _ s₁.heap _
              rw [e0]
              exact ⟨by rw [hv], rfl, rfl⟩
        · skip
          have K23 : ∀ t, Steps p.tables e below (s₁.setTop (mkF m 63 #[.val (.int ((((p0.toUInt32 >>> ((8 : Int32) &&& 31).toUInt32).toInt32).toUInt32 >>> ((4 : Int32) &&& 31).toUInt32).toInt32)), .val (.int (((31 : Int32) + (-8 : Int32)) + (-4 : Int32)))] [(.int (4 : Int32)), (.int ((((p0.toUInt32 >>> ((8 : Int32) &&& 31).toUInt32).toInt32).toUInt32 >>> ((4 : Int32) &&& 31).toUInt32).toInt32))])) t → Steps p.tables e below (s₁.setTop (mkF m 0 #[.val (.int p0), .unset] [])) t := by
            intro t kt
            refine K17 _ ?_
            show Steps p.tables e below (s₁.setTop (mkF m 51 #[.val (.int ((p0.toUInt32 >>> ((8 : Int32) &&& 31).toUInt32).toInt32)), .val (.int ((31 : Int32) + (-8 : Int32)))] [(.int (16 : Int32)), (.int ((p0.toUInt32 >>> ((8 : Int32) &&& 31).toUInt32).toInt32))])) _
            refine XS.icmpNo X0.here hx rfl (hb hby d4_51) rfl (flt hc18).1 ?_
            show Steps p.tables e below (s₁.setTop (mkF m 54 #[.val (.int ((p0.toUInt32 >>> ((8 : Int32) &&& 31).toUInt32).toInt32)), .val (.int ((31 : Int32) + (-8 : Int32)))] [])) _
            refine XS.iinc X0.here hx rfl (hb hby d4_54) rfl (l' := #[.val (.int ((p0.toUInt32 >>> ((8 : Int32) &&& 31).toUInt32).toInt32)), .val (.int (((31 : Int32) + (-8 : Int32)) + (-4 : Int32)))]) rfl ?_
            show Steps p.tables e below (s₁.setTop (mkF m 57 #[.val (.int ((p0.toUInt32 >>> ((8 : Int32) &&& 31).toUInt32).toInt32)), .val (.int (((31 : Int32) + (-8 : Int32)) + (-4 : Int32)))] [])) _
            refine XS.iloadN X0.here hx rfl (hb hby d4_57) rfl ?_
            show Steps p.tables e below (s₁.setTop (mkF m 58 #[.val (.int ((p0.toUInt32 >>> ((8 : Int32) &&& 31).toUInt32).toInt32)), .val (.int (((31 : Int32) + (-8 : Int32)) + (-4 : Int32)))] [(.int ((p0.toUInt32 >>> ((8 : Int32) &&& 31).toUInt32).toInt32))])) _
            refine XS.iconst X0.here hx rfl (hb hby d4_58) ?_
            show Steps p.tables e below (s₁.setTop (mkF m 59 #[.val (.int ((p0.toUInt32 >>> ((8 : Int32) &&& 31).toUInt32).toInt32)), .val (.int (((31 : Int32) + (-8 : Int32)) + (-4 : Int32)))] [(.int (4 : Int32)), (.int ((p0.toUInt32 >>> ((8 : Int32) &&& 31).toUInt32).toInt32))])) _
            refine XS.iushr X0.here hx rfl (hb hby d4_59) rfl ?_
            show Steps p.tables e below (s₁.setTop (mkF m 60 #[.val (.int ((p0.toUInt32 >>> ((8 : Int32) &&& 31).toUInt32).toInt32)), .val (.int (((31 : Int32) + (-8 : Int32)) + (-4 : Int32)))] [(.int ((((p0.toUInt32 >>> ((8 : Int32) &&& 31).toUInt32).toInt32).toUInt32 >>> ((4 : Int32) &&& 31).toUInt32).toInt32))])) _
            refine XS.istoreN X0.here hx rfl (hb hby d4_60) rfl (l' := #[.val (.int ((((p0.toUInt32 >>> ((8 : Int32) &&& 31).toUInt32).toInt32).toUInt32 >>> ((4 : Int32) &&& 31).toUInt32).toInt32)), .val (.int (((31 : Int32) + (-8 : Int32)) + (-4 : Int32)))]) rfl ?_
            show Steps p.tables e below (s₁.setTop (mkF m 61 #[.val (.int ((((p0.toUInt32 >>> ((8 : Int32) &&& 31).toUInt32).toInt32).toUInt32 >>> ((4 : Int32) &&& 31).toUInt32).toInt32)), .val (.int (((31 : Int32) + (-8 : Int32)) + (-4 : Int32)))] [])) _
            refine XS.iloadN X0.here hx rfl (hb hby d4_61) rfl ?_
            show Steps p.tables e below (s₁.setTop (mkF m 62 #[.val (.int ((((p0.toUInt32 >>> ((8 : Int32) &&& 31).toUInt32).toInt32).toUInt32 >>> ((4 : Int32) &&& 31).toUInt32).toInt32)), .val (.int (((31 : Int32) + (-8 : Int32)) + (-4 : Int32)))] [(.int ((((p0.toUInt32 >>> ((8 : Int32) &&& 31).toUInt32).toInt32).toUInt32 >>> ((4 : Int32) &&& 31).toUInt32).toInt32))])) _
            refine XS.iconst X0.here hx rfl (hb hby d4_62) ?_
            exact kt
          by_cases hc24 : ((((p0.toUInt32 >>> ((8 : Int32) &&& 31).toUInt32).toInt32).toUInt32 >>> ((4 : Int32) &&& 31).toUInt32).toInt32) < (4 : Int32)
          · skip
            have K25 : ∀ t, Steps p.tables e below (s₁.setTop (mkF m 78 #[.val (.int ((((p0.toUInt32 >>> ((8 : Int32) &&& 31).toUInt32).toInt32).toUInt32 >>> ((4 : Int32) &&& 31).toUInt32).toInt32)), .val (.int (((31 : Int32) + (-8 : Int32)) + (-4 : Int32)))] [(.int ((((31 : Int32) + (-8 : Int32)) + (-4 : Int32)) - ((((((p0.toUInt32 >>> ((8 : Int32) &&& 31).toUInt32).toInt32).toUInt32 >>> ((4 : Int32) &&& 31).toUInt32).toInt32).toUInt32 >>> ((1 : Int32) &&& 31).toUInt32).toInt32)))])) t → Steps p.tables e below (s₁.setTop (mkF m 0 #[.val (.int p0), .unset] [])) t := by
              intro t kt
              refine K23 _ ?_
              show Steps p.tables e below (s₁.setTop (mkF m 63 #[.val (.int ((((p0.toUInt32 >>> ((8 : Int32) &&& 31).toUInt32).toInt32).toUInt32 >>> ((4 : Int32) &&& 31).toUInt32).toInt32)), .val (.int (((31 : Int32) + (-8 : Int32)) + (-4 : Int32)))] [(.int (4 : Int32)), (.int ((((p0.toUInt32 >>> ((8 : Int32) &&& 31).toUInt32).toInt32).toUInt32 >>> ((4 : Int32) &&& 31).toUInt32).toInt32))])) _
              refine XS.icmpYes X0.here hx rfl (pc0 := 63) (pc' := 73) rfl (hb hby d4_63) rfl (tlt hc24).1 (by decide) (by decide) ?_
              show Steps p.tables e below (s₁.setTop (mkF m 73 #[.val (.int ((((p0.toUInt32 >>> ((8 : Int32) &&& 31).toUInt32).toInt32).toUInt32 >>> ((4 : Int32) &&& 31).toUInt32).toInt32)), .val (.int (((31 : Int32) + (-8 : Int32)) + (-4 : Int32)))] [])) _
              refine XS.iloadN X0.here hx rfl (hb hby d4_73) rfl ?_
              show Steps p.tables e below (s₁.setTop (mkF m 74 #[.val (.int ((((p0.toUInt32 >>> ((8 : Int32) &&& 31).toUInt32).toInt32).toUInt32 >>> ((4 : Int32) &&& 31).toUInt32).toInt32)), .val (.int (((31 : Int32) + (-8 : Int32)) + (-4 : Int32)))] [(.int (((31 : Int32) + (-8 : Int32)) + (-4 : Int32)))])) _
              refine XS.iloadN X0.here hx rfl (hb hby d4_74) rfl ?_
              show Steps p.tables e below (s₁.setTop (mkF m 75 #[.val (.int ((((p0.toUInt32 >>> ((8 : Int32) &&& 31).toUInt32).toInt32).toUInt32 >>> ((4 : Int32) &&& 31).toUInt32).toInt32)), .val (.int (((31 : Int32) + (-8 : Int32)) + (-4 : Int32)))] [(.int ((((p0.toUInt32 >>> ((8 : Int32) &&& 31).toUInt32).toInt32).toUInt32 >>> ((4 : Int32) &&& 31).toUInt32).toInt32)), (.int (((31 : Int32) + (-8 : Int32)) + (-4 : Int32)))])) _
              refine XS.iconst X0.here hx rfl (hb hby d4_75) ?_
              show Steps p.tables e below (s₁.setTop (mkF m 76 #[.val (.int ((((p0.toUInt32 >>> ((8 : Int32) &&& 31).toUInt32).toInt32).toUInt32 >>> ((4 : Int32) &&& 31).toUInt32).toInt32)), .val (.int (((31 : Int32) + (-8 : Int32)) + (-4 : Int32)))] [(.int (1 : Int32)), (.int ((((p0.toUInt32 >>> ((8 : Int32) &&& 31).toUInt32).toInt32).toUInt32 >>> ((4 : Int32) &&& 31).toUInt32).toInt32)), (.int (((31 : Int32) + (-8 : Int32)) + (-4 : Int32)))])) _
              refine XS.iushr X0.here hx rfl (hb hby d4_76) rfl ?_
              show Steps p.tables e below (s₁.setTop (mkF m 77 #[.val (.int ((((p0.toUInt32 >>> ((8 : Int32) &&& 31).toUInt32).toInt32).toUInt32 >>> ((4 : Int32) &&& 31).toUInt32).toInt32)), .val (.int (((31 : Int32) + (-8 : Int32)) + (-4 : Int32)))] [(.int ((((((p0.toUInt32 >>> ((8 : Int32) &&& 31).toUInt32).toInt32).toUInt32 >>> ((4 : Int32) &&& 31).toUInt32).toInt32).toUInt32 >>> ((1 : Int32) &&& 31).toUInt32).toInt32)), (.int (((31 : Int32) + (-8 : Int32)) + (-4 : Int32)))])) _
              refine XS.isub X0.here hx rfl (hb hby d4_77) rfl ?_
              exact kt
            have hv : f4 p0 = ((((31 : Int32) + (-8 : Int32)) + (-4 : Int32)) - ((((((p0.toUInt32 >>> ((8 : Int32) &&& 31).toUInt32).toInt32).toUInt32 >>> ((4 : Int32) &&& 31).toUInt32).toInt32).toUInt32 >>> ((1 : Int32) &&& 31).toUInt32).toInt32)) := by simp only [f4, if_pos hc2, if_pos hc4, if_neg hc6, if_neg hc18, if_pos hc24]
            obtain ⟨fs, hr, hrun, hended, hW, hsame⟩ := X0.leave (v := some (.int ((((31 : Int32) + (-8 : Int32)) + (-4 : Int32)) - ((((((p0.toUInt32 >>> ((8 : Int32) &&& 31).toUInt32).toInt32).toUInt32 >>> ((4 : Int32) &&& 31).toUInt32).toInt32).toUInt32 >>> ((1 : Int32) &&& 31).toUInt32).toInt32)))) (fun h => by rw [Bd.returns] at h; cases h)
            refine ⟨_, _, pre0 _ (K25 _ ?_), hrun, hended, _, _, rfl, ?_, ⟨_, rfl⟩, hW, hsame.mono (by decide) (by decide)⟩
            · show Steps p.tables e below (s₁.setTop (mkF m 78 #[.val (.int ((((p0.toUInt32 >>> ((8 : Int32) &&& 31).toUInt32).toInt32).toUInt32 >>> ((4 : Int32) &&& 31).toUInt32).toInt32)), .val (.int (((31 : Int32) + (-8 : Int32)) + (-4 : Int32)))] [(.int ((((31 : Int32) + (-8 : Int32)) + (-4 : Int32)) - ((((((p0.toUInt32 >>> ((8 : Int32) &&& 31).toUInt32).toInt32).toUInt32 >>> ((4 : Int32) &&& 31).toUInt32).toInt32).toUInt32 >>> ((1 : Int32) &&& 31).toUInt32).toInt32)))])) _
              exact retOut X0 hx Bd.returns rfl (Or.inl ⟨rfl, Or.inl rfl, _, rfl⟩) (hb hby d4_78) hr
            · show Q4 Z p0  h0 _ s₁.heap _
              rw [e0]
              exact ⟨by rw [hv], rfl, rfl⟩
          · skip
            have K26 : ∀ t, Steps p.tables e below (s₁.setTop (mkF m 78 #[.val (.int ((((((p0.toUInt32 >>> ((8 : Int32) &&& 31).toUInt32).toInt32).toUInt32 >>> ((4 : Int32) &&& 31).toUInt32).toInt32).toUInt32 >>> ((2 : Int32) &&& 31).toUInt32).toInt32)), .val (.int ((((31 : Int32) + (-8 : Int32)) + (-4 : Int32)) + (-2 : Int32)))] [(.int (((((31 : Int32) + (-8 : Int32)) + (-4 : Int32)) + (-2 : Int32)) - ((((((((p0.toUInt32 >>> ((8 : Int32) &&& 31).toUInt32).toInt32).toUInt32 >>> ((4 : Int32) &&& 31).toUInt32).toInt32).toUInt32 >>> ((2 : Int32) &&& 31).toUInt32).toInt32).toUInt32 >>> ((1 : Int32) &&& 31).toUInt32).toInt32)))])) t → Steps p.tables e below (s₁.setTop (mkF m 0 #[.val (.int p0), .unset] [])) t := by
              intro t kt
              refine K23 _ ?_
              show Steps p.tables e below (s₁.setTop (mkF m 63 #[.val (.int ((((p0.toUInt32 >>> ((8 : Int32) &&& 31).toUInt32).toInt32).toUInt32 >>> ((4 : Int32) &&& 31).toUInt32).toInt32)), .val (.int (((31 : Int32) + (-8 : Int32)) + (-4 : Int32)))] [(.int (4 : Int32)), (.int ((((p0.toUInt32 >>> ((8 : Int32) &&& 31).toUInt32).toInt32).toUInt32 >>> ((4 : Int32) &&& 31).toUInt32).toInt32))])) _
              refine XS.icmpNo X0.here hx rfl (hb hby d4_63) rfl (flt hc24).1 ?_
              show Steps p.tables e below (s₁.setTop (mkF m 66 #[.val (.int ((((p0.toUInt32 >>> ((8 : Int32) &&& 31).toUInt32).toInt32).toUInt32 >>> ((4 : Int32) &&& 31).toUInt32).toInt32)), .val (.int (((31 : Int32) + (-8 : Int32)) + (-4 : Int32)))] [])) _
              refine XS.iinc X0.here hx rfl (hb hby d4_66) rfl (l' := #[.val (.int ((((p0.toUInt32 >>> ((8 : Int32) &&& 31).toUInt32).toInt32).toUInt32 >>> ((4 : Int32) &&& 31).toUInt32).toInt32)), .val (.int ((((31 : Int32) + (-8 : Int32)) + (-4 : Int32)) + (-2 : Int32)))]) rfl ?_
              show Steps p.tables e below (s₁.setTop (mkF m 69 #[.val (.int ((((p0.toUInt32 >>> ((8 : Int32) &&& 31).toUInt32).toInt32).toUInt32 >>> ((4 : Int32) &&& 31).toUInt32).toInt32)), .val (.int ((((31 : Int32) + (-8 : Int32)) + (-4 : Int32)) + (-2 : Int32)))] [])) _
              refine XS.iloadN X0.here hx rfl (hb hby d4_69) rfl ?_
              show Steps p.tables e below (s₁.setTop (mkF m 70 #[.val (.int ((((p0.toUInt32 >>> ((8 : Int32) &&& 31).toUInt32).toInt32).toUInt32 >>> ((4 : Int32) &&& 31).toUInt32).toInt32)), .val (.int ((((31 : Int32) + (-8 : Int32)) + (-4 : Int32)) + (-2 : Int32)))] [(.int ((((p0.toUInt32 >>> ((8 : Int32) &&& 31).toUInt32).toInt32).toUInt32 >>> ((4 : Int32) &&& 31).toUInt32).toInt32))])) _
              refine XS.iconst X0.here hx rfl (hb hby d4_70) ?_
              show Steps p.tables e below (s₁.setTop (mkF m 71 #[.val (.int ((((p0.toUInt32 >>> ((8 : Int32) &&& 31).toUInt32).toInt32).toUInt32 >>> ((4 : Int32) &&& 31).toUInt32).toInt32)), .val (.int ((((31 : Int32) + (-8 : Int32)) + (-4 : Int32)) + (-2 : Int32)))] [(.int (2 : Int32)), (.int ((((p0.toUInt32 >>> ((8 : Int32) &&& 31).toUInt32).toInt32).toUInt32 >>> ((4 : Int32) &&& 31).toUInt32).toInt32))])) _
              refine XS.iushr X0.here hx rfl (hb hby d4_71) rfl ?_
              show Steps p.tables e below (s₁.setTop (mkF m 72 #[.val (.int ((((p0.toUInt32 >>> ((8 : Int32) &&& 31).toUInt32).toInt32).toUInt32 >>> ((4 : Int32) &&& 31).toUInt32).toInt32)), .val (.int ((((31 : Int32) + (-8 : Int32)) + (-4 : Int32)) + (-2 : Int32)))] [(.int ((((((p0.toUInt32 >>> ((8 : Int32) &&& 31).toUInt32).toInt32).toUInt32 >>> ((4 : Int32) &&& 31).toUInt32).toInt32).toUInt32 >>> ((2 : Int32) &&& 31).toUInt32).toInt32))])) _
              refine XS.istoreN X0.here hx rfl (hb hby d4_72) rfl (l' := #[.val (.int ((((((p0.toUInt32 >>> ((8 : Int32) &&& 31).toUInt32).toInt32).toUInt32 >>> ((4 : Int32) &&& 31).toUInt32).toInt32).toUInt32 >>> ((2 : Int32) &&& 31).toUInt32).toInt32)), .val (.int ((((31 : Int32) + (-8 : Int32)) + (-4 : Int32)) + (-2 : Int32)))]) rfl ?_
              show Steps p.tables e below (s₁.setTop (mkF m 73 #[.val (.int ((((((p0.toUInt32 >>> ((8 : Int32) &&& 31).toUInt32).toInt32).toUInt32 >>> ((4 : Int32) &&& 31).toUInt32).toInt32).toUInt32 >>> ((2 : Int32) &&& 31).toUInt32).toInt32)), .val (.int ((((31 : Int32) + (-8 : Int32)) + (-4 : Int32)) + (-2 : Int32)))] [])) _
              refine XS.iloadN X0.here hx rfl (hb hby d4_73) rfl ?_
              show Steps p.tables e below (s₁.setTop (mkF m 74 #[.val (.int ((((((p0.toUInt32 >>> ((8 : Int32) &&& 31).toUInt32).toInt32).toUInt32 >>> ((4 : Int32) &&& 31).toUInt32).toInt32).toUInt32 >>> ((2 : Int32) &&& 31).toUInt32).toInt32)), .val (.int ((((31 : Int32) + (-8 : Int32)) + (-4 : Int32)) + (-2 : Int32)))] [(.int ((((31 : Int32) + (-8 : Int32)) + (-4 : Int32)) + (-2 : Int32)))])) _
              refine XS.iloadN X0.here hx rfl (hb hby d4_74) rfl ?_
              show Steps p.tables e below (s₁.setTop (mkF m 75 #[.val (.int ((((((p0.toUInt32 >>> ((8 : Int32) &&& 31).toUInt32).toInt32).toUInt32 >>> ((4 : Int32) &&& 31).toUInt32).toInt32).toUInt32 >>> ((2 : Int32) &&& 31).toUInt32).toInt32)), .val (.int ((((31 : Int32) + (-8 : Int32)) + (-4 : Int32)) + (-2 : Int32)))] [(.int ((((((p0.toUInt32 >>> ((8 : Int32) &&& 31).toUInt32).toInt32).toUInt32 >>> ((4 : Int32) &&& 31).toUInt32).toInt32).toUInt32 >>> ((2 : Int32) &&& 31).toUInt32).toInt32)), (.int ((((31 : Int32) + (-8 : Int32)) + (-4 : Int32)) + (-2 : Int32)))])) _
              refine XS.iconst X0.here hx rfl (hb hby d4_75) ?_
              show Steps p.tables e below (s₁.setTop (mkF m 76 #[.val (.int ((((((p0.toUInt32 >>> ((8 : Int32) &&& 31).toUInt32).toInt32).toUInt32 >>> ((4 : Int32) &&& 31).toUInt32).toInt32).toUInt32 >>> ((2 : Int32) &&& 31).toUInt32).toInt32)), .val (.int ((((31 : Int32) + (-8 : Int32)) + (-4 : Int32)) + (-2 : Int32)))] [(.int (1 : Int32)), (.int ((((((p0.toUInt32 >>> ((8 : Int32) &&& 31).toUInt32).toInt32).toUInt32 >>> ((4 : Int32) &&& 31).toUInt32).toInt32).toUInt32 >>> ((2 : Int32) &&& 31).toUInt32).toInt32)), (.int ((((31 : Int32) + (-8 : Int32)) + (-4 : Int32)) + (-2 : Int32)))])) _
              refine XS.iushr X0.here hx rfl (hb hby d4_76) rfl ?_
              show Steps p.tables e below (s₁.setTop (mkF m 77 #[.val (.int ((((((p0.toUInt32 >>> ((8 : Int32) &&& 31).toUInt32).toInt32).toUInt32 >>> ((4 : Int32) &&& 31).toUInt32).toInt32).toUInt32 >>> ((2 : Int32) &&& 31).toUInt32).toInt32)), .val (.int ((((31 : Int32) + (-8 : Int32)) + (-4 : Int32)) + (-2 : Int32)))] [(.int ((((((((p0.toUInt32 >>> ((8 : Int32) &&& 31).toUInt32).toInt32).toUInt32 >>> ((4 : Int32) &&& 31).toUInt32).toInt32).toUInt32 >>> ((2 : Int32) &&& 31).toUInt32).toInt32).toUInt32 >>> ((1 : Int32) &&& 31).toUInt32).toInt32)), (.int ((((31 : Int32) + (-8 : Int32)) + (-4 : Int32)) + (-2 : Int32)))])) _
              refine XS.isub X0.here hx rfl (hb hby d4_77) rfl ?_
              exact kt
            have hv : f4 p0 = (((((31 : Int32) + (-8 : Int32)) + (-4 : Int32)) + (-2 : Int32)) - ((((((((p0.toUInt32 >>> ((8 : Int32) &&& 31).toUInt32).toInt32).toUInt32 >>> ((4 : Int32) &&& 31).toUInt32).toInt32).toUInt32 >>> ((2 : Int32) &&& 31).toUInt32).toInt32).toUInt32 >>> ((1 : Int32) &&& 31).toUInt32).toInt32)) := by simp only [f4, if_pos hc2, if_pos hc4, if_neg hc6, if_neg hc18, if_neg hc24]
            obtain ⟨fs, hr, hrun, hended, hW, hsame⟩ := X0.leave (v := some (.int (((((31 : Int32) + (-8 : Int32)) + (-4 : Int32)) + (-2 : Int32)) - ((((((((p0.toUInt32 >>> ((8 : Int32) &&& 31).toUInt32).toInt32).toUInt32 >>> ((4 : Int32) &&& 31).toUInt32).toInt32).toUInt32 >>> ((2 : Int32) &&& 31).toUInt32).toInt32).toUInt32 >>> ((1 : Int32) &&& 31).toUInt32).toInt32)))) (fun h => by rw [Bd.returns] at h; cases h)
            refine ⟨_, _, pre0 _ (K26 _ ?_), hrun, hended, _, _, rfl, ?_, ⟨_, rfl⟩, hW, hsame.mono (by decide) (by decide)⟩
            · show Steps p.tables e below (s₁.setTop (mkF m 78 #[.val (.int ((((((p0.toUInt32 >>> ((8 : Int32) &&& 31).toUInt32).toInt32).toUInt32 >>> ((4 : Int32) &&& 31).toUInt32).toInt32).toUInt32 >>> ((2 : Int32) &&& 31).toUInt32).toInt32)), .val (.int ((((31 : Int32) + (-8 : Int32)) + (-4 : Int32)) + (-2 : Int32)))] [(.int (((((31 : Int32) + (-8 : Int32)) + (-4 : Int32)) + (-2 : Int32)) - ((((((((p0.toUInt32 >>> ((8 : Int32) &&& 31).toUInt32).toInt32).toUInt32 >>> ((4 : Int32) &&& 31).toUInt32).toInt32).toUInt32 >>> ((2 : Int32) &&& 31).toUInt32).toInt32).toUInt32 >>> ((1 : Int32) &&& 31).toUInt32).toInt32)))])) _
              exact retOut X0 hx Bd.returns rfl (Or.inl ⟨rfl, Or.inl rfl, _, rfl⟩) (hb hby d4_78) hr
            · show Q4 Z p0  h0 _ s₁.heap _
              rw [e0]
              exact ⟨by rw [hv], rfl, rfl⟩
    · skip
      have K27 : ∀ t, Steps p.tables e below (s₁.setTop (mkF m 37 #[.val (.int ((p0.toUInt32 >>> ((16 : Int32) &&& 31).toUInt32).toInt32)), .val (.int ((31 : Int32) + (-16 : Int32)))] [(.int (256 : Int32)), (.int ((p0.toUInt32 >>> ((16 : Int32) &&& 31).toUInt32).toInt32))])) t → Steps p.tables e below (s₁.setTop (mkF m 0 #[.val (.int p0), .unset] [])) t := by
        intro t kt
        refine K3 _ ?_
        show Steps p.tables e below (s₁.setTop (mkF m 22 #[.val (.int p0), .val (.int (31 : Int32))] [(.int (65536 : Int32)), (.int p0)])) _
        refine XS.icmpNo X0.here hx rfl (hb hby d4_22) rfl (flt hc4).1 ?_
        show Steps p.tables e below (s₁.setTop (mkF m 25 #[.val (.int p0), .val (.int (31 : Int32))] [])) _
        refine XS.iinc X0.here hx rfl (hb hby d4_25) rfl (l' := #[.val (.int p0), .val (.int ((31 : Int32) + (-16 : Int32)))]) rfl ?_
        show Steps p.tables e below (s₁.setTop (mkF m 28 #[.val (.int p0), .val (.int ((31 : Int32) + (-16 : Int32)))] [])) _
        refine XS.iloadN X0.here hx rfl (hb hby d4_28) rfl ?_
        show Steps p.tables e below (s₁.setTop (mkF m 29 #[.val (.int p0), .val (.int ((31 : Int32) + (-16 : Int32)))] [(.int p0)])) _
        refine XS.bipush X0.here hx rfl (hb hby d4_29) ?_
        show Steps p.tables e below (s₁.setTop (mkF m 31 #[.val (.int p0), .val (.int ((31 : Int32) + (-16 : Int32)))] [(.int (16 : Int32)), (.int p0)])) _
        refine XS.iushr X0.here hx rfl (hb hby d4_31) rfl ?_
        show Steps p.tables e below (s₁.setTop (mkF m 32 #[.val (.int p0), .val (.int ((31 : Int32) + (-16 : Int32)))] [(.int ((p0.toUInt32 >>> ((16 : Int32) &&& 31).toUInt32).toInt32))])) _
        refine XS.istoreN X0.here hx rfl (hb hby d4_32) rfl (l' := #[.val (.int ((p0.toUInt32 >>> ((16 : Int32) &&& 31).toUInt32).toInt32)), .val (.int ((31 : Int32) + (-16 : Int32)))]) rfl ?_
        show Steps p.tables e below (s₁.setTop (mkF m 33 #[.val (.int ((p0.toUInt32 >>> ((16 : Int32) &&& 31).toUInt32).toInt32)), .val (.int ((31 : Int32) + (-16 : Int32)))] [])) _
        refine XS.iloadN X0.here hx rfl (hb hby d4_33) rfl ?_
        show Steps p.tables e below (s₁.setTop (mkF m 34 #[.val (.int ((p0.toUInt32 >>> ((16 : Int32) &&& 31).toUInt32).toInt32)), .val (.int ((31 : Int32) + (-16 : Int32)))] [(.int ((p0.toUInt32 >>> ((16 : Int32) &&& 31).toUInt32).toInt32))])) _
        refine XS.sipush X0.here hx rfl (hb hby d4_34) ?_
        exact kt
      by_cases hc28 : ((p0.toUInt32 >>> ((16 : Int32) &&& 31).toUInt32).toInt32) < (256 : Int32)
      · skip
        have K29 : ∀ t, Steps p.tables e below (s₁.setTop (mkF m 51 #[.val (.int ((p0.toUInt32 >>> ((16 : Int32) &&& 31).toUInt32).toInt32)), .val (.int ((31 : Int32) + (-16 : Int32)))] [(.int (16 : Int32)), (.int ((p0.toUInt32 >>> ((16 : Int32) &&& 31).toUInt32).toInt32))])) t → Steps p.tables e below (s₁.setTop (mkF m 0 #[.val (.int p0), .unset] [])) t := by
          intro t kt
          refine K27 _ ?_
          show Steps p.tables e below (s₁.setTop (mkF m 37 #[.val (.int ((p0.toUInt32 >>> ((16 : Int32) &&& 31).toUInt32).toInt32)), .val (.int ((31 : Int32) + (-16 : Int32)))] [(.int (256 : Int32)), (.int ((p0.toUInt32 >>> ((16 : Int32) &&& 31).toUInt32).toInt32))])) _
          refine XS.icmpYes X0.here hx rfl (pc0 := 37) (pc' := 48) rfl (hb hby d4_37) rfl (tlt hc28).1 (by decide) (by decide) ?_
          show Steps p.tables e below (s₁.setTop (mkF m 48 #[.val (.int ((p0.toUInt32 >>> ((16 : Int32) &&& 31).toUInt32).toInt32)), .val (.int ((31 : Int32) + (-16 : Int32)))] [])) _
          refine XS.iloadN X0.here hx rfl (hb hby d4_48) rfl ?_
          show Steps p.tables e below (s₁.setTop (mkF m 49 #[.val (.int ((p0.toUInt32 >>> ((16 : Int32) &&& 31).toUInt32).toInt32)), .val (.int ((31 : Int32) + (-16 : Int32)))] [(.int ((p0.toUInt32 >>> ((16 : Int32) &&& 31).toUInt32).toInt32))])) _
          refine XS.bipush X0.here hx rfl (hb hby d4_49) ?_
          exact kt
        by_cases hc30 : ((p0.toUInt32 >>> ((16 : Int32) &&& 31).toUInt32).toInt32) < (16 : Int32)
        · skip
          have K31 : ∀ t, Steps p.tables e below (s₁.setTop (mkF m 63 #[.val (.int ((p0.toUInt32 >>> ((16 : Int32) &&& 31).toUInt32).toInt32)), .val (.int ((31 : Int32) + (-16 : Int32)))] [(.int (4 : Int32)), (.int ((p0.toUInt32 >>> ((16 : Int32) &&& 31).toUInt32).toInt32))])) t → Steps p.tables e below (s₁.setTop (mkF m 0 #[.val (.int p0), .unset] [])) t := by
            intro t kt
            refine K29 _ ?_
            show Steps p.tables e below (s₁.setTop (mkF m 51 #[.val (.int ((p0.toUInt32 >>> ((16 : Int32) &&& 31).toUInt32).toInt32)), .val (.int ((31 : Int32) + (-16 : Int32)))] [(.int (16 : Int32)), (.int ((p0.toUInt32 >>> ((16 : Int32) &&& 31).toUInt32).toInt32))])) _
            refine XS.icmpYes X0.here hx rfl (pc0 := 51) (pc' := 61) rfl (hb hby d4_51) rfl (tlt hc30).1 (by decide) (by decide) ?_
            show Steps p.tables e below (s₁.setTop (mkF m 61 #[.val (.int ((p0.toUInt32 >>> ((16 : Int32) &&& 31).toUInt32).toInt32)), .val (.int ((31 : Int32) + (-16 : Int32)))] [])) _
            refine XS.iloadN X0.here hx rfl (hb hby d4_61) rfl ?_
            show Steps p.tables e below (s₁.setTop (mkF m 62 #[.val (.int ((p0.toUInt32 >>> ((16 : Int32) &&& 31).toUInt32).toInt32)), .val (.int ((31 : Int32) + (-16 : Int32)))] [(.int ((p0.toUInt32 >>> ((16 : Int32) &&& 31).toUInt32).toInt32))])) _
            refine XS.iconst X0.here hx rfl (hb hby d4_62) ?_
            exact kt
          by_cases hc32 : ((p0.toUInt32 >>> ((16 : Int32) &&& 31).toUInt32).toInt32) < (4 : Int32)
          · skip
            have K33 : ∀ t, Steps p.tables e below (s₁.setTop (mkF m 78 #[.val (.int ((p0.toUInt32 >>> ((16 : Int32) &&& 31).toUInt32).toInt32)), .val (.int ((31 : Int32) + (-16 : Int32)))] [(.int (((31 : Int32) + (-16 : Int32)) - ((((p0.toUInt32 >>> ((16 : Int32) &&& 31).toUInt32).toInt32).toUInt32 >>> ((1 : Int32) &&& 31).toUInt32).toInt32)))])) t → Steps p.tables e below (s₁.setTop (mkF m 0 #[.val (.int p0), .unset] [])) t := by
              intro t kt
              refine K31 _ ?_
              show Steps p.tables e below (s₁.setTop (mkF m 63 #[.val (.int ((p0.toUInt32 >>> ((16 : Int32) &&& 31).toUInt32).toInt32)), .val (.int ((31 : Int32) + (-16 : Int32)))] [(.int (4 : Int32)), (.int ((p0.toUInt32 >>> ((16 : Int32) &&& 31).toUInt32).toInt32))])) _
              refine XS.icmpYes X0.here hx rfl (pc0 := 63) (pc' := 73) rfl (hb hby d4_63) rfl (tlt hc32).1 (by decide) (by decide) ?_
              show Steps p.tables e below (s₁.setTop (mkF m 73 #[.val (.int ((p0.toUInt32 >>> ((16 : Int32) &&& 31).toUInt32).toInt32)), .val (.int ((31 : Int32) + (-16 : Int32)))] [])) _
              refine XS.iloadN X0.here hx rfl (hb hby d4_73) rfl ?_
              show Steps p.tables e below (s₁.setTop (mkF m 74 #[.val (.int ((p0.toUInt32 >>> ((16 : Int32) &&& 31).toUInt32).toInt32)), .val (.int ((31 : Int32) + (-16 : Int32)))] [(.int ((31 : Int32) + (-16 : Int32)))])) _
              refine XS.iloadN X0.here hx rfl (hb hby d4_74) rfl ?_
              show Steps p.tables e below (s₁.setTop (mkF m 75 #[.val (.int ((p0.toUInt32 >>> ((16 : Int32) &&& 31).toUInt32).toInt32)), .val (.int ((31 : Int32) + (-16 : Int32)))] [(.int ((p0.toUInt32 >>> ((16 : Int32) &&& 31).toUInt32).toInt32)), (.int ((31 : Int32) + (-16 : Int32)))])) _
              refine XS.iconst X0.here hx rfl (hb hby d4_75) ?_
              show Steps p.tables e below (s₁.setTop (mkF m 76 #[.val (.int ((p0.toUInt32 >>> ((16 : Int32) &&& 31).toUInt32).toInt32)), .val (.int ((31 : Int32) + (-16 : Int32)))] [(.int (1 : Int32)), (.int ((p0.toUInt32 >>> ((16 : Int32) &&& 31).toUInt32).toInt32)), (.int ((31 : Int32) + (-16 : Int32)))])) _
              refine XS.iushr X0.here hx rfl (hb hby d4_76) rfl ?_
              show Steps p.tables e below (s₁.setTop (mkF m 77 #[.val (.int ((p0.toUInt32 >>> ((16 : Int32) &&& 31).toUInt32).toInt32)), .val (.int ((31 : Int32) + (-16 : Int32)))] [(.int ((((p0.toUInt32 >>> ((16 : Int32) &&& 31).toUInt32).toInt32).toUInt32 >>> ((1 : Int32) &&& 31).toUInt32).toInt32)), (.int ((31 : Int32) + (-16 : Int32)))])) _
              refine XS.isub X0.here hx rfl (hb hby d4_77) rfl ?_
              exact kt
            have hv : f4 p0 = (((31 : Int32) + (-16 : Int32)) - ((((p0.toUInt32 >>> ((16 : Int32) &&& 31).toUInt32).toInt32).toUInt32 >>> ((1 : Int32) &&& 31).toUInt32).toInt32)) := by simp only [f4, if_pos hc2, if_neg hc4, if_pos hc28, if_pos hc30, if_pos hc32]
            obtain ⟨fs, hr, hrun, hended, hW, hsame⟩ := X0.leave (v := some (.int (((31 : Int32) + (-16 : Int32)) - ((((p0.toUInt32 >>> ((16 : Int32) &&& 31).toUInt32).toInt32).toUInt32 >>> ((1 : Int32) &&& 31).toUInt32).toInt32)))) (fun h => by rw [Bd.returns] at h; cases h)
            refine ⟨_, _, pre0 _ (K33 _ ?_), hrun, hended, _, _, rfl, ?_, ⟨_, rfl⟩, hW, hsame.mono (by decide) (by decide)⟩
            · show Steps p.tables e below (s₁.setTop (mkF m 78 #[.val (.int ((p0.toUInt32 >>> ((16 : Int32) &&& 31).toUInt32).toInt32)), .val (.int ((31 : Int32) + (-16 : Int32)))] [(.int (((31 : Int32) + (-16 : Int32)) - ((((p0.toUInt32 >>> ((16 : Int32) &&& 31).toUInt32).toInt32).toUInt32 >>> ((1 : Int32) &&& 31).toUInt32).toInt32)))])) _
              exact retOut X0 hx Bd.returns rfl (Or.inl ⟨rfl, Or.inl rfl, _, rfl⟩) (hb hby d4_78) hr
            · show Q4 Z p0  h0 _ s₁.heap _
              rw [e0]
              exact ⟨by rw [hv], rfl, rfl⟩
          · skip
            have K34 : ∀ t, Steps p.tables e below (s₁.setTop (mkF m 78 #[.val (.int ((((p0.toUInt32 >>> ((16 : Int32) &&& 31).toUInt32).toInt32).toUInt32 >>> ((2 : Int32) &&& 31).toUInt32).toInt32)), .val (.int (((31 : Int32) + (-16 : Int32)) + (-2 : Int32)))] [(.int ((((31 : Int32) + (-16 : Int32)) + (-2 : Int32)) - ((((((p0.toUInt32 >>> ((16 : Int32) &&& 31).toUInt32).toInt32).toUInt32 >>> ((2 : Int32) &&& 31).toUInt32).toInt32).toUInt32 >>> ((1 : Int32) &&& 31).toUInt32).toInt32)))])) t → Steps p.tables e below (s₁.setTop (mkF m 0 #[.val (.int p0), .unset] [])) t := by
              intro t kt
              refine K31 _ ?_
              show Steps p.tables e below (s₁.setTop (mkF m 63 #[.val (.int ((p0.toUInt32 >>> ((16 : Int32) &&& 31).toUInt32).toInt32)), .val (.int ((31 : Int32) + (-16 : Int32)))] [(.int (4 : Int32)), (.int ((p0.toUInt32 >>> ((16 : Int32) &&& 31).toUInt32).toInt32))])) _
              refine XS.icmpNo X0.here hx rfl (hb hby d4_63) rfl (flt hc32).1 ?_
              show Steps p.tables e below (s₁.setTop (mkF m 66 #[.val (.int ((p0.toUInt32 >>> ((16 : Int32) &&& 31).toUInt32).toInt32)), .val (.int ((31 : Int32) + (-16 : Int32)))] [])) _
              refine XS.iinc X0.here hx rfl (hb hby d4_66) rfl (l' := #[.val (.int ((p0.toUInt32 >>> ((16 : Int32) &&& 31).toUInt32).toInt32)), .val (.int (((31 : Int32) + (-16 : Int32)) + (-2 : Int32)))]) rfl ?_
              show Steps p.tables e below (s₁.setTop (mkF m 69 #[.val (.int ((p0.toUInt32 >>> ((16 : Int32) &&& 31).toUInt32).toInt32)), .val (.int (((31 : Int32) + (-16 : Int32)) + (-2 : Int32)))] [])) _
              refine XS.iloadN X0.here hx rfl (hb hby d4_69) rfl ?_
              show Steps p.tables e below (s₁.setTop (mkF m 70 #[.val (.int ((p0.toUInt32 >>> ((16 : Int32) &&& 31).toUInt32).toInt32)), .val (.int (((31 : Int32) + (-16 : Int32)) + (-2 : Int32)))] [(.int ((p0.toUInt32 >>> ((16 : Int32) &&& 31).toUInt32).toInt32))])) _
              refine XS.iconst X0.here hx rfl (hb hby d4_70) ?_
              show Steps p.tables e below (s₁.setTop (mkF m 71 #[.val (.int ((p0.toUInt32 >>> ((16 : Int32) &&& 31).toUInt32).toInt32)), .val (.int (((31 : Int32) + (-16 : Int32)) + (-2 : Int32)))] [(.int (2 : Int32)), (.int ((p0.toUInt32 >>> ((16 : Int32) &&& 31).toUInt32).toInt32))])) _
              refine XS.iushr X0.here hx rfl (hb hby d4_71) rfl ?_
              show Steps p.tables e below (s₁.setTop (mkF m 72 #[.val (.int ((p0.toUInt32 >>> ((16 : Int32) &&& 31).toUInt32).toInt32)), .val (.int (((31 : Int32) + (-16 : Int32)) + (-2 : Int32)))] [(.int ((((p0.toUInt32 >>> ((16 : Int32) &&& 31).toUInt32).toInt32).toUInt32 >>> ((2 : Int32) &&& 31).toUInt32).toInt32))])) _
              refine XS.istoreN X0.here hx rfl (hb hby d4_72) rfl (l' := #[.val (.int ((((p0.toUInt32 >>> ((16 : Int32) &&& 31).toUInt32).toInt32).toUInt32 >>> ((2 : Int32) &&& 31).toUInt32).toInt32)), .val (.int (((31 : Int32) + (-16 : Int32)) + (-2 : Int32)))]) rfl ?_
              show Steps p.tables e below (s₁.setTop (mkF m 73 #[.val (.int ((((p0.toUInt32 >>> ((16 : Int32) &&& 31).toUInt32).toInt32).toUInt32 >>> ((2 : Int32) &&& 31).toUInt32).toInt32)), .val (.int (((31 : Int32) + (-16 : Int32)) + (-2 : Int32)))] [])) _
              refine XS.iloadN X0.here hx rfl (hb hby d4_73) rfl ?_
              show Steps p.tables e below (s₁.setTop (mkF m 74 #[.val (.int ((((p0.toUInt32 >>> ((16 : Int32) &&& 31).toUInt32).toInt32).toUInt32 >>> ((2 : Int32) &&& 31).toUInt32).toInt32)), .val (.int (((31 : Int32) + (-16 : Int32)) + (-2 : Int32)))] [(.int (((31 : Int32) + (-16 : Int32)) + (-2 : Int32)))])) _
              refine XS.iloadN X0.here hx rfl (hb hby d4_74) rfl ?_
              show Steps p.tables e below (s₁.setTop (mkF m 75 #[.val (.int ((((p0.toUInt32 >>> ((16 : Int32) &&& 31).toUInt32).toInt32).toUInt32 >>> ((2 : Int32) &&& 31).toUInt32).toInt32)), .val (.int (((31 : Int32) + (-16 : Int32)) + (-2 : Int32)))] [(.int ((((p0.toUInt32 >>> ((16 : Int32) &&& 31).toUInt32).toInt32).toUInt32 >>> ((2 : Int32) &&& 31).toUInt32).toInt32)), (.int (((31 : Int32) + (-16 : Int32)) + (-2 : Int32)))])) _
              refine XS.iconst X0.here hx rfl (hb hby d4_75) ?_
              show Steps p.tables e below (s₁.setTop (mkF m 76 #[.val (.int ((((p0.toUInt32 >>> ((16 : Int32) &&& 31).toUInt32).toInt32).toUInt32 >>> ((2 : Int32) &&& 31).toUInt32).toInt32)), .val (.int (((31 : Int32) + (-16 : Int32)) + (-2 : Int32)))] [(.int (1 : Int32)), (.int ((((p0.toUInt32 >>> ((16 : Int32) &&& 31).toUInt32).toInt32).toUInt32 >>> ((2 : Int32) &&& 31).toUInt32).toInt32)), (.int (((31 : Int32) + (-16 : Int32)) + (-2 : Int32)))])) _
              refine XS.iushr X0.here hx rfl (hb hby d4_76) rfl ?_
              show Steps p.tables e below (s₁.setTop (mkF m 77 #[.val (.int ((((p0.toUInt32 >>> ((16 : Int32) &&& 31).toUInt32).toInt32).toUInt32 >>> ((2 : Int32) &&& 31).toUInt32).toInt32)), .val (.int (((31 : Int32) + (-16 : Int32)) + (-2 : Int32)))] [(.int ((((((p0.toUInt32 >>> ((16 : Int32) &&& 31).toUInt32).toInt32).toUInt32 >>> ((2 : Int32) &&& 31).toUInt32).toInt32).toUInt32 >>> ((1 : Int32) &&& 31).toUInt32).toInt32)), (.int (((31 : Int32) + (-16 : Int32)) + (-2 : Int32)))])) _
              refine XS.isub X0.here hx rfl (hb hby d4_77) rfl ?_
              exact kt
            have hv : f4 p0 = ((((31 : Int32) + (-16 : Int32)) + (-2 : Int32)) - ((((((p0.toUInt32 >>> ((16 : Int32) &&& 31).toUInt32).toInt32).toUInt32 >>> ((2 : Int32) &&& 31).toUInt32).toInt32).toUInt32 >>> ((1 : Int32) &&& 31).toUInt32).toInt32)) := by simp only [f4, if_pos hc2, if_neg hc4, if_pos hc28, if_pos hc30, if_neg hc32]
            obtain ⟨fs, hr, hrun, hended, hW, hsame⟩ := X0.leave (v := some (.int ((((31 : Int32) + (-16 : Int32)) + (-2 : Int32)) - ((((((p0.toUInt32 >>> ((16 : Int32) &&& 31).toUInt32).toInt32).toUInt32 >>> ((2 : Int32) &&& 31).toUInt32).toInt32).toUInt32 >>> ((1 : Int32) &&& 31).toUInt32).toInt32)))) (fun h => by rw [Bd.returns] at h; cases h)
            refine ⟨_, _, pre0 _ (K34 _ ?_), hrun, hended, _, _, rfl, ?_, ⟨_, rfl⟩, hW, hsame.mono (by decide) (by decide)⟩
            · show Steps p.tables e below (s₁.setTop (mkF m 78 #[.val (.int ((((p0.toUInt32 >>> ((16 : Int32) &&& 31).toUInt32).toInt32).toUInt32 >>> ((2 : Int32) &&& 31).toUInt32).toInt32)), .val (.int (((31 : Int32) + (-16 : Int32)) + (-2 : Int32)))] [(.int ((((31 : Int32) + (-16 : Int32)) + (-2 : Int32)) - ((((((p0.toUInt32 >>> ((16 : Int32) &&& 31).toUInt32).toInt32).toUInt32 >>> ((2 : Int32) &&& 31).toUInt32).toInt32).toUInt32 >>> ((1 : Int32) &&& 31).toUInt32).toInt32)))])) _
              exact retOut X0 hx Bd.returns rfl (Or.inl ⟨rfl, Or.inl rfl, _, rfl⟩) (hb hby d4_78) hr
            · show Q4 Z p0  h0 _ s₁.heap _
              rw [e0]
              exact ⟨by rw [hv], rfl, rfl⟩
        · skip
          have K35 : ∀ t, Steps p.tables e below (s₁.setTop (mkF m 63 #[.val (.int ((((p0.toUInt32 >>> ((16 : Int32) &&& 31).toUInt32).toInt32).toUInt32 >>> ((4 : Int32) &&& 31).toUInt32).toInt32)), .val (.int (((31 : Int32) + (-16 : Int32)) + (-4 : Int32)))] [(.int (4 : Int32)), (.int ((((p0.toUInt32 >>> ((16 : Int32) &&& 31).toUInt32).toInt32).toUInt32 >>> ((4 : Int32) &&& 31).toUInt32).toInt32))])) t → Steps p.tables e below (s₁.setTop (mkF m 0 #[.val (.int p0), .unset] [])) t := by
            intro t kt
            refine K29 _ ?_
            show Steps p.tables e below (s₁.setTop (mkF m 51 #[.val (.int ((p0.toUInt32 >>> ((16 : Int32) &&& 31).toUInt32).toInt32)), .val (.int ((31 : Int32) + (-16 : Int32)))] [(.int (16 : Int32)), (.int ((p0.toUInt32 >>> ((16 : Int32) &&& 31).toUInt32).toInt32))])) _
            refine XS.icmpNo X0.here hx rfl (hb hby d4_51) rfl (flt hc30).1 ?_
            show Steps p.tables e below (s₁.setTop (mkF m 54 #[.val (.int ((p0.toUInt32 >>> ((16 : Int32) &&& 31).toUInt32).toInt32)), .val (.int ((31 : Int32) + (-16 : Int32)))] [])) _
            refine XS.iinc X0.here hx rfl (hb hby d4_54) rfl (l' := #[.val (.int ((p0.toUInt32 >>> ((16 : Int32) &&& 31).toUInt32).toInt32)), .val (.int (((31 : Int32) + (-16 : Int32)) + (-4 : Int32)))]) rfl ?_
            show Steps p.tables e below (s₁.setTop (mkF m 57 #[.val (.int ((p0.toUInt32 >>> ((16 : Int32) &&& 31).toUInt32).toInt32)), .val (.int (((31 : Int32) + (-16 : Int32)) + (-4 : Int32)))] [])) _
            refine XS.iloadN X0.here hx rfl (hb hby d4_57) rfl ?_
            show Steps p.tables e below (s₁.setTop (mkF m 58 #[.val (.int ((p0.toUInt32 >>> ((16 : Int32) &&& 31).toUInt32).toInt32)), .val (.int (((31 : Int32) + (-16 : Int32)) + (-4 : Int32)))] [(.int ((p0.toUInt32 >>> ((16 : Int32) &&& 31).toUInt32).toInt32))])) _
            refine XS.iconst X0.here hx rfl (hb hby d4_58) ?_
            show Steps p.tables e below (s₁.setTop (mkF m 59 #[.val (.int ((p0.toUInt32 >>> ((16 : Int32) &&& 31).toUInt32).toInt32)), .val (.int (((31 : Int32) + (-16 : Int32)) + (-4 : Int32)))] [(.int (4 : Int32)), (.int ((p0.toUInt32 >>> ((16 : Int32) &&& 31).toUInt32).toInt32))])) _
            refine XS.iushr X0.here hx rfl (hb hby d4_59) rfl ?_
            show Steps p.tables e below (s₁.setTop (mkF m 60 #[.val (.int ((p0.toUInt32 >>> ((16 : Int32) &&& 31).toUInt32).toInt32)), .val (.int (((31 : Int32) + (-16 : Int32)) + (-4 : Int32)))] [(.int ((((p0.toUInt32 >>> ((16 : Int32) &&& 31).toUInt32).toInt32).toUInt32 >>> ((4 : Int32) &&& 31).toUInt32).toInt32))])) _
            refine XS.istoreN X0.here hx rfl (hb hby d4_60) rfl (l' := #[.val (.int ((((p0.toUInt32 >>> ((16 : Int32) &&& 31).toUInt32).toInt32).toUInt32 >>> ((4 : Int32) &&& 31).toUInt32).toInt32)), .val (.int (((31 : Int32) + (-16 : Int32)) + (-4 : Int32)))]) rfl ?_
            show Steps p.tables e below (s₁.setTop (mkF m 61 #[.val (.int ((((p0.toUInt32 >>> ((16 : Int32) &&& 31).toUInt32).toInt32).toUInt32 >>> ((4 : Int32) &&& 31).toUInt32).toInt32)), .val (.int (((31 : Int32) + (-16 : Int32)) + (-4 : Int32)))] [])) _
            refine XS.iloadN X0.here hx rfl (hb hby d4_61) rfl ?_
            show Steps p.tables e below (s₁.setTop (mkF m 62 #[.val (.int ((((p0.toUInt32 >>> ((16 : Int32) &&& 31).toUInt32).toInt32).toUInt32 >>> ((4 : Int32) &&& 31).toUInt32).toInt32)), .val (.int (((31 : Int32) + (-16 : Int32)) + (-4 : Int32)))] [(.int ((((p0.toUInt32 >>> ((16 : Int32) &&& 31).toUInt32).toInt32).toUInt32 >>> ((4 : Int32) &&& 31).toUInt32).toInt32))])) _
            refine XS.iconst X0.here hx rfl (hb hby d4_62) ?_
            exact kt
          by_cases hc36 : ((((p0.toUInt32 >>> ((16 : Int32) &&& 31).toUInt32).toInt32).toUInt32 >>> ((4 : Int32) &&& 31).toUInt32).toInt32) < (4 : Int32)
          · skip
            have K37 : ∀ t, Steps p.tables e below (s₁.setTop (mkF m 78 #[.val (.int ((((p0.toUInt32 >>> ((16 : Int32) &&& 31).toUInt32).toInt32).toUInt32 >>> ((4 : Int32) &&& 31).toUInt32).toInt32)), .val (.int (((31 : Int32) + (-16 : Int32)) + (-4 : Int32)))] [(.int ((((31 : Int32) + (-16 : Int32)) + (-4 : Int32)) - ((((((p0.toUInt32 >>> ((16 : Int32) &&& 31).toUInt32).toInt32).toUInt32 >>> ((4 : Int32) &&& 31).toUInt32).toInt32).toUInt32 >>> ((1 : Int32) &&& 31).toUInt32).toInt32)))])) t → Steps p.tables e below (s₁.setTop (mkF m 0 #[.val (.int p0), .unset] [])) t := by
              intro t kt
              refine K35 _ ?_
              show Steps p.tables e below (s₁.setTop (mkF m 63 #[.val (.int ((((p0.toUInt32 >>> ((16 : Int32) &&& 31).toUInt32).toInt32).toUInt32 >>> ((4 : Int32) &&& 31).toUInt32).toInt32)), .val (.int (((31 : Int32) + (-16 : Int32)) + (-4 : Int32)))] [(.int (4 : Int32)), (.int ((((p0.toUInt32 >>> ((16 : Int32) &&& 31).toUInt32).toInt32).toUInt32 >>> ((4 : Int32) &&& 31).toUInt32).toInt32))])) _
              refine XS.icmpYes X0.here hx rfl (pc0 := 63) (pc' := 73) rfl (hb hby d4_63) rfl (tlt hc36).1 (by decide) (by decide) ?_
              show Steps p.tables e below (s₁.setTop (mkF m 73 #[.val (.int ((((p0.toUInt32 >>> ((16 : Int32) &&& 31).toUInt32).toInt32).toUInt32 >>> ((4 : Int32) &&& 31).toUInt32).toInt32)), .val (.int (((31 : Int32) + (-16 : Int32)) + (-4 : Int32)))] [])) _
              refine XS.iloadN X0.here hx rfl (hb hby d4_73) rfl ?_
              show Steps p.tables e below (s₁.setTop (mkF m 74 #[.val (.int ((((p0.toUInt32 >>> ((16 : Int32) &&& 31).toUInt32).toInt32).toUInt32 >>> ((4 : Int32) &&& 31).toUInt32).toInt32)), .val (.int (((31 : Int32) + (-16 : Int32)) + (-4 : Int32)))] [(.int (((31 : Int32) + (-16 : Int32)) + (-4 : Int32)))])) _
              refine XS.iloadN X0.here hx rfl (hb hby d4_74) rfl ?_
              show Steps p.tables e below (s₁.setTop (mkF m 75 #[.val (.int ((((p0.toUInt32 >>> ((16 : Int32) &&& 31).toUInt32).toInt32).toUInt32 >>> ((4 : Int32) &&& 31).toUInt32).toInt32)), .val (.int (((31 : Int32) + (-16 : Int32)) + (-4 : Int32)))] [(.int ((((p0.toUInt32 >>> ((16 : Int32) &&& 31).toUInt32).toInt32).toUInt32 >>> ((4 : Int32) &&& 31).toUInt32).toInt32)), (.int (((31 : Int32) + (-16 : Int32)) + (-4 : Int32)))])) _
              refine XS.iconst X0.here hx rfl (hb hby d4_75) ?_
              show Steps p.tables e below (s₁.setTop (mkF m 76 #[.val (.int ((((p0.toUInt32 >>> ((16 : Int32) &&& 31).toUInt32).toInt32).toUInt32 >>> ((4 : Int32) &&& 31).toUInt32).toInt32)), .val (.int (((31 : Int32) + (-16 : Int32)) + (-4 : Int32)))] [(.int (1 : Int32)), (.int ((((p0.toUInt32 >>> ((16 : Int32) &&& 31).toUInt32).toInt32).toUInt32 >>> ((4 : Int32) &&& 31).toUInt32).toInt32)), (.int (((31 : Int32) + (-16 : Int32)) + (-4 : Int32)))])) _
              refine XS.iushr X0.here hx rfl (hb hby d4_76) rfl ?_
              show Steps p.tables e below (s₁.setTop (mkF m 77 #[.val (.int ((((p0.toUInt32 >>> ((16 : Int32) &&& 31).toUInt32).toInt32).toUInt32 >>> ((4 : Int32) &&& 31).toUInt32).toInt32)), .val (.int (((31 : Int32) + (-16 : Int32)) + (-4 : Int32)))] [(.int ((((((p0.toUInt32 >>> ((16 : Int32) &&& 31).toUInt32).toInt32).toUInt32 >>> ((4 : Int32) &&& 31).toUInt32).toInt32).toUInt32 >>> ((1 : Int32) &&& 31).toUInt32).toInt32)), (.int (((31 : Int32) + (-16 : Int32)) + (-4 : Int32)))])) _
              refine XS.isub X0.here hx rfl (hb hby d4_77) rfl ?_
              exact kt
            have hv : f4 p0 = ((((31 : Int32) + (-16 : Int32)) + (-4 : Int32)) - ((((((p0.toUInt32 >>> ((16 : Int32) &&& 31).toUInt32).toInt32).toUInt32 >>> ((4 : Int32) &&& 31).toUInt32).toInt32).toUInt32 >>> ((1 : Int32) &&& 31).toUInt32).toInt32)) := by simp only [f4, if_pos hc2, if_neg hc4, if_pos hc28, if_neg hc30, if_pos hc36]
            obtain ⟨fs, hr, hrun, hended, hW, hsame⟩ := X0.leave (v := some (.int ((((31 : Int32) + (-16 : Int32)) + (-4 : Int32)) - ((((((p0.toUInt32 >>> ((16 : Int32) &&& 31).toUInt32).toInt32).toUInt32 >>> ((4 : Int32) &&& 31).toUInt32).toInt32).toUInt32 >>> ((1 : Int32) &&& 31).toUInt32).toInt32)))) (fun h => by rw [Bd.returns] at h; cases h)
            refine ⟨_, _, pre0 _ (K37 _ ?_), hrun, hended, _, _, rfl, ?_, ⟨_, rfl⟩, hW, hsame.mono (by decide) (by decide)⟩
            · show Steps p.tables e below (s₁.setTop (mkF m 78 #[.val (.int ((((p0.toUInt32 >>> ((16 : Int32) &&& 31).toUInt32).toInt32).toUInt32 >>> ((4 : Int32) &&& 31).toUInt32).toInt32)), .val (.int (((31 : Int32) + (-16 : Int32)) + (-4 : Int32)))] [(.int ((((31 : Int32) + (-16 : Int32)) + (-4 : Int32)) - ((((((p0.toUInt32 >>> ((16 : Int32) &&& 31).toUInt32).toInt32).toUInt32 >>> ((4 : Int32) &&& 31).toUInt32).toInt32).toUInt32 >>> ((1 : Int32) &&& 31).toUInt32).toInt32)))])) _
              exact retOut X0 hx Bd.returns rfl (Or.inl ⟨rfl, Or.inl rfl, _, rfl⟩) (hb hby d4_78) hr
            · show Q4 Z p0  h0 _ s₁.heap _
              rw [e0]
              exact ⟨by rw [hv], rfl, rfl⟩
          · skip
            have K38 : ∀ t, Steps p.tables e below (s₁.setTop (mkF m 78 #[.val (.int ((((((p0.toUInt32 >>> ((16 : Int32) &&& 31).toUInt32).toInt32).toUInt32 >>> ((4 : Int32) &&& 31).toUInt32).toInt32).toUInt32 >>> ((2 : Int32) &&& 31).toUInt32).toInt32)), .val (.int ((((31 : Int32) + (-16 : Int32)) + (-4 : Int32)) + (-2 : Int32)))] [(.int (((((31 : Int32) + (-16 : Int32)) + (-4 : Int32)) + (-2 : Int32)) - ((((((((p0.toUInt32 >>> ((16 : Int32) &&& 31).toUInt32).toInt32).toUInt32 >>> ((4 : Int32) &&& 31).toUInt32).toInt32).toUInt32 >>> ((2 : Int32) &&& 31).toUInt32).toInt32).toUInt32 >>> ((1 : Int32) &&& 31).toUInt32).toInt32)))])) t → Steps p.tables e below (s₁.setTop (mkF m 0 #[.val (.int p0), .unset] [])) t := by
              intro t kt
              refine K35 _ ?_
              show Steps p.tables e below (s₁.setTop (mkF m 63 #[.val (.int ((((p0.toUInt32 >>> ((16 : Int32) &&& 31).toUInt32).toInt32).toUInt32 >>> ((4 : Int32) &&& 31).toUInt32).toInt32)), .val (.int (((31 : Int32) + (-16 : Int32)) + (-4 : Int32)))] [(.int (4 : Int32)), (.int ((((p0.toUInt32 >>> ((16 : Int32) &&& 31).toUInt32).toInt32).toUInt32 >>> ((4 : Int32) &&& 31).toUInt32).toInt32))])) _
              refine XS.icmpNo X0.here hx rfl (hb hby d4_63) rfl (flt hc36).1 ?_
              show Steps p.tables e below (s₁.setTop (mkF m 66 #[.val (.int ((((p0.toUInt32 >>> ((16 : Int32) &&& 31).toUInt32).toInt32).toUInt32 >>> ((4 : Int32) &&& 31).toUInt32).toInt32)), .val (.int (((31 : Int32) + (-16 : Int32)) + (-4 : Int32)))] [])) _
              refine XS.iinc X0.here hx rfl (hb hby d4_66) rfl (l' := #[.val (.int ((((p0.toUInt32 >>> ((16 : Int32) &&& 31).toUInt32).toInt32).toUInt32 >>> ((4 : Int32) &&& 31).toUInt32).toInt32)), .val (.int ((((31 : Int32) + (-16 : Int32)) + (-4 : Int32)) + (-2 : Int32)))]) rfl ?_
              show Steps p.tables e below (s₁.setTop (mkF m 69 #[.val (.int ((((p0.toUInt32 >>> ((16 : Int32) &&& 31).toUInt32).toInt32).toUInt32 >>> ((4 : Int32) &&& 31).toUInt32).toInt32)), .val (.int ((((31 : Int32) + (-16 : Int32)) + (-4 : Int32)) + (-2 : Int32)))] [])) _
              refine XS.iloadN X0.here hx rfl (hb hby d4_69) rfl ?_
              show Steps p.tables e below (s₁.setTop (mkF m 70 #[.val (.int ((((p0.toUInt32 >>> ((16 : Int32) &&& 31).toUInt32).toInt32).toUInt32 >>> ((4 : Int32) &&& 31).toUInt32).toInt32)), .val (.int ((((31 : Int32) + (-16 : Int32)) + (-4 : Int32)) + (-2 : Int32)))] [(.int ((((p0.toUInt32 >>> ((16 : Int32) &&& 31).toUInt32).toInt32).toUInt32 >>> ((4 : Int32) &&& 31).toUInt32).toInt32))])) _
              refine XS.iconst X0.here hx rfl (hb hby d4_70) ?_
              show Steps p.tables e below (s₁.setTop (mkF m 71 #[.val (.int ((((p0.toUInt32 >>> ((16 : Int32) &&& 31).toUInt32).toInt32).toUInt32 >>> ((4 : Int32) &&& 31).toUInt32).toInt32)), .val (.int ((((31 : Int32) + (-16 : Int32)) + (-4 : Int32)) + (-2 : Int32)))] [(.int (2 : Int32)), (.int ((((p0.toUInt32 >>> ((16 : Int32) &&& 31).toUInt32).toInt32).toUInt32 >>> ((4 : Int32) &&& 31).toUInt32).toInt32))])) _
              refine XS.iushr X0.here hx rfl (hb hby d4_71) rfl ?_
              show Steps p.tables e below (s₁.setTop (mkF m 72 #[.val (.int ((((p0.toUInt32 >>> ((16 : Int32) &&& 31).toUInt32).toInt32).toUInt32 >>> ((4 : Int32) &&& 31).toUInt32).toInt32)), .val (.int ((((31 : Int32) + (-16 : Int32)) + (-4 : Int32)) + (-2 : Int32)))] [(.int ((((((p0.toUInt32 >>> ((16 : Int32) &&& 31).toUInt32).toInt32).toUInt32 >>> ((4 : Int32) &&& 31).toUInt32).toInt32).toUInt32 >>> ((2 : Int32) &&& 31).toUInt32).toInt32))])) _
              refine XS.istoreN X0.here hx rfl (hb hby d4_72) rfl (l' := #[.val (.int ((((((p0.toUInt32 >>> ((16 : Int32) &&& 31).toUInt32).toInt32).toUInt32 >>> ((4 : Int32) &&& 31).toUInt32).toInt32).toUInt32 >>> ((2 : Int32) &&& 31).toUInt32).toInt32)), .val (.int ((((31 : Int32) + (-16 : Int32)) + (-4 : Int32)) + (-2 : Int32)))]) rfl ?_
              show Steps p.tables e below (s₁.setTop (mkF m 73 #[.val (.int ((((((p0.toUInt32 >>> ((16 : Int32) &&& 31).toUInt32).toInt32).toUInt32 >>> ((4 : Int32) &&& 31).toUInt32).toInt32).toUInt32 >>> ((2 : Int32) &&& 31).toUInt32).toInt32)), .val (.int ((((31 : Int32) + (-16 : Int32)) + (-4 : Int32)) + (-2 : Int32)))] [])) _
              refine XS.iloadN X0.here hx rfl (hb hby d4_73) rfl ?_
              show Steps p.tables e below (s₁.setTop (mkF m 74 #[.val (.int ((((((p0.toUInt32 >>> ((16 : Int32) &&& 31).toUInt32).toInt32).toUInt32 >>> ((4 : Int32) &&& 31).toUInt32).toInt32).toUInt32 >>> ((2 : Int32) &&& 31).toUInt32).toInt32)), .val (.int ((((31 : Int32) + (-16 : Int32)) + (-4 : Int32)) + (-2 : Int32)))] [(.int ((((31 : Int32) + (-16 : Int32)) + (-4 : Int32)) + (-2 : Int32)))])) _
              refine XS.iloadN X0.here hx rfl (hb hby d4_74) rfl ?_
              show Steps p.tables e below (s₁.setTop (mkF m 75 #[.val (.int ((((((p0.toUInt32 >>> ((16 : Int32) &&& 31).toUInt32).toInt32).toUInt32 >>> ((4 : Int32) &&& 31).toUInt32).toInt32).toUInt32 >>> ((2 : Int32) &&& 31).toUInt32).toInt32)), .val (.int ((((31 : Int32) + (-16 : Int32)) + (-4 : Int32)) + (-2 : Int32)))] [(.int ((((((p0.toUInt32 >>> ((16 : Int32) &&& 31).toUInt32).toInt32).toUInt32 >>> ((4 : Int32) &&& 31).toUInt32).toInt32).toUInt32 >>> ((2 : Int32) &&& 31).toUInt32).toInt32)), (.int ((((31 : Int32) + (-16 : Int32)) + (-4 : Int32)) + (-2 : Int32)))])) _
              refine XS.iconst X0.here hx rfl (hb hby d4_75) ?_
              show Steps p.tables e below (s₁.setTop (mkF m 76 #[.val (.int ((((((p0.toUInt32 >>> ((16 : Int32) &&& 31).toUInt32).toInt32).toUInt32 >>> ((4 : Int32) &&& 31).toUInt32).toInt32).toUInt32 >>> ((2 : Int32) &&& 31).toUInt32).toInt32)), .val (.int ((((31 : Int32) + (-16 : Int32)) + (-4 : Int32)) + (-2 : Int32)))] [(.int (1 : Int32)), (.int ((((((p0.toUInt32 >>> ((16 : Int32) &&& 31).toUInt32).toInt32).toUInt32 >>> ((4 : Int32) &&& 31).toUInt32).toInt32).toUInt32 >>> ((2 : Int32) &&& 31).toUInt32).toInt32)), (.int ((((31 : Int32) + (-16 : Int32)) + (-4 : Int32)) + (-2 : Int32)))])) _
              refine XS.iushr X0.here hx rfl (hb hby d4_76) rfl ?_
              show Steps p.tables e below (s₁.setTop (mkF m 77 #[.val (.int ((((((p0.toUInt32 >>> ((16 : Int32) &&& 31).toUInt32).toInt32).toUInt32 >>> ((4 : Int32) &&& 31).toUInt32).toInt32).toUInt32 >>> ((2 : Int32) &&& 31).toUInt32).toInt32)), .val (.int ((((31 : Int32) + (-16 : Int32)) + (-4 : Int32)) + (-2 : Int32)))] [(.int ((((((((p0.toUInt32 >>> ((16 : Int32) &&& 31).toUInt32).toInt32).toUInt32 >>> ((4 : Int32) &&& 31).toUInt32).toInt32).toUInt32 >>> ((2 : Int32) &&& 31).toUInt32).toInt32).toUInt32 >>> ((1 : Int32) &&& 31).toUInt32).toInt32)), (.int ((((31 : Int32) + (-16 : Int32)) + (-4 : Int32)) + (-2 : Int32)))])) _
              refine XS.isub X0.here hx rfl (hb hby d4_77) rfl ?_
              exact kt
            have hv : f4 p0 = (((((31 : Int32) + (-16 : Int32)) + (-4 : Int32)) + (-2 : Int32)) - ((((((((p0.toUInt32 >>> ((16 : Int32) &&& 31).toUInt32).toInt32).toUInt32 >>> ((4 : Int32) &&& 31).toUInt32).toInt32).toUInt32 >>> ((2 : Int32) &&& 31).toUInt32).toInt32).toUInt32 >>> ((1 : Int32) &&& 31).toUInt32).toInt32)) := by simp only [f4, if_pos hc2, if_neg hc4, if_pos hc28, if_neg hc30, if_neg hc36]
            obtain ⟨fs, hr, hrun, hended, hW, hsame⟩ := X0.leave (v := some (.int (((((31 : Int32) + (-16 : Int32)) + (-4 : Int32)) + (-2 : Int32)) - ((((((((p0.toUInt32 >>> ((16 : Int32) &&& 31).toUInt32).toInt32).toUInt32 >>> ((4 : Int32) &&& 31).toUInt32).toInt32).toUInt32 >>> ((2 : Int32) &&& 31).toUInt32).toInt32).toUInt32 >>> ((1 : Int32) &&& 31).toUInt32).toInt32)))) (fun h => by rw [Bd.returns] at h; cases h)
            refine ⟨_, _, pre0 _ (K38 _ ?_), hrun, hended, _, _, rfl, ?_, ⟨_, rfl⟩, hW, hsame.mono (by decide) (by decide)⟩
            · show Steps p.tables e below (s₁.setTop (mkF m 78 #[.val (.int ((((((p0.toUInt32 >>> ((16 : Int32) &&& 31).toUInt32).toInt32).toUInt32 >>> ((4 : Int32) &&& 31).toUInt32).toInt32).toUInt32 >>> ((2 : Int32) &&& 31).toUInt32).toInt32)), .val (.int ((((31 : Int32) + (-16 : Int32)) + (-4 : Int32)) + (-2 : Int32)))] [(.int (((((31 : Int32) + (-16 : Int32)) + (-4 : Int32)) + (-2 : Int32)) - ((((((((p0.toUInt32 >>> ((16 : Int32) &&& 31).toUInt32).toInt32).toUInt32 >>> ((4 : Int32) &&& 31).toUInt32).toInt32).toUInt32 >>> ((2 : Int32) &&& 31).toUInt32).toInt32).toUInt32 >>> ((1 : Int32) &&& 31).toUInt32).toInt32)))])) _
              exact retOut X0 hx Bd.returns rfl (Or.inl ⟨rfl, Or.inl rfl, _, rfl⟩) (hb hby d4_78) hr
            · show Q4 Z p0  h0 _ s₁.heap _
              rw [e0]
              exact ⟨by rw [hv], rfl, rfl⟩
      · skip
        have K39 : ∀ t, Steps p.tables e below (s₁.setTop (mkF m 51 #[.val (.int ((((p0.toUInt32 >>> ((16 : Int32) &&& 31).toUInt32).toInt32).toUInt32 >>> ((8 : Int32) &&& 31).toUInt32).toInt32)), .val (.int (((31 : Int32) + (-16 : Int32)) + (-8 : Int32)))] [(.int (16 : Int32)), (.int ((((p0.toUInt32 >>> ((16 : Int32) &&& 31).toUInt32).toInt32).toUInt32 >>> ((8 : Int32) &&& 31).toUInt32).toInt32))])) t → Steps p.tables e below (s₁.setTop (mkF m 0 #[.val (.int p0), .unset] [])) t := by
          intro t kt
          refine K27 _ ?_
          show Steps p.tables e below (s₁.setTop (mkF m 37 #[.val (.int ((p0.toUInt32 >>> ((16 : Int32) &&& 31).toUInt32).toInt32)), .val (.int ((31 : Int32) + (-16 : Int32)))] [(.int (256 : Int32)), (.int ((p0.toUInt32 >>> ((16 : Int32) &&& 31).toUInt32).toInt32))])) _
          refine XS.icmpNo X0.here hx rfl (hb hby d4_37) rfl (flt hc28).1 ?_
          show Steps p.tables e below (s₁.setTop (mkF m 40 #[.val (.int ((p0.toUInt32 >>> ((16 : Int32) &&& 31).toUInt32).toInt32)), .val (.int ((31 : Int32) + (-16 : Int32)))] [])) _
          refine XS.iinc X0.here hx rfl (hb hby d4_40) rfl (l' := #[.val (.int ((p0.toUInt32 >>> ((16 : Int32) &&& 31).toUInt32).toInt32)), .val (.int (((31 : Int32) + (-16 : Int32)) + (-8 : Int32)))]) rfl ?_
          show Steps p.tables e below (s₁.setTop (mkF m 43 #[.val (.int ((p0.toUInt32 >>> ((16 : Int32) &&& 31).toUInt32).toInt32)), .val (.int (((31 : Int32) + (-16 : Int32)) + (-8 : Int32)))] [])) _
          refine XS.iloadN X0.here hx rfl (hb hby d4_43) rfl ?_
          show Steps p.tables e below (s₁.setTop (mkF m 44 #[.val (.int ((p0.toUInt32 >>> ((16 : Int32) &&& 31).toUInt32).toInt32)), .val (.int (((31 : Int32) + (-16 : Int32)) + (-8 : Int32)))] [(.int ((p0.toUInt32 >>> ((16 : Int32) &&& 31).toUInt32).toInt32))])) _
          refine XS.bipush X0.here hx rfl (hb hby d4_44) ?_
          show Steps p.tables e below (s₁.setTop (mkF m 46 #[.val (.int ((p0.toUInt32 >>> ((16 : Int32) &&& 31).toUInt32).toInt32)), .val (.int (((31 : Int32) + (-16 : Int32)) + (-8 : Int32)))] [(.int (8 : Int32)), (.int ((p0.toUInt32 >>> ((16 : Int32) &&& 31).toUInt32).toInt32))])) _
          refine XS.iushr X0.here hx rfl (hb hby d4_46) rfl ?_
          show Steps p.tables e below (s₁.setTop (mkF m 47 #[.val (.int ((p0.toUInt32 >>> ((16 : Int32) &&& 31).toUInt32).toInt32)), .val (.int (((31 : Int32) + (-16 : Int32)) + (-8 : Int32)))] [(.int ((((p0.toUInt32 >>> ((16 : Int32) &&& 31).toUInt32).toInt32).toUInt32 >>> ((8 : Int32) &&& 31).toUInt32).toInt32))])) _
          refine XS.istoreN X0.here hx rfl (hb hby d4_47) rfl (l' := #[.val (.int ((((p0.toUInt32 >>> ((16 : Int32) &&& 31).toUInt32).toInt32).toUInt32 >>> ((8 : Int32) &&& 31).toUInt32).toInt32)), .val (.int (((31 : Int32) + (-16 : Int32)) + (-8 : Int32)))]) rfl ?_
          show Steps p.tables e below (s₁.setTop (mkF m 48 #[.val (.int ((((p0.toUInt32 >>> ((16 : Int32) &&& 31).toUInt32).toInt32).toUInt32 >>> ((8 : Int32) &&& 31).toUInt32).toInt32)), .val (.int (((31 : Int32) + (-16 : Int32)) + (-8 : Int32)))] [])) _
          refine XS.iloadN X0.here hx rfl (hb hby d4_48) rfl ?_
          show Steps p.tables e below (s₁.setTop (mkF m 49 #[.val (.int ((((p0.toUInt32 >>> ((16 : Int32) &&& 31).toUInt32).toInt32).toUInt32 >>> ((8 : Int32) &&& 31).toUInt32).toInt32)), .val (.int (((31 : Int32) + (-16 : Int32)) + (-8 : Int32)))] [(.int ((((p0.toUInt32 >>> ((16 : Int32) &&& 31).toUInt32).toInt32).toUInt32 >>> ((8 : Int32) &&& 31).toUInt32).toInt32))])) _
          refine XS.bipush X0.here hx rfl (hb hby d4_49) ?_
          exact kt
        by_cases hc40 : ((((p0.toUInt32 >>> ((16 : Int32) &&& 31).toUInt32).toInt32).toUInt32 >>> ((8 : Int32) &&& 31).toUInt32).toInt32) < (16 : Int32)
        · skip
          have K41 : ∀ t, Steps p.tables e below (s₁.setTop (mkF m 63 #[.val (.int ((((p0.toUInt32 >>> ((16 : Int32) &&& 31).toUInt32).toInt32).toUInt32 >>> ((8 : Int32) &&& 31).toUInt32).toInt32)), .val (.int (((31 : Int32) + (-16 : Int32)) + (-8 : Int32)))] [(.int (4 : Int32)), (.int ((((p0.toUInt32 >>> ((16 : Int32) &&& 31).toUInt32).toInt32).toUInt32 >>> ((8 : Int32) &&& 31).toUInt32).toInt32))])) t → Steps p.tables e below (s₁.setTop (mkF m 0 #[.val (.int p0), .unset] [])) t := by
            intro t kt
            refine K39 _ ?_
            show Steps p.tables e below (s₁.setTop (mkF m 51 #[.val (.int ((((p0.toUInt32 >>> ((16 : Int32) &&& 31).toUInt32).toInt32).toUInt32 >>> ((8 : Int32) &&& 31).toUInt32).toInt32)), .val (.int (((31 : Int32) + (-16 : Int32)) + (-8 : Int32)))] [(.int (16 : Int32)), (.int ((((p0.toUInt32 >>> ((16 : Int32) &&& 31).toUInt32).toInt32).toUInt32 >>> ((8 : Int32) &&& 31).toUInt32).toInt32))])) _
            refine XS.icmpYes X0.here hx rfl (pc0 := 51) (pc' := 61) rfl (hb hby d4_51) rfl (tlt hc40).1 (by decide) (by decide) ?_
            show Steps p.tables e below (s₁.setTop (mkF m 61 #[.val (.int ((((p0.toUInt32 >>> ((16 : Int32) &&& 31).toUInt32).toInt32).toUInt32 >>> ((8 : Int32) &&& 31).toUInt32).toInt32)), .val (.int (((31 : Int32) + (-16 : Int32)) + (-8 : Int32)))] [])) _
            refine XS.iloadN X0.here hx rfl (hb hby d4_61) rfl ?_
            show Steps p.tables e below (s₁.setTop (mkF m 62 #[.val (.int ((((p0.toUInt32 >>> ((16 : Int32) &&& 31).toUInt32).toInt32).toUInt32 >>> ((8 : Int32) &&& 31).toUInt32).toInt32)), .val (.int (((31 : Int32) + (-16 : Int32)) + (-8 : Int32)))] [(.int ((((p0.toUInt32 >>> ((16 : Int32) &&& 31).toUInt32).toInt32).toUInt32 >>> ((8 : Int32) &&& 31).toUInt32).toInt32))])) _
            refine XS.iconst X0.here hx rfl (hb hby d4_62) ?_
            exact kt
          by_cases hc42 : ((((p0.toUInt32 >>> ((16 : Int32) &&& 31).toUInt32).toInt32).toUInt32 >>> ((8 : Int32) &&& 31).toUInt32).toInt32) < (4 : Int32)
          · skip
            have K43 : ∀ t, Steps p.tables e below (s₁.setTop (mkF m 78 #[.val (.int ((((p0.toUInt32 >>> ((16 : Int32) &&& 31).toUInt32).toInt32).toUInt32 >>> ((8 : Int32) &&& 31).toUInt32).toInt32)), .val (.int (((31 : Int32) + (-16 : Int32)) + (-8 : Int32)))] [(.int ((((31 : Int32) + (-16 : Int32)) + (-8 : Int32)) - ((((((p0.toUInt32 >>> ((16 : Int32) &&& 31).toUInt32).toInt32).toUInt32 >>> ((8 : Int32) &&& 31).toUInt32).toInt32).toUInt32 >>> ((1 : Int32) &&& 31).toUInt32).toInt32)))])) t → Steps p.tables e below (s₁.setTop (mkF m 0 #[.val (.int p0), .unset] [])) t := by
              intro t kt
              refine K41 _ ?_
              show Steps p.tables e below (s₁.setTop (mkF m 63 #[.val (.int ((((p0.toUInt32 >>> ((16 : Int32) &&& 31).toUInt32).toInt32).toUInt32 >>> ((8 : Int32) &&& 31).toUInt32).toInt32)), .val (.int (((31 : Int32) + (-16 : Int32)) + (-8 : Int32)))] [(.int (4 : Int32)), (.int ((((p0.toUInt32 >>> ((16 : Int32) &&& 31).toUInt32).toInt32).toUInt32 >>> ((8 : Int32) &&& 31).toUInt32).toInt32))])) _
              refine XS.icmpYes X0.here hx rfl (pc0 := 63) (pc' := 73) rfl (hb hby d4_63) rfl (tlt hc42).1 (by decide) (by decide) ?_
              show Steps p.tables e below (s₁.setTop (mkF m 73 #[.val (.int ((((p0.toUInt32 >>> ((16 : Int32) &&& 31).toUInt32).toInt32).toUInt32 >>> ((8 : Int32) &&& 31).toUInt32).toInt32)), .val (.int (((31 : Int32) + (-16 : Int32)) + (-8 : Int32)))] [])) _
              refine XS.iloadN X0.here hx rfl (hb hby d4_73) rfl ?_
              show Steps p.tables e below (s₁.setTop (mkF m 74 #[.val (.int ((((p0.toUInt32 >>> ((16 : Int32) &&& 31).toUInt32).toInt32).toUInt32 >>> ((8 : Int32) &&& 31).toUInt32).toInt32)), .val (.int (((31 : Int32) + (-16 : Int32)) + (-8 : Int32)))] [(.int (((31 : Int32) + (-16 : Int32)) + (-8 : Int32)))])) _
              refine XS.iloadN X0.here hx rfl (hb hby d4_74) rfl ?_
              show Steps p.tables e below (s₁.setTop (mkF m 75 #[.val (.int ((((p0.toUInt32 >>> ((16 : Int32) &&& 31).toUInt32).toInt32).toUInt32 >>> ((8 : Int32) &&& 31).toUInt32).toInt32)), .val (.int (((31 : Int32) + (-16 : Int32)) + (-8 : Int32)))] [(.int ((((p0.toUInt32 >>> ((16 : Int32) &&& 31).toUInt32).toInt32).toUInt32 >>> ((8 : Int32) &&& 31).toUInt32).toInt32)), (.int (((31 : Int32) + (-16 : Int32)) + (-8 : Int32)))])) _
              refine XS.iconst X0.here hx rfl (hb hby d4_75) ?_
              show Steps p.tables e below (s₁.setTop (mkF m 76 #[.val (.int ((((p0.toUInt32 >>> ((16 : Int32) &&& 31).toUInt32).toInt32).toUInt32 >>> ((8 : Int32) &&& 31).toUInt32).toInt32)), .val (.int (((31 : Int32) + (-16 : Int32)) + (-8 : Int32)))] [(.int (1 : Int32)), (.int ((((p0.toUInt32 >>> ((16 : Int32) &&& 31).toUInt32).toInt32).toUInt32 >>> ((8 : Int32) &&& 31).toUInt32).toInt32)), (.int (((31 : Int32) + (-16 : Int32)) + (-8 : Int32)))])) _
              refine XS.iushr X0.here hx rfl (hb hby d4_76) rfl ?_
              show Steps p.tables e below (s₁.setTop (mkF m 77 #[.val (.int ((((p0.toUInt32 >>> ((16 : Int32) &&& 31).toUInt32).toInt32).toUInt32 >>> ((8 : Int32) &&& 31).toUInt32).toInt32)), .val (.int (((31 : Int32) + (-16 : Int32)) + (-8 : Int32)))] [(.int ((((((p0.toUInt32 >>> ((16 : Int32) &&& 31).toUInt32).toInt32).toUInt32 >>> ((8 : Int32) &&& 31).toUInt32).toInt32).toUInt32 >>> ((1 : Int32) &&& 31).toUInt32).toInt32)), (.int (((31 : Int32) + (-16 : Int32)) + (-8 : Int32)))])) _
              refine XS.isub X0.here hx rfl (hb hby d4_77) rfl ?_
              exact kt
            have hv : f4 p0 = ((((31 : Int32) + (-16 : Int32)) + (-8 : Int32)) - ((((((p0.toUInt32 >>> ((16 : Int32) &&& 31).toUInt32).toInt32).toUInt32 >>> ((8 : Int32) &&& 31).toUInt32).toInt32).toUInt32 >>> ((1 : Int32) &&& 31).toUInt32).toInt32)) := by simp only [f4, if_pos hc2, if_neg hc4, if_neg hc28, if_pos hc40, if_pos hc42]
            obtain ⟨fs, hr, hrun, hended, hW, hsame⟩ := X0.leave (v := some (.int ((((31 : Int32) + (-16 : Int32)) + (-8 : Int32)) - ((((((p0.toUInt32 >>> ((16 : Int32) &&& 31).toUInt32).toInt32).toUInt32 >>> ((8 : Int32) &&& 31).toUInt32).toInt32).toUInt32 >>> ((1 : Int32) &&& 31).toUInt32).toInt32)))) (fun h => by rw [Bd.returns] at h; cases h)
            refine ⟨_, _, pre0 _ (K43 _ ?_), hrun, hended, _, _, rfl, ?_, ⟨_, rfl⟩, hW, hsame.mono (by decide) (by decide)⟩
            · show Steps p.tables e below (s₁.setTop (mkF m 78 #[.val (.int ((((p0.toUInt32 >>> ((16 : Int32) &&& 31).toUInt32).toInt32).toUInt32 >>> ((8 : Int32) &&& 31).toUInt32).toInt32)), .val (.int (((31 : Int32) + (-16 : Int32)) + (-8 : Int32)))] [(.int ((((31 : Int32) + (-16 : Int32)) + (-8 : Int32)) - ((((((p0.toUInt32 >>> ((16 : Int32) &&& 31).toUInt32).toInt32).toUInt32 >>> ((8 : Int32) &&& 31).toUInt32).toInt32).toUInt32 >>> ((1 : Int32) &&& 31).toUInt32).toInt32)))])) _
              exact retOut X0 hx Bd.returns rfl (Or.inl ⟨rfl, Or.inl rfl, _, rfl⟩) (hb hby d4_78) hr
            · show Q4 Z p0  h0 _ s₁.heap _
              rw [e0]
              exact ⟨by rw [hv], rfl, rfl⟩
          · skip
            have K44 : ∀ t, Steps p.tables e below (s₁.setTop (mkF m 78 #[.val (.int ((((((p0.toUInt32 >>> ((16 : Int32) &&& 31).toUInt32).toInt32).toUInt32 >>> ((8 : Int32) &&& 31).toUInt32).toInt32).toUInt32 >>> ((2 : Int32) &&& 31).toUInt32).toInt32)), .val (.int ((((31 : Int32) + (-16 : Int32)) + (-8 : Int32)) + (-2 : Int32)))] [(.int (((((31 : Int32) + (-16 : Int32)) + (-8 : Int32)) + (-2 : Int32)) - ((((((((p0.toUInt32 >>> ((16 : Int32) &&& 31).toUInt32).toInt32).toUInt32 >>> ((8 : Int32) &&& 31).toUInt32).toInt32).toUInt32 >>> ((2 : Int32) &&& 31).toUInt32).toInt32).toUInt32 >>> ((1 : Int32) &&& 31).toUInt32).toInt32)))])) t → Steps p.tables e below (s₁.setTop (mkF m 0 #[.val (.int p0), .unset] [])) t := by
              intro t kt
              refine K41 _ ?_
              show Steps p.tables e below (s₁.setTop (mkF m 63 #[.val (.int ((((p0.toUInt32 >>> ((16 : Int32) &&& 31).toUInt32).toInt32).toUInt32 >>> ((8 : Int32) &&& 31).toUInt32).toInt32)), .val (.int (((31 : Int32) + (-16 : Int32)) + (-8 : Int32)))] [(.int (4 : Int32)), (.int ((((p0.toUInt32 >>> ((16 : Int32) &&& 31).toUInt32).toInt32).toUInt32 >>> ((8 : Int32) &&& 31).toUInt32).toInt32))])) _
              refine XS.icmpNo X0.here hx rfl (hb hby d4_63) rfl (flt hc42).1 ?_
              show Steps p.tables e below (s₁.setTop (mkF m 66 #[.val (.int ((((p0.toUInt32 >>> ((16 : Int32) &&& 31).toUInt32).toInt32).toUInt32 >>> ((8 : Int32) &&& 31).toUInt32).toInt32)), .val (.int (((31 : Int32) + (-16 : Int32)) + (-8 : Int32)))] [])) _
              refine XS.iinc X0.here hx rfl (hb hby d4_66) rfl (l' := #[.val (.int ((((p0.toUInt32 >>> ((16 : Int32) &&& 31).toUInt32).toInt32).toUInt32 >>> ((8 : Int32) &&& 31).toUInt32).toInt32)), .val (.int ((((31 : Int32) + (-16 : Int32)) + (-8 : Int32)) + (-2 : Int32)))]) rfl ?_
              show Steps p.tables e below (s₁.setTop (mkF m 69 #[.val (.int ((((p0.toUInt32 >>> ((16 : Int32) &&& 31).toUInt32).toInt32).toUInt32 >>> ((8 : Int32) &&& 31).toUInt32).toInt32)), .val (.int ((((31 : Int32) + (-16 : Int32)) + (-8 : Int32)) + (-2 : Int32)))] [])) _
              refine XS.iloadN X0.here hx rfl (hb hby d4_69) rfl ?_
              show Steps p.tables e below (s₁.setTop (mkF m 70 #[.val (.int ((((p0.toUInt32 >>> ((16 : Int32) &&& 31).toUInt32).toInt32).toUInt32 >>> ((8 : Int32) &&& 31).toUInt32).toInt32)), .val (.int ((((31 : Int32) + (-16 : Int32)) + (-8 : Int32)) + (-2 : Int32)))] [(.int ((((p0.toUInt32 >>> ((16 : Int32) &&& 31).toUInt32).toInt32).toUInt32 >>> ((8 : Int32) &&& 31).toUInt32).toInt32))])) _
              refine XS.iconst X0.here hx rfl (hb hby d4_70) ?_
              show Steps p.tables e below (s₁.setTop (mkF m 71 #[.val (.int ((((p0.toUInt32 >>> ((16 : Int32) &&& 31).toUInt32).toInt32).toUInt32 >>> ((8 : Int32) &&& 31).toUInt32).toInt32)), .val (.int ((((31 : Int32) + (-16 : Int32)) + (-8 : Int32)) + (-2 : Int32)))] [(.int (2 : Int32)), (.int ((((p0.toUInt32 >>> ((16 : Int32) &&& 31).toUInt32).toInt32).toUInt32 >>> ((8 : Int32) &&& 31).toUInt32).toInt32))])) _
              refine XS.iushr X0.here hx rfl (hb hby d4_71) rfl ?_
              show Steps p.tables e below (s₁.setTop (mkF m 72 #[.val (.int ((((p0.toUInt32 >>> ((16 : Int32) &&& 31).toUInt32).toInt32).toUInt32 >>> ((8 : Int32) &&& 31).toUInt32).toInt32)), .val (.int ((((31 : Int32) + (-16 : Int32)) + (-8 : Int32)) + (-2 : Int32)))] [(.int ((((((p0.toUInt32 >>> ((16 : Int32) &&& 31).toUInt32).toInt32).toUInt32 >>> ((8 : Int32) &&& 31).toUInt32).toInt32).toUInt32 >>> ((2 : Int32) &&& 31).toUInt32).toInt32))])) _
              refine XS.istoreN X0.here hx rfl (hb hby d4_72) rfl (l' := #[.val (.int ((((((p0.toUInt32 >>> ((16 : Int32) &&& 31).toUInt32).toInt32).toUInt32 >>> ((8 : Int32) &&& 31).toUInt32).toInt32).toUInt32 >>> ((2 : Int32) &&& 31).toUInt32).toInt32)), .val (.int ((((31 : Int32) + (-16 : Int32)) + (-8 : Int32)) + (-2 : Int32)))]) rfl ?_
              show Steps p.tables e below (s₁.setTop (mkF m 73 #[.val (.int ((((((p0.toUInt32 >>> ((16 : Int32) &&& 31).toUInt32).toInt32).toUInt32 >>> ((8 : Int32) &&& 31).toUInt32).toInt32).toUInt32 >>> ((2 : Int32) &&& 31).toUInt32).toInt32)), .val (.int ((((31 : Int32) + (-16 : Int32)) + (-8 : Int32)) + (-2 : Int32)))] [])) _
              refine XS.iloadN X0.here hx rfl (hb hby d4_73) rfl ?_
              show Steps p.tables e below (s₁.setTop (mkF m 74 #[.val (.int ((((((p0.toUInt32 >>> ((16 : Int32) &&& 31).toUInt32).toInt32).toUInt32 >>> ((8 : Int32) &&& 31).toUInt32).toInt32).toUInt32 >>> ((2 : Int32) &&& 31).toUInt32).toInt32)), .val (.int ((((31 : Int32) + (-16 : Int32)) + (-8 : Int32)) + (-2 : Int32)))] [(.int ((((31 : Int32) + (-16 : Int32)) + (-8 : Int32)) + (-2 : Int32)))])) _
              refine XS.iloadN X0.here hx rfl (hb hby d4_74) rfl ?_
              show Steps p.tables e below (s₁.setTop (mkF m 75 #[.val (.int ((((((p0.toUInt32 >>> ((16 : Int32) &&& 31).toUInt32).toInt32).toUInt32 >>> ((8 : Int32) &&& 31).toUInt32).toInt32).toUInt32 >>> ((2 : Int32) &&& 31).toUInt32).toInt32)), .val (.int ((((31 : Int32) + (-16 : Int32)) + (-8 : Int32)) + (-2 : Int32)))] [(.int ((((((p0.toUInt32 >>> ((16 : Int32) &&& 31).toUInt32).toInt32).toUInt32 >>> ((8 : Int32) &&& 31).toUInt32).toInt32).toUInt32 >>> ((2 : Int32) &&& 31).toUInt32).toInt32)), (.int ((((31 : Int32) + (-16 : Int32)) + (-8 : Int32)) + (-2 : Int32)))])) _
              refine XS.iconst X0.here hx rfl (hb hby d4_75) ?_
              show Steps p.tables e below (s₁.setTop (mkF m 76 #[.val (.int ((((((p0.toUInt32 >>> ((16 : Int32) &&& 31).toUInt32).toInt32).toUInt32 >>> ((8 : Int32) &&& 31).toUInt32).toInt32).toUInt32 >>> ((2 : Int32) &&& 31).toUInt32).toInt32)), .val (.int ((((31 : Int32) + (-16 : Int32)) + (-8 : Int32)) + (-2 : Int32)))] [(.int (1 : Int32)), (.int ((((((p0.toUInt32 >>> ((16 : Int32) &&& 31).toUInt32).toInt32).toUInt32 >>> ((8 : Int32) &&& 31).toUInt32).toInt32).toUInt32 >>> ((2 : Int32) &&& 31).toUInt32).toInt32)), (.int ((((31 : Int32) + (-16 : Int32)) + (-8 : Int32)) + (-2 : Int32)))])) _
              refine XS.iushr X0.here hx rfl (hb hby d4_76) rfl ?_
              show Steps p.tables e below (s₁.setTop (mkF m 77 #[.val (.int ((((((p0.toUInt32 >>> ((16 : Int32) &&& 31).toUInt32).toInt32).toUInt32 >>> ((8 : Int32) &&& 31).toUInt32).toInt32).toUInt32 >>> ((2 : Int32) &&& 31).toUInt32).toInt32)), .val (.int ((((31 : Int32) + (-16 : Int32)) + (-8 : Int32)) + (-2 : Int32)))] [(.int ((((((((p0.toUInt32 >>> ((16 : Int32) &&& 31).toUInt32).toInt32).toUInt32 >>> ((8 : Int32) &&& 31).toUInt32).toInt32).toUInt32 >>> ((2 : Int32) &&& 31).toUInt32).toInt32).toUInt32 >>> ((1 : Int32) &&& 31).toUInt32).toInt32)), (.int ((((31 : Int32) + (-16 : Int32)) + (-8 : Int32)) + (-2 : Int32)))])) _
              refine XS.isub X0.here hx rfl (hb hby d4_77) rfl ?_
              exact kt
            have hv : f4 p0 = (((((31 : Int32) + (-16 : Int32)) + (-8 : Int32)) + (-2 : Int32)) - ((((((((p0.toUInt32 >>> ((16 : Int32) &&& 31).toUInt32).toInt32).toUInt32 >>> ((8 : Int32) &&& 31).toUInt32).toInt32).toUInt32 >>> ((2 : Int32) &&& 31).toUInt32).toInt32).toUInt32 >>> ((1 : Int32) &&& 31).toUInt32).toInt32)) := by simp only [f4, if_pos hc2, if_neg hc4, if_neg hc28, if_pos hc40, if_neg hc42]
            obtain ⟨fs, hr, hrun, hended, hW, hsame⟩ := X0.leave (v := some (.int (((((31 : Int32) + (-16 : Int32)) + (-8 : Int32)) + (-2 : Int32)) - ((((((((p0.toUInt32 >>> ((16 : Int32) &&& 31).toUInt32).toInt32).toUInt32 >>> ((8 : Int32) &&& 31).toUInt32).toInt32).toUInt32 >>> ((2 : Int32) &&& 31).toUInt32).toInt32).toUInt32 >>> ((1 : Int32) &&& 31).toUInt32).toInt32)))) (fun h => by rw [Bd.returns] at h; cases h)
            refine ⟨_, _, pre0 _ (K44 _ ?_), hrun, hended, _, _, rfl, ?_, ⟨_, rfl⟩, hW, hsame.mono (by decide) (by decide)⟩
            · show Steps p.tables e below (s₁.setTop (mkF m 78 #[.val (.int ((((((p0.toUInt32 >>> ((16 : Int32) &&& 31).toUInt32).toInt32).toUInt32 >>> ((8 : Int32) &&& 31).toUInt32).toInt32).toUInt32 >>> ((2 : Int32) &&& 31).toUInt32).toInt32)), .val (.int ((((31 : Int32) + (-16 : Int32)) + (-8 : Int32)) + (-2 : Int32)))] [(.int (((((31 : Int32) + (-16 : Int32)) + (-8 : Int32)) + (-2 : Int32)) - ((((((((p0.toUInt32 >>> ((16 : Int32) &&& 31).toUInt32).toInt32).toUInt32 >>> ((8 : Int32) &&& 31).toUInt32).toInt32).toUInt32 >>> ((2 : Int32) &&& 31).toUInt32).toInt32).toUInt32 >>> ((1 : Int32) &&& 31).toUInt32).toInt32)))])) _
              exact retOut X0 hx Bd.returns rfl (Or.inl ⟨rfl, Or.inl rfl, _, rfl⟩) (hb hby d4_78) hr
            · show Q4 Z p0  h0 _ s₁.heap _
              rw [e0]
              exact ⟨by rw [hv], rfl, rfl⟩
        · skip
          have K45 : ∀ t, Steps p.tables e below (s₁.setTop (mkF m 63 #[.val (.int ((((((p0.toUInt32 >>> ((16 : Int32) &&& 31).toUInt32).toInt32).toUInt32 >>> ((8 : Int32) &&& 31).toUInt32).toInt32).toUInt32 >>> ((4 : Int32) &&& 31).toUInt32).toInt32)), .val (.int ((((31 : Int32) + (-16 : Int32)) + (-8 : Int32)) + (-4 : Int32)))] [(.int (4 : Int32)), (.int ((((((p0.toUInt32 >>> ((16 : Int32) &&& 31).toUInt32).toInt32).toUInt32 >>> ((8 : Int32) &&& 31).toUInt32).toInt32).toUInt32 >>> ((4 : Int32) &&& 31).toUInt32).toInt32))])) t → Steps p.tables e below (s₁.setTop (mkF m 0 #[.val (.int p0), .unset] [])) t := by
            intro t kt
            refine K39 _ ?_
            show Steps p.tables e below (s₁.setTop (mkF m 51 #[.val (.int ((((p0.toUInt32 >>> ((16 : Int32) &&& 31).toUInt32).toInt32).toUInt32 >>> ((8 : Int32) &&& 31).toUInt32).toInt32)), .val (.int (((31 : Int32) + (-16 : Int32)) + (-8 : Int32)))] [(.int (16 : Int32)), (.int ((((p0.toUInt32 >>> ((16 : Int32) &&& 31).toUInt32).toInt32).toUInt32 >>> ((8 : Int32) &&& 31).toUInt32).toInt32))])) _
            refine XS.icmpNo X0.here hx rfl (hb hby d4_51) rfl (flt hc40).1 ?_
            show Steps p.tables e below (s₁.setTop (mkF m 54 #[.val (.int ((((p0.toUInt32 >>> ((16 : Int32) &&& 31).toUInt32).toInt32).toUInt32 >>> ((8 : Int32) &&& 31).toUInt32).toInt32)), .val (.int (((31 : Int32) + (-16 : Int32)) + (-8 : Int32)))] [])) _
            refine XS.iinc X0.here hx rfl (hb hby d4_54) rfl (l' := #[.val (.int ((((p0.toUInt32 >>> ((16 : Int32) &&& 31).toUInt32).toInt32).toUInt32 >>> ((8 : Int32) &&& 31).toUInt32).toInt32)), .val (.int ((((31 : Int32) + (-16 : Int32)) + (-8 : Int32)) + (-4 : Int32)))]) rfl ?_
            show Steps p.tables e below (s₁.setTop (mkF m 57 #[.val (.int ((((p0.toUInt32 >>> ((16 : Int32) &&& 31).toUInt32).toInt32).toUInt32 >>> ((8 : Int32) &&& 31).toUInt32).toInt32)), .val (.int ((((31 : Int32) + (-16 : Int32)) + (-8 : Int32)) + (-4 : Int32)))] [])) _
            refine XS.iloadN X0.here hx rfl (hb hby d4_57) rfl ?_
            show Steps p.tables e below (s₁.setTop (mkF m 58 #[.val (.int ((((p0.toUInt32 >>> ((16 : Int32) &&& 31).toUInt32).toInt32).toUInt32 >>> ((8 : Int32) &&& 31).toUInt32).toInt32)), .val (.int ((((31 : Int32) + (-16 : Int32)) + (-8 : Int32)) + (-4 : Int32)))] [(.int ((((p0.toUInt32 >>> ((16 : Int32) &&& 31).toUInt32).toInt32).toUInt32 >>> ((8 : Int32) &&& 31).toUInt32).toInt32))])) _
            refine XS.iconst X0.here hx rfl (hb hby d4_58) ?_
            show Steps p.tables e below (s₁.setTop (mkF m 59 #[.val (.int ((((p0.toUInt32 >>> ((16 : Int32) &&& 31).toUInt32).toInt32).toUInt32 >>> ((8 : Int32) &&& 31).toUInt32).toInt32)), .val (.int ((((31 : Int32) + (-16 : Int32)) + (-8 : Int32)) + (-4 : Int32)))] [(.int (4 : Int32)), (.int ((((p0.toUInt32 >>> ((16 : Int32) &&& 31).toUInt32).toInt32).toUInt32 >>> ((8 : Int32) &&& 31).toUInt32).toInt32))])) _
            refine XS.iushr X0.here hx rfl (hb hby d4_59) rfl ?_
            show Steps p.tables e below (s₁.setTop (mkF m 60 #[.val (.int ((((p0.toUInt32 >>> ((16 : Int32) &&& 31).toUInt32).toInt32).toUInt32 >>> ((8 : Int32) &&& 31).toUInt32).toInt32)), .val (.int ((((31 : Int32) + (-16 : Int32)) + (-8 : Int32)) + (-4 : Int32)))] [(.int ((((((p0.toUInt32 >>> ((16 : Int32) &&& 31).toUInt32).toInt32).toUInt32 >>> ((8 : Int32) &&& 31).toUInt32).toInt32).toUInt32 >>> ((4 : Int32) &&& 31).toUInt32).toInt32))])) _
            refine XS.istoreN X0.here hx rfl (hb hby d4_60) rfl (l' := #[.val (.int ((((((p0.toUInt32 >>> ((16 : Int32) &&& 31).toUInt32).toInt32).toUInt32 >>> ((8 : Int32) &&& 31).toUInt32).toInt32).toUInt32 >>> ((4 : Int32) &&& 31).toUInt32).toInt32)), .val (.int ((((31 : Int32) + (-16 : Int32)) + (-8 : Int32)) + (-4 : Int32)))]) rfl ?_
            show Steps p.tables e below (s₁.setTop (mkF m 61 #[.val (.int ((((((p0.toUInt32 >>> ((16 : Int32) &&& 31).toUInt32).toInt32).toUInt32 >>> ((8 : Int32) &&& 31).toUInt32).toInt32).toUInt32 >>> ((4 : Int32) &&& 31).toUInt32).toInt32)), .val (.int ((((31 : Int32) + (-16 : Int32)) + (-8 : Int32)) + (-4 : Int32)))] [])) _
            refine XS.iloadN X0.here hx rfl (hb hby d4_61) rfl ?_
            show Steps p.tables e below (s₁.setTop (mkF m 62 #[.val (.int ((((((p0.toUInt32 >>> ((16 : Int32) &&& 31).toUInt32).toInt32).toUInt32 >>> ((8 : Int32) &&& 31).toUInt32).toInt32).toUInt32 >>> ((4 : Int32) &&& 31).toUInt32).toInt32)), .val (.int ((((31 : Int32) + (-16 : Int32)) + (-8 : Int32)) + (-4 : Int32)))] [(.int ((((((p0.toUInt32 >>> ((16 : Int32) &&& 31).toUInt32).toInt32).toUInt32 >>> ((8 : Int32) &&& 31).toUInt32).toInt32).toUInt32 >>> ((4 : Int32) &&& 31).toUInt32).toInt32))])) _
            refine XS.iconst X0.here hx rfl (hb hby d4_62) ?_
            exact kt
          by_cases hc46 : ((((((p0.toUInt32 >>> ((16 : Int32) &&& 31).toUInt32).toInt32).toUInt32 >>> ((8 : Int32) &&& 31).toUInt32).toInt32).toUInt32 >>> ((4 : Int32) &&& 31).toUInt32).toInt32) < (4 : Int32)
          · skip
            have K47 : ∀ t, Steps p.tables e below (s₁.setTop (mkF m 78 #[.val (.int ((((((p0.toUInt32 >>> ((16 : Int32) &&& 31).toUInt32).toInt32).toUInt32 >>> ((8 : Int32) &&& 31).toUInt32).toInt32).toUInt32 >>> ((4 : Int32) &&& 31).toUInt32).toInt32)), .val (.int ((((31 : Int32) + (-16 : Int32)) + (-8 : Int32)) + (-4 : Int32)))] [(.int (((((31 : Int32) + (-16 : Int32)) + (-8 : Int32)) + (-4 : Int32)) - ((((((((p0.toUInt32 >>> ((16 : Int32) &&& 31).toUInt32).toInt32).toUInt32 >>> ((8 : Int32) &&& 31).toUInt32).toInt32).toUInt32 >>> ((4 : Int32) &&& 31).toUInt32).toInt32).toUInt32 >>> ((1 : Int32) &&& 31).toUInt32).toInt32)))])) t → Steps p.tables e below (s₁.setTop (mkF m 0 #[.val (.int p0), .unset] [])) t := by
              intro t kt
              refine K45 _ ?_
              show Steps p.tables e below (s₁.setTop (mkF m 63 #[.val (.int ((((((p0.toUInt32 >>> ((16 : Int32) &&& 31).toUInt32).toInt32).toUInt32 >>> ((8 : Int32) &&& 31).toUInt32).toInt32).toUInt32 >>> ((4 : Int32) &&& 31).toUInt32).toInt32)), .val (.int ((((31 : Int32) + (-16 : Int32)) + (-8 : Int32)) + (-4 : Int32)))] [(.int (4 : Int32)), (.int ((((((p0.toUInt32 >>> ((16 : Int32) &&& 31).toUInt32).toInt32).toUInt32 >>> ((8 : Int32) &&& 31).toUInt32).toInt32).toUInt32 >>> ((4 : Int32) &&& 31).toUInt32).toInt32))])) _
              refine XS.icmpYes X0.here hx rfl (pc0 := 63) (pc' := 73) rfl (hb hby d4_63) rfl (tlt hc46).1 (by decide) (by decide) ?_
              show Steps p.tables e below (s₁.setTop (mkF m 73 #[.val (.int ((((((p0.toUInt32 >>> ((16 : Int32) &&& 31).toUInt32).toInt32).toUInt32 >>> ((8 : Int32) &&& 31).toUInt32).toInt32).toUInt32 >>> ((4 : Int32) &&& 31).toUInt32).toInt32)), .val (.int ((((31 : Int32) + (-16 : Int32)) + (-8 : Int32)) + (-4 : Int32)))] [])) _
              refine XS.iloadN X0.here hx rfl (hb hby d4_73) rfl ?_
              show Steps p.tables e below (s₁.setTop (mkF m 74 #[.val (.int ((((((p0.toUInt32 >>> ((16 : Int32) &&& 31).toUInt32).toInt32).toUInt32 >>> ((8 : Int32) &&& 31).toUInt32).toInt32).toUInt32 >>> ((4 : Int32) &&& 31).toUInt32).toInt32)), .val (.int ((((31 : Int32) + (-16 : Int32)) + (-8 : Int32)) + (-4 : Int32)))] [(.int ((((31 : Int32) + (-16 : Int32)) + (-8 : Int32)) + (-4 : Int32)))])) _
              refine XS.iloadN X0.here hx rfl (hb hby d4_74) rfl ?_
              show Steps p.tables e below (s₁.setTop (mkF m 75 #[.val (.int ((((((p0.toUInt32 >>> ((16 : Int32) &&& 31).toUInt32).toInt32).toUInt32 >>> ((8 : Int32) &&& 31).toUInt32).toInt32).toUInt32 >>> ((4 : Int32) &&& 31).toUInt32).toInt32)), .val (.int ((((31 : Int32) + (-16 : Int32)) + (-8 : Int32)) + (-4 : Int32)))] [(.int ((((((p0.toUInt32 >>> ((16 : Int32) &&& 31).toUInt32).toInt32).toUInt32 >>> ((8 : Int32) &&& 31).toUInt32).toInt32).toUInt32 >>> ((4 : Int32) &&& 31).toUInt32).toInt32)), (.int ((((31 : Int32) + (-16 : Int32)) + (-8 : Int32)) + (-4 : Int32)))])) _
              refine XS.iconst X0.here hx rfl (hb hby d4_75) ?_
              show Steps p.tables e below (s₁.setTop (mkF m 76 #[.val (.int ((((((p0.toUInt32 >>> ((16 : Int32) &&& 31).toUInt32).toInt32).toUInt32 >>> ((8 : Int32) &&& 31).toUInt32).toInt32).toUInt32 >>> ((4 : Int32) &&& 31).toUInt32).toInt32)), .val (.int ((((31 : Int32) + (-16 : Int32)) + (-8 : Int32)) + (-4 : Int32)))] [(.int (1 : Int32)), (.int ((((((p0.toUInt32 >>> ((16 : Int32) &&& 31).toUInt32).toInt32).toUInt32 >>> ((8 : Int32) &&& 31).toUInt32).toInt32).toUInt32 >>> ((4 : Int32) &&& 31).toUInt32).toInt32)), (.int ((((31 : Int32) + (-16 : Int32)) + (-8 : Int32)) + (-4 : Int32)))])) _
              refine XS.iushr X0.here hx rfl (hb hby d4_76) rfl ?_
              show Steps p.tables e below (s₁.setTop (mkF m 77 #[.val (.int ((((((p0.toUInt32 >>> ((16 : Int32) &&& 31).toUInt32).toInt32).toUInt32 >>> ((8 : Int32) &&& 31).toUInt32).toInt32).toUInt32 >>> ((4 : Int32) &&& 31).toUInt32).toInt32)), .val (.int ((((31 : Int32) + (-16 : Int32)) + (-8 : Int32)) + (-4 : Int32)))] [(.int ((((((((p0.toUInt32 >>> ((16 : Int32) &&& 31).toUInt32).toInt32).toUInt32 >>> ((8 : Int32) &&& 31).toUInt32).toInt32).toUInt32 >>> ((4 : Int32) &&& 31).toUInt32).toInt32).toUInt32 >>> ((1 : Int32) &&& 31).toUInt32).toInt32)), (.int ((((31 : Int32) + (-16 : Int32)) + (-8 : Int32)) + (-4 : Int32)))])) _
              refine XS.isub X0.here hx rfl (hb hby d4_77) rfl ?_
              exact kt
            have hv : f4 p0 = (((((31 : Int32) + (-16 : Int32)) + (-8 : Int32)) + (-4 : Int32)) - ((((((((p0.toUInt32 >>> ((16 : Int32) &&& 31).toUInt32).toInt32).toUInt32 >>> ((8 : Int32) &&& 31).toUInt32).toInt32).toUInt32 >>> ((4 : Int32) &&& 31).toUInt32).toInt32).toUInt32 >>> ((1 : Int32) &&& 31).toUInt32).toInt32)) := by simp only [f4, if_pos hc2, if_neg hc4, if_neg hc28, if_neg hc40, if_pos hc46]
            obtain ⟨fs, hr, hrun, hended, hW, hsame⟩ := X0.leave (v := some (.int (((((31 : Int32) + (-16 : Int32)) + (-8 : Int32)) + (-4 : Int32)) - ((((((((p0.toUInt32 >>> ((16 : Int32) &&& 31).toUInt32).toInt32).toUInt32 >>> ((8 : Int32) &&& 31).toUInt32).toInt32).toUInt32 >>> ((4 : Int32) &&& 31).toUInt32).toInt32).toUInt32 >>> ((1 : Int32) &&& 31).toUInt32).toInt32)))) (fun h => by rw [Bd.returns] at h; cases h)
            refine ⟨_, _, pre0 _ (K47 _ ?_), hrun, hended, _, _, rfl, ?_, ⟨_, rfl⟩, hW, hsame.mono (by decide) (by decide)⟩
            · show Steps p.tables e below (s₁.setTop (mkF m 78 #[.val (.int ((((((p0.toUInt32 >>> ((16 : Int32) &&& 31).toUInt32).toInt32).toUInt32 >>> ((8 : Int32) &&& 31).toUInt32).toInt32).toUInt32 >>> ((4 : Int32) &&& 31).toUInt32).toInt32)), .val (.int ((((31 : Int32) + (-16 : Int32)) + (-8 : Int32)) + (-4 : Int32)))] [(.int (((((31 : Int32) + (-16 : Int32)) + (-8 : Int32)) + (-4 : Int32)) - ((((((((p0.toUInt32 >>> ((16 : Int32) &&& 31).toUInt32).toInt32).toUInt32 >>> ((8 : Int32) &&& 31).toUInt32).toInt32).toUInt32 >>> ((4 : Int32) &&& 31).toUInt32).toInt32).toUInt32 >>> ((1 : Int32) &&& 31).toUInt32).toInt32)))])) _
              exact retOut X0 hx Bd.returns rfl (Or.inl ⟨rfl, Or.inl rfl, _, rfl⟩) (hb hby d4_78) hr
            · show Q4 Z p0  h0 _ s₁.heap _
              rw [e0]
              exact ⟨by rw [hv], rfl, rfl⟩
          · skip
            have K48 : ∀ t, Steps p.tables e below (s₁.setTop (mkF m 78 #[.val (.int ((((((((p0.toUInt32 >>> ((16 : Int32) &&& 31).toUInt32).toInt32).toUInt32 >>> ((8 : Int32) &&& 31).toUInt32).toInt32).toUInt32 >>> ((4 : Int32) &&& 31).toUInt32).toInt32).toUInt32 >>> ((2 : Int32) &&& 31).toUInt32).toInt32)), .val (.int (((((31 : Int32) + (-16 : Int32)) + (-8 : Int32)) + (-4 : Int32)) + (-2 : Int32)))] [(.int ((((((31 : Int32) + (-16 : Int32)) + (-8 : Int32)) + (-4 : Int32)) + (-2 : Int32)) - ((((((((((p0.toUInt32 >>> ((16 : Int32) &&& 31).toUInt32).toInt32).toUInt32 >>> ((8 : Int32) &&& 31).toUInt32).toInt32).toUInt32 >>> ((4 : Int32) &&& 31).toUInt32).toInt32).toUInt32 >>> ((2 : Int32) &&& 31).toUInt32).toInt32).toUInt32 >>> ((1 : Int32) &&& 31).toUInt32).toInt32)))])) t → Steps p.tables e below (s₁.setTop (mkF m 0 #[.val (.int p0), .unset] [])) t := by
              intro t kt
              refine K45 _ ?_
              show Steps p.tables e below (s₁.setTop (mkF m 63 #[.val (.int ((((((p0.toUInt32 >>> ((16 : Int32) &&& 31).toUInt32).toInt32).toUInt32 >>> ((8 : Int32) &&& 31).toUInt32).toInt32).toUInt32 >>> ((4 : Int32) &&& 31).toUInt32).toInt32)), .val (.int ((((31 : Int32) + (-16 : Int32)) + (-8 : Int32)) + (-4 : Int32)))] [(.int (4 : Int32)), (.int ((((((p0.toUInt32 >>> ((16 : Int32) &&& 31).toUInt32).toInt32).toUInt32 >>> ((8 : Int32) &&& 31).toUInt32).toInt32).toUInt32 >>> ((4 : Int32) &&& 31).toUInt32).toInt32))])) _
              refine XS.icmpNo X0.here hx rfl (hb hby d4_63) rfl (flt hc46).1 ?_
              show Steps p.tables e below (s₁.setTop (mkF m 66 #[.val (.int ((((((p0.toUInt32 >>> ((16 : Int32) &&& 31).toUInt32).toInt32).toUInt32 >>> ((8 : Int32) &&& 31).toUInt32).toInt32).toUInt32 >>> ((4 : Int32) &&& 31).toUInt32).toInt32)), .val (.int ((((31 : Int32) + (-16 : Int32)) + (-8 : Int32)) + (-4 : Int32)))] [])) _
              refine XS.iinc X0.here hx rfl (hb hby d4_66) rfl (l' := #[.val (.int ((((((p0.toUInt32 >>> ((16 : Int32) &&& 31).toUInt32).toInt32).toUInt32 >>> ((8 : Int32) &&& 31).toUInt32).toInt32).toUInt32 >>> ((4 : Int32) &&& 31).toUInt32).toInt32)), .val (.int (((((31 : Int32) + (-16 : Int32)) + (-8 : Int32)) + (-4 : Int32)) + (-2 : Int32)))]) rfl ?_
              show Steps p.tables e below (s₁.setTop (mkF m 69 #[.val (.int ((((((p0.toUInt32 >>> ((16 : Int32) &&& 31).toUInt32).toInt32).toUInt32 >>> ((8 : Int32) &&& 31).toUInt32).toInt32).toUInt32 >>> ((4 : Int32) &&& 31).toUInt32).toInt32)), .val (.int (((((31 : Int32) + (-16 : Int32)) + (-8 : Int32)) + (-4 : Int32)) + (-2 : Int32)))] [])) _
              refine XS.iloadN X0.here hx rfl (hb hby d4_69) rfl ?_
              show Steps p.tables e below (s₁.setTop (mkF m 70 #[.val (.int ((((((p0.toUInt32 >>> ((16 : Int32) &&& 31).toUInt32).toInt32).toUInt32 >>> ((8 : Int32) &&& 31).toUInt32).toInt32).toUInt32 >>> ((4 : Int32) &&& 31).toUInt32).toInt32)), .val (.int (((((31 : Int32) + (-16 : Int32)) + (-8 : Int32)) + (-4 : Int32)) + (-2 : Int32)))] [(.int ((((((p0.toUInt32 >>> ((16 : Int32) &&& 31).toUInt32).toInt32).toUInt32 >>> ((8 : Int32) &&& 31).toUInt32).toInt32).toUInt32 >>> ((4 : Int32) &&& 31).toUInt32).toInt32))])) _
              refine XS.iconst X0.here hx rfl (hb hby d4_70) ?_
              show Steps p.tables e below (s₁.setTop (mkF m 71 #[.val (.int ((((((p0.toUInt32 >>> ((16 : Int32) &&& 31).toUInt32).toInt32).toUInt32 >>> ((8 : Int32) &&& 31).toUInt32).toInt32).toUInt32 >>> ((4 : Int32) &&& 31).toUInt32).toInt32)), .val (.int (((((31 : Int32) + (-16 : Int32)) + (-8 : Int32)) + (-4 : Int32)) + (-2 : Int32)))] [(.int (2 : Int32)), (.int ((((((p0.toUInt32 >>> ((16 : Int32) &&& 31).toUInt32).toInt32).toUInt32 >>> ((8 : Int32) &&& 31).toUInt32).toInt32).toUInt32 >>> ((4 : Int32) &&& 31).toUInt32).toInt32))])) _
              refine XS.iushr X0.here hx rfl (hb hby d4_71) rfl ?_
              show Steps p.tables e below (s₁.setTop (mkF m 72 #[.val (.int ((((((p0.toUInt32 >>> ((16 : Int32) &&& 31).toUInt32).toInt32).toUInt32 >>> ((8 : Int32) &&& 31).toUInt32).toInt32).toUInt32 >>> ((4 : Int32) &&& 31).toUInt32).toInt32)), .val (.int (((((31 : Int32) + (-16 : Int32)) + (-8 : Int32)) + (-4 : Int32)) + (-2 : Int32)))] [(.int ((((((((p0.toUInt32 >>> ((16 : Int32) &&& 31).toUInt32).toInt32).toUInt32 >>> ((8 : Int32) &&& 31).toUInt32).toInt32).toUInt32 >>> ((4 : Int32) &&& 31).toUInt32).toInt32).toUInt32 >>> ((2 : Int32) &&& 31).toUInt32).toInt32))])) _
              refine XS.istoreN X0.here hx rfl (hb hby d4_72) rfl (l' := #[.val (.int ((((((((p0.toUInt32 >>> ((16 : Int32) &&& 31).toUInt32).toInt32).toUInt32 >>> ((8 : Int32) &&& 31).toUInt32).toInt32).toUInt32 >>> ((4 : Int32) &&& 31).toUInt32).toInt32).toUInt32 >>> ((2 : Int32) &&& 31).toUInt32).toInt32)), .val (.int (((((31 : Int32) + (-16 : Int32)) + (-8 : Int32)) + (-4 : Int32)) + (-2 : Int32)))]) rfl ?_
              show Steps p.tables e below (s₁.setTop (mkF m 73 #[.val (.int ((((((((p0.toUInt32 >>> ((16 : Int32) &&& 31).toUInt32).toInt32).toUInt32 >>> ((8 : Int32) &&& 31).toUInt32).toInt32).toUInt32 >>> ((4 : Int32) &&& 31).toUInt32).toInt32).toUInt32 >>> ((2 : Int32) &&& 31).toUInt32).toInt32)), .val (.int (((((31 : Int32) + (-16 : Int32)) + (-8 : Int32)) + (-4 : Int32)) + (-2 : Int32)))] [])) _
              refine XS.iloadN X0.here hx rfl (hb hby d4_73) rfl ?_
              show Steps p.tables e below (s₁.setTop (mkF m 74 #[.val (.int ((((((((p0.toUInt32 >>> ((16 : Int32) &&& 31).toUInt32).toInt32).toUInt32 >>> ((8 : Int32) &&& 31).toUInt32).toInt32).toUInt32 >>> ((4 : Int32) &&& 31).toUInt32).toInt32).toUInt32 >>> ((2 : Int32) &&& 31).toUInt32).toInt32)), .val (.int (((((31 : Int32) + (-16 : Int32)) + (-8 : Int32)) + (-4 : Int32)) + (-2 : Int32)))] [(.int (((((31 : Int32) + (-16 : Int32)) + (-8 : Int32)) + (-4 : Int32)) + (-2 : Int32)))])) _
              refine XS.iloadN X0.here hx rfl (hb hby d4_74) rfl ?_
              show Steps p.tables e below (s₁.setTop (mkF m 75 #[.val (.int ((((((((p0.toUInt32 >>> ((16 : Int32) &&& 31).toUInt32).toInt32).toUInt32 >>> ((8 : Int32) &&& 31).toUInt32).toInt32).toUInt32 >>> ((4 : Int32) &&& 31).toUInt32).toInt32).toUInt32 >>> ((2 : Int32) &&& 31).toUInt32).toInt32)), .val (.int (((((31 : Int32) + (-16 : Int32)) + (-8 : Int32)) + (-4 : Int32)) + (-2 : Int32)))] [(.int ((((((((p0.toUInt32 >>> ((16 : Int32) &&& 31).toUInt32).toInt32).toUInt32 >>> ((8 : Int32) &&& 31).toUInt32).toInt32).toUInt32 >>> ((4 : Int32) &&& 31).toUInt32).toInt32).toUInt32 >>> ((2 : Int32) &&& 31).toUInt32).toInt32)), (.int (((((31 : Int32) + (-16 : Int32)) + (-8 : Int32)) + (-4 : Int32)) + (-2 : Int32)))])) _
              refine XS.iconst X0.here hx rfl (hb hby d4_75) ?_
              show Steps p.tables e below (s₁.setTop (mkF m 76 #[.val (.int ((((((((p0.toUInt32 >>> ((16 : Int32) &&& 31).toUInt32).toInt32).toUInt32 >>> ((8 : Int32) &&& 31).toUInt32).toInt32).toUInt32 >>> ((4 : Int32) &&& 31).toUInt32).toInt32).toUInt32 >>> ((2 : Int32) &&& 31).toUInt32).toInt32)), .val (.int (((((31 : Int32) + (-16 : Int32)) + (-8 : Int32)) + (-4 : Int32)) + (-2 : Int32)))] [(.int (1 : Int32)), (.int ((((((((p0.toUInt32 >>> ((16 : Int32) &&& 31).toUInt32).toInt32).toUInt32 >>> ((8 : Int32) &&& 31).toUInt32).toInt32).toUInt32 >>> ((4 : Int32) &&& 31).toUInt32).toInt32).toUInt32 >>> ((2 : Int32) &&& 31).toUInt32).toInt32)), (.int (((((31 : Int32) + (-16 : Int32)) + (-8 : Int32)) + (-4 : Int32)) + (-2 : Int32)))])) _
              refine XS.iushr X0.here hx rfl (hb hby d4_76) rfl ?_
              show Steps p.tables e below (s₁.setTop (mkF m 77 #[.val (.int ((((((((p0.toUInt32 >>> ((16 : Int32) &&& 31).toUInt32).toInt32).toUInt32 >>> ((8 : Int32) &&& 31).toUInt32).toInt32).toUInt32 >>> ((4 : Int32) &&& 31).toUInt32).toInt32).toUInt32 >>> ((2 : Int32) &&& 31).toUInt32).toInt32)), .val (.int (((((31 : Int32) + (-16 : Int32)) + (-8 : Int32)) + (-4 : Int32)) + (-2 : Int32)))] [(.int ((((((((((p0.toUInt32 >>> ((16 : Int32) &&& 31).toUInt32).toInt32).toUInt32 >>> ((8 : Int32) &&& 31).toUInt32).toInt32).toUInt32 >>> ((4 : Int32) &&& 31).toUInt32).toInt32).toUInt32 >>> ((2 : Int32) &&& 31).toUInt32).toInt32).toUInt32 >>> ((1 : Int32) &&& 31).toUInt32).toInt32)), (.int (((((31 : Int32) + (-16 : Int32)) + (-8 : Int32)) + (-4 : Int32)) + (-2 : Int32)))])) _
              refine XS.isub X0.here hx rfl (hb hby d4_77) rfl ?_
              exact kt
            have hv : f4 p0 = ((((((31 : Int32) + (-16 : Int32)) + (-8 : Int32)) + (-4 : Int32)) + (-2 : Int32)) - ((((((((((p0.toUInt32 >>> ((16 : Int32) &&& 31).toUInt32).toInt32).toUInt32 >>> ((8 : Int32) &&& 31).toUInt32).toInt32).toUInt32 >>> ((4 : Int32) &&& 31).toUInt32).toInt32).toUInt32 >>> ((2 : Int32) &&& 31).toUInt32).toInt32).toUInt32 >>> ((1 : Int32) &&& 31).toUInt32).toInt32)) := by simp only [f4, if_pos hc2, if_neg hc4, if_neg hc28, if_neg hc40, if_neg hc46]
            obtain ⟨fs, hr, hrun, hended, hW, hsame⟩ := X0.leave (v := some (.int ((((((31 : Int32) + (-16 : Int32)) + (-8 : Int32)) + (-4 : Int32)) + (-2 : Int32)) - ((((((((((p0.toUInt32 >>> ((16 : Int32) &&& 31).toUInt32).toInt32).toUInt32 >>> ((8 : Int32) &&& 31).toUInt32).toInt32).toUInt32 >>> ((4 : Int32) &&& 31).toUInt32).toInt32).toUInt32 >>> ((2 : Int32) &&& 31).toUInt32).toInt32).toUInt32 >>> ((1 : Int32) &&& 31).toUInt32).toInt32)))) (fun h => by rw [Bd.returns] at h; cases h)
            refine ⟨_, _, pre0 _ (K48 _ ?_), hrun, hended, _, _, rfl, ?_, ⟨_, rfl⟩, hW, hsame.mono (by decide) (by decide)⟩
            · show Steps p.tables e below (s₁.setTop (mkF m 78 #[.val (.int ((((((((p0.toUInt32 >>> ((16 : Int32) &&& 31).toUInt32).toInt32).toUInt32 >>> ((8 : Int32) &&& 31).toUInt32).toInt32).toUInt32 >>> ((4 : Int32) &&& 31).toUInt32).toInt32).toUInt32 >>> ((2 : Int32) &&& 31).toUInt32).toInt32)), .val (.int (((((31 : Int32) + (-16 : Int32)) + (-8 : Int32)) + (-4 : Int32)) + (-2 : Int32)))] [(.int ((((((31 : Int32) + (-16 : Int32)) + (-8 : Int32)) + (-4 : Int32)) + (-2 : Int32)) - ((((((((((p0.toUInt32 >>> ((16 : Int32) &&& 31).toUInt32).toInt32).toUInt32 >>> ((8 : Int32) &&& 31).toUInt32).toInt32).toUInt32 >>> ((4 : Int32) &&& 31).toUInt32).toInt32).toUInt32 >>> ((2 : Int32) &&& 31).toUInt32).toInt32).toUInt32 >>> ((1 : Int32) &&& 31).toUInt32).toInt32)))])) _
              exact retOut X0 hx Bd.returns rfl (Or.inl ⟨rfl, Or.inl rfl, _, rfl⟩) (hb hby d4_78) hr
            · show Q4 Z p0  h0 _ s₁.heap _
              rw [e0]
              exact ⟨by rw [hv], rfl, rfl⟩
  · skip
    have K49 : ∀ t, Steps p.tables e below (s₁.setTop (mkF m 5 #[.val (.int p0), .unset] [(.int p0)])) t → Steps p.tables e below (s₁.setTop (mkF m 0 #[.val (.int p0), .unset] [])) t := by
      intro t kt
      refine K1 _ ?_
      show Steps p.tables e below (s₁.setTop (mkF m 1 #[.val (.int p0), .unset] [(.int p0)])) _
      refine XS.ifNo X0.here hx rfl (hb hby d4_1) rfl ((if0 _ _).trans (flt hc2).2.2.1) ?_
      show Steps p.tables e below (s₁.setTop (mkF m 4 #[.val (.int p0), .unset] [])) _
      refine XS.iloadN X0.here hx rfl (hb hby d4_4) rfl ?_
      exact kt
    by_cases hc50 : p0 = (0 : Int32)
    · skip
      have K51 : ∀ t, Steps p.tables e below (s₁.setTop (mkF m 14 #[.val (.int p0), .unset] [(.int (32 : Int32))])) t → Steps p.tables e below (s₁.setTop (mkF m 0 #[.val (.int p0), .unset] [])) t := by
        intro t kt
        refine K49 _ ?_
        show Steps p.tables e below (s₁.setTop (mkF m 5 #[.val (.int p0), .unset] [(.int p0)])) _
        refine XS.ifNo X0.here hx rfl (hb hby d4_5) rfl ((if0 _ _).trans (teq hc50).2) ?_
        show Steps p.tables e below (s₁.setTop (mkF m 8 #[.val (.int p0), .unset] [])) _
        refine XS.bipush X0.here hx rfl (hb hby d4_8) ?_
        show Steps p.tables e below (s₁.setTop (mkF m 10 #[.val (.int p0), .unset] [(.int (32 : Int32))])) _
        refine XS.goto X0.here hx rfl (pc0 := 10) (pc' := 14) rfl (hb hby d4_10) (by decide) (by decide) ?_
        exact kt
      have hv : f4 p0 = (32 : Int32) := by simp only [f4, if_neg hc2, if_pos hc50]
      obtain ⟨fs, hr, hrun, hended, hW, hsame⟩ := X0.leave (v := some (.int (32 : Int32))) (fun h => by rw [Bd.returns] at h; cases h)
      refine ⟨_, _, pre0 _ (K51 _ ?_), hrun, hended, _, _, rfl, ?_, ⟨_, rfl⟩, hW, hsame.mono (by decide) (by decide)⟩
      · show Steps p.tables e below (s₁.setTop (mkF m 14 #[.val (.int p0), .unset] [(.int (32 : Int32))])) _
        exact retOut X0 hx Bd.returns rfl (Or.inl ⟨rfl, Or.inl rfl, _, rfl⟩) (hb hby d4_14) hr
      · show Q4 Z p0  h0 _ s₁.heap _
        rw [e0]
        exact ⟨by rw [hv], rfl, rfl⟩
    · skip
      have K52 : ∀ t, Steps p.tables e below (s₁.setTop (mkF m 14 #[.val (.int p0), .unset] [(.int (0 : Int32))])) t → Steps p.tables e below (s₁.setTop (mkF m 0 #[.val (.int p0), .unset] [])) t := by
        intro t kt
        refine K49 _ ?_
        show Steps p.tables e below (s₁.setTop (mkF m 5 #[.val (.int p0), .unset] [(.int p0)])) _
        refine XS.ifYes X0.here hx rfl (pc0 := 5) (pc' := 13) rfl (hb hby d4_5) rfl ((if0 _ _).trans (feq hc50).2) (by decide) (by decide) ?_
        show Steps p.tables e below (s₁.setTop (mkF m 13 #[.val (.int p0), .unset] [])) _
        refine XS.iconst X0.here hx rfl (hb hby d4_13) ?_
        exact kt
      have hv : f4 p0 = (0 : Int32) := by simp only [f4, if_neg hc2, if_neg hc50]
      obtain ⟨fs, hr, hrun, hended, hW, hsame⟩ := X0.leave (v := some (.int (0 : Int32))) (fun h => by rw [Bd.returns] at h; cases h)
      refine ⟨_, _, pre0 _ (K52 _ ?_), hrun, hended, _, _, rfl, ?_, ⟨_, rfl⟩, hW, hsame.mono (by decide) (by decide)⟩
      · show Steps p.tables e below (s₁.setTop (mkF m 14 #[.val (.int p0), .unset] [(.int (0 : Int32))])) _
        exact retOut X0 hx Bd.returns rfl (Or.inl ⟨rfl, Or.inl rfl, _, rfl⟩) (hb hby d4_14) hr
      · show Q4 Z p0  h0 _ s₁.heap _
        rw [e0]
        exact ⟨by rw [hv], rfl, rfl⟩
theorem ef_3 (m : MethodId) (x0 : Int64) : entryFrame m #[(.long x0)] 3 = mkF m 0 #[.val (.long x0), .second, .unset] [] := by first | (simp [entryFrame, mkF, argsToLocals, Value.category]; done) | rfl
theorem pn_2 : plainName "java/lang/Long" = true := by first | (simp [plainName, overriddenIn]; done) | decide +kernel
theorem d3_0 : decode jdk_35_method_48_code 0 = .ok (.lload_n 0, 1) := by decide +kernel
theorem d3_1 : decode jdk_35_method_48_code 1 = .ok (.bipush 32, 2) := by decide +kernel
theorem d3_3 : decode jdk_35_method_48_code 3 = .ok (.lushr, 1) := by decide +kernel
theorem d3_4 : decode jdk_35_method_48_code 4 = .ok (.l2i, 1) := by decide +kernel
theorem d3_5 : decode jdk_35_method_48_code 5 = .ok (.istore_n 2, 1) := by decide +kernel
theorem d3_6 : decode jdk_35_method_48_code 6 = .ok (.iload_n 2, 1) := by decide +kernel
theorem d3_7 : decode jdk_35_method_48_code 7 = .ok (.ifCond .ne 14, 3) := by decide +kernel
theorem d3_10 : decode jdk_35_method_48_code 10 = .ok (.bipush 32, 2) := by decide +kernel
theorem d3_12 : decode jdk_35_method_48_code 12 = .ok (.lload_n 0, 1) := by decide +kernel
theorem d3_13 : decode jdk_35_method_48_code 13 = .ok (.l2i, 1) := by decide +kernel
theorem d3_14 : decode jdk_35_method_48_code 14 = .ok (.invokestatic 308, 3) := by decide +kernel
theorem pd_0 : parseMethodDescriptor "(I)I" = some ⟨[.int], some .int⟩ := by decide +kernel
theorem d3_17 : decode jdk_35_method_48_code 17 = .ok (.iadd, 1) := by decide +kernel
theorem d3_18 : decode jdk_35_method_48_code 18 = .ok (.goto 7, 3) := by decide +kernel
theorem d3_25 : decode jdk_35_method_48_code 25 = .ok (.ireturn, 1) := by decide +kernel
theorem d3_21 : decode jdk_35_method_48_code 21 = .ok (.iload_n 2, 1) := by decide +kernel
theorem d3_22 : decode jdk_35_method_48_code 22 = .ok (.invokestatic 308, 3) := by decide +kernel
def f3 (q0 : Int64) : Int32 := if (((q0.toUInt64 >>> ((32 : Int32) &&& 0x3f).toInt64.toUInt64).toInt64).toInt32) = (0 : Int32) then ((32 : Int32) + (f4 (q0.toInt32)))
  else (f4 (((q0.toUInt64 >>> ((32 : Int32) &&& 0x3f).toInt64.toUInt64).toInt64).toInt32))
def Q3 (Z : State) (q0 : Int64)  (h0 : Heap) (v : Option Value) (h : Heap) (L : List Loc) : Prop := v = some (.int (f3 q0)) ∧ L = [] ∧ h = h0
set_option maxRecDepth 65536 in
set_option maxHeartbeats 40000000 in
theorem rm3 (l : Launch) (Z : State) (a0 : Array Value) (hw : ∀ d ∈ tables_1, d.before a0 Z = true) (ws : List Jvm.Cond) (q0 : Int64)  (h0 : Heap)  :
    MetFree l (⟨"java/lang/Long", "numberOfLeadingZeros", "(J)I"⟩ : MethodName) (head1 (Jvm.Cond.code (⟨"java/lang/Long", "numberOfLeadingZeros", "(J)I"⟩ : MethodName) jdk_35_method_48_code 3 (some .int) :: ws) ({ frames := 1, cells := 0, slots := 0, locals := 14 } : Room)) (fun a U => a = #[(.long q0)] ∧ Z.Warmed39 U.vm ∧ U.heap = h0) (fun _ _ _ _ _ => True) (fun _ U o U' => ∃ v L, o = .returned v ∧ Q3 Z q0  h0 v U'.heap L ∧ FrameEnd U o U' L ({ frames := 1, cells := 0, slots := 0, locals := 14 } : Room).cells ({ frames := 1, cells := 0, slots := 0, locals := 14 } : Room).slots) := by
  refine MetFree.of_bodySF (plainFor_of_name pn_2) hisR ?_
  intro p e s m args below meth c s₁ Bd hml0 hP hK
  obtain ⟨rfl, hZ, hh⟩ := hP
  have hx := Bd.exec
  have hby := Bd.bytes
  have hml : c.maxLocals = 3 := hml0
  have hown : s.vm.findClass "java/lang/Long" = some m.cls := findClass_of_methodNamed Bd.named
  have hnm := (name_of_methodNamed Bd.named Bd.method).1
  have X0 : Stand p l e ({ frames := 1, cells := 0, slots := 0, locals := 14 } : Room) s m #[(.long q0)] below meth c s₁ [] 0 0 := Stand.of_body Bd
  have e0 : s₁.heap = h0 := by rw [← hh, Bd.state]; rfl
  have pre0 : ∀ t, Steps p.tables e below (s₁.setTop (mkF m 0 #[.val (.long q0), .second, .unset] [])) t → Steps p.tables e below (s₁.setTop (entryFrame m #[(.long q0)] 3)) t := fun t k => castTop (ef_3 m q0) k
  have K1 : ∀ t, Steps p.tables e below (s₁.setTop (mkF m 7 #[.val (.long q0), .second, .val (.int (((q0.toUInt64 >>> ((32 : Int32) &&& 0x3f).toInt64.toUInt64).toInt64).toInt32))] [(.int (((q0.toUInt64 >>> ((32 : Int32) &&& 0x3f).toInt64.toUInt64).toInt64).toInt32))])) t → Steps p.tables e below (s₁.setTop (mkF m 0 #[.val (.long q0), .second, .unset] [])) t := by
    intro t kt
    show Steps p.tables e below (s₁.setTop (mkF m 0 #[.val (.long q0), .second, .unset] [])) _
    refine XS.lloadN X0.here hx rfl (hb hby d3_0) rfl ?_
    show Steps p.tables e below (s₁.setTop (mkF m 1 #[.val (.long q0), .second, .unset] [(.long q0)])) _
    refine XS.bipush X0.here hx rfl (hb hby d3_1) ?_
    show Steps p.tables e below (s₁.setTop (mkF m 3 #[.val (.long q0), .second, .unset] [(.int (32 : Int32)), (.long q0)])) _
    refine XS.lushr X0.here hx rfl (hb hby d3_3) rfl ?_
    show Steps p.tables e below (s₁.setTop (mkF m 4 #[.val (.long q0), .second, .unset] [(.long ((q0.toUInt64 >>> ((32 : Int32) &&& 0x3f).toInt64.toUInt64).toInt64))])) _
    refine XS.l2i X0.here hx rfl (hb hby d3_4) rfl ?_
    show Steps p.tables e below (s₁.setTop (mkF m 5 #[.val (.long q0), .second, .unset] [(.int (((q0.toUInt64 >>> ((32 : Int32) &&& 0x3f).toInt64.toUInt64).toInt64).toInt32))])) _
    refine XS.istoreN X0.here hx rfl (hb hby d3_5) rfl (l' := #[.val (.long q0), .second, .val (.int (((q0.toUInt64 >>> ((32 : Int32) &&& 0x3f).toInt64.toUInt64).toInt64).toInt32))]) rfl ?_
    show Steps p.tables e below (s₁.setTop (mkF m 6 #[.val (.long q0), .second, .val (.int (((q0.toUInt64 >>> ((32 : Int32) &&& 0x3f).toInt64.toUInt64).toInt64).toInt32))] [])) _
    refine XS.iloadN X0.here hx rfl (hb hby d3_6) rfl ?_
    exact kt
  by_cases hc2 : (((q0.toUInt64 >>> ((32 : Int32) &&& 0x3f).toInt64.toUInt64).toInt64).toInt32) = (0 : Int32)
  · skip
    obtain ⟨_, _, ⟨T3, L3, k3, n3⟩, -, X3, ⟨Lc3, hQ3, l3, y3, z3⟩, st3⟩ := Jvm.LawKit.callS X0 hx (y := (⟨"java/lang/Integer", "numberOfLeadingZeros", "(I)I"⟩ : MethodName)) hown (mvT hZ (hw _ (List.mem_of_getElem? (i := 14) rfl))) (mvT hZ (hw _ (List.mem_of_getElem? (i := 15) rfl))) (mvT hZ (hw _ (List.mem_of_getElem? (i := 16) rfl))) (mvT hZ (hw _ (List.mem_of_getElem? (i := 17) rfl))) (by decide) (backOf (W := 1) (rm4 l Z a0 hw [] (q0.toInt32)  h0 ) hZ (hw _ (List.mem_of_getElem? (i := 17) rfl)) (hw _ (List.mem_of_getElem? (i := 16) rfl)) (by decide) (by decide)) (g := (mkF m 14 #[.val (.long q0), .second, .val (.int (((q0.toUInt64 >>> ((32 : Int32) &&& 0x3f).toInt64.toUInt64).toInt64).toInt32))] [(.int (q0.toInt32)), (.int (32 : Int32))])) rfl (by rw [hml]; rfl) (argsL := [(.int (q0.toInt32))]) (rest := [(.int (32 : Int32))]) (lenOf pd_0 rfl) rfl (by show 2 * 0 + _ ≤ _; exact Nat.le_of_eq rfl) (hb hby d3_14) (fun _ _ => ⟨rfl, e0, (by decide : 0 + 0 ≤ _), (by decide : 0 + 0 ≤ _)⟩)
    dsimp only [Pt.U, Pt.locs, Pt.cells, Pt.slots] at X3 l3 y3 z3 st3 hQ3
    subst l3 y3 z3
    obtain ⟨rfl, rfl, e3⟩ := hQ3
    try rw [List.append_nil] at X3
    have K4 : ∀ t, Steps p.tables e below (T3.setTop (mkF m 25 #[.val (.long q0), .second, .val (.int (((q0.toUInt64 >>> ((32 : Int32) &&& 0x3f).toInt64.toUInt64).toInt64).toInt32))] [(.int ((32 : Int32) + (f4 (q0.toInt32))))])) t → Steps p.tables e below (s₁.setTop (mkF m 0 #[.val (.long q0), .second, .unset] [])) t := by
      intro t kt
      refine K1 _ ?_
      show Steps p.tables e below (s₁.setTop (mkF m 7 #[.val (.long q0), .second, .val (.int (((q0.toUInt64 >>> ((32 : Int32) &&& 0x3f).toInt64.toUInt64).toInt64).toInt32))] [(.int (((q0.toUInt64 >>> ((32 : Int32) &&& 0x3f).toInt64.toUInt64).toInt64).toInt32))])) _
      refine XS.ifNo X0.here hx rfl (hb hby d3_7) rfl ((if0 _ _).trans (teq hc2).2) ?_
      show Steps p.tables e below (s₁.setTop (mkF m 10 #[.val (.long q0), .second, .val (.int (((q0.toUInt64 >>> ((32 : Int32) &&& 0x3f).toInt64.toUInt64).toInt64).toInt32))] [])) _
      refine XS.bipush X0.here hx rfl (hb hby d3_10) ?_
      show Steps p.tables e below (s₁.setTop (mkF m 12 #[.val (.long q0), .second, .val (.int (((q0.toUInt64 >>> ((32 : Int32) &&& 0x3f).toInt64.toUInt64).toInt64).toInt32))] [(.int (32 : Int32))])) _
      refine XS.lloadN X0.here hx rfl (hb hby d3_12) rfl ?_
      show Steps p.tables e below (s₁.setTop (mkF m 13 #[.val (.long q0), .second, .val (.int (((q0.toUInt64 >>> ((32 : Int32) &&& 0x3f).toInt64.toUInt64).toInt64).toInt32))] [(.long q0), (.int (32 : Int32))])) _
      refine XS.l2i X0.here hx rfl (hb hby d3_13) rfl ?_
      show Steps p.tables e below (s₁.setTop (mkF m 14 #[.val (.long q0), .second, .val (.int (((q0.toUInt64 >>> ((32 : Int32) &&& 0x3f).toInt64.toUInt64).toInt64).toInt32))] [(.int (q0.toInt32)), (.int (32 : Int32))])) _
      refine st3 _ ?_
      show Steps p.tables e below (T3.setTop (mkF m 17 #[.val (.long q0), .second, .val (.int (((q0.toUInt64 >>> ((32 : Int32) &&& 0x3f).toInt64.toUInt64).toInt64).toInt32))] [(.int (f4 (q0.toInt32))), (.int (32 : Int32))])) _
      refine XS.iadd X3.here hx rfl (hb hby d3_17) rfl ?_
      show Steps p.tables e below (T3.setTop (mkF m 18 #[.val (.long q0), .second, .val (.int (((q0.toUInt64 >>> ((32 : Int32) &&& 0x3f).toInt64.toUInt64).toInt64).toInt32))] [(.int ((32 : Int32) + (f4 (q0.toInt32))))])) _
      refine XS.goto X3.here hx rfl (pc0 := 18) (pc' := 25) rfl (hb hby d3_18) (by decide) (by decide) ?_
      exact kt
    have hv : f3 q0 = ((32 : Int32) + (f4 (q0.toInt32))) := by simp only [f3, if_pos hc2]
    obtain ⟨fs, hr, hrun, hended, hW, hsame⟩ := X3.leave (v := some (.int ((32 : Int32) + (f4 (q0.toInt32))))) (fun h => by rw [Bd.returns] at h; cases h)
    refine ⟨_, _, pre0 _ (K4 _ ?_), hrun, hended, _, _, rfl, ?_, ⟨_, rfl⟩, hW, hsame.mono (by decide) (by decide)⟩
    · show Steps p.tables e below (T3.setTop (mkF m 25 #[.val (.long q0), .second, .val (.int (((q0.toUInt64 >>> ((32 : Int32) &&& 0x3f).toInt64.toUInt64).toInt64).toInt32))] [(.int ((32 : Int32) + (f4 (q0.toInt32))))])) _
      exact retOut X3 hx Bd.returns rfl (Or.inl ⟨rfl, Or.inl rfl, _, rfl⟩) (hb hby d3_25) hr
    · show Q3 Z q0  h0 _ T3.heap _
      rw [e3]
      exact ⟨by rw [hv], rfl, rfl⟩
  · skip
    obtain ⟨_, _, ⟨T5, L5, k5, n5⟩, -, X5, ⟨Lc5, hQ5, l5, y5, z5⟩, st5⟩ := Jvm.LawKit.callS X0 hx (y := (⟨"java/lang/Integer", "numberOfLeadingZeros", "(I)I"⟩ : MethodName)) hown (mvT hZ (hw _ (List.mem_of_getElem? (i := 14) rfl))) (mvT hZ (hw _ (List.mem_of_getElem? (i := 15) rfl))) (mvT hZ (hw _ (List.mem_of_getElem? (i := 16) rfl))) (mvT hZ (hw _ (List.mem_of_getElem? (i := 17) rfl))) (by decide) (backOf (W := 0) (rm4 l Z a0 hw [] (((q0.toUInt64 >>> ((32 : Int32) &&& 0x3f).toInt64.toUInt64).toInt64).toInt32)  h0 ) hZ (hw _ (List.mem_of_getElem? (i := 17) rfl)) (hw _ (List.mem_of_getElem? (i := 16) rfl)) (by decide) (by decide)) (g := (mkF m 22 #[.val (.long q0), .second, .val (.int (((q0.toUInt64 >>> ((32 : Int32) &&& 0x3f).toInt64.toUInt64).toInt64).toInt32))] [(.int (((q0.toUInt64 >>> ((32 : Int32) &&& 0x3f).toInt64.toUInt64).toInt64).toInt32))])) rfl (by rw [hml]; rfl) (argsL := [(.int (((q0.toUInt64 >>> ((32 : Int32) &&& 0x3f).toInt64.toUInt64).toInt64).toInt32))]) (rest := []) (lenOf pd_0 rfl) rfl (by show 2 * 0 + _ ≤ _; exact Nat.le_of_eq rfl) (hb hby d3_22) (fun _ _ => ⟨rfl, e0, (by decide : 0 + 0 ≤ _), (by decide : 0 + 0 ≤ _)⟩)
    dsimp only [Pt.U, Pt.locs, Pt.cells, Pt.slots] at X5 l5 y5 z5 st5 hQ5
    subst l5 y5 z5
    obtain ⟨rfl, rfl, e5⟩ := hQ5
    try rw [List.append_nil] at X5
    have K6 : ∀ t, Steps p.tables e below (T5.setTop (mkF m 25 #[.val (.long q0), .second, .val (.int (((q0.toUInt64 >>> ((32 : Int32) &&& 0x3f).toInt64.toUInt64).toInt64).toInt32))] [(.int (f4 (((q0.toUInt64 >>> ((32 : Int32) &&& 0x3f).toInt64.toUInt64).toInt64).toInt32)))])) t → Steps p.tables e below (s₁.setTop (mkF m 0 #[.val (.long q0), .second, .unset] [])) t := by
      intro t kt
      refine K1 _ ?_
      show Steps p.tables e below (s₁.setTop (mkF m 7 #[.val (.long q0), .second, .val (.int (((q0.toUInt64 >>> ((32 : Int32) &&& 0x3f).toInt64.toUInt64).toInt64).toInt32))] [(.int (((q0.toUInt64 >>> ((32 : Int32) &&& 0x3f).toInt64.toUInt64).toInt64).toInt32))])) _
      refine XS.ifYes X0.here hx rfl (pc0 := 7) (pc' := 21) rfl (hb hby d3_7) rfl ((if0 _ _).trans (feq hc2).2) (by decide) (by decide) ?_
      show Steps p.tables e below (s₁.setTop (mkF m 21 #[.val (.long q0), .second, .val (.int (((q0.toUInt64 >>> ((32 : Int32) &&& 0x3f).toInt64.toUInt64).toInt64).toInt32))] [])) _
      refine XS.iloadN X0.here hx rfl (hb hby d3_21) rfl ?_
      show Steps p.tables e below (s₁.setTop (mkF m 22 #[.val (.long q0), .second, .val (.int (((q0.toUInt64 >>> ((32 : Int32) &&& 0x3f).toInt64.toUInt64).toInt64).toInt32))] [(.int (((q0.toUInt64 >>> ((32 : Int32) &&& 0x3f).toInt64.toUInt64).toInt64).toInt32))])) _
      refine st5 _ ?_
      exact kt
    have hv : f3 q0 = (f4 (((q0.toUInt64 >>> ((32 : Int32) &&& 0x3f).toInt64.toUInt64).toInt64).toInt32)) := by simp only [f3, if_neg hc2]
    obtain ⟨fs, hr, hrun, hended, hW, hsame⟩ := X5.leave (v := some (.int (f4 (((q0.toUInt64 >>> ((32 : Int32) &&& 0x3f).toInt64.toUInt64).toInt64).toInt32)))) (fun h => by rw [Bd.returns] at h; cases h)
    refine ⟨_, _, pre0 _ (K6 _ ?_), hrun, hended, _, _, rfl, ?_, ⟨_, rfl⟩, hW, hsame.mono (by decide) (by decide)⟩
    · show Steps p.tables e below (T5.setTop (mkF m 25 #[.val (.long q0), .second, .val (.int (((q0.toUInt64 >>> ((32 : Int32) &&& 0x3f).toInt64.toUInt64).toInt64).toInt32))] [(.int (f4 (((q0.toUInt64 >>> ((32 : Int32) &&& 0x3f).toInt64.toUInt64).toInt64).toInt32)))])) _
      exact retOut X5 hx Bd.returns rfl (Or.inl ⟨rfl, Or.inl rfl, _, rfl⟩) (hb hby d3_25) hr
    · show Q3 Z q0  h0 _ T5.heap _
      rw [e5]
      exact ⟨by rw [hv], rfl, rfl⟩
theorem ef_2 (m : MethodId) (x0 : Int64) : entryFrame m #[(.long x0)] 4 = mkF m 0 #[.val (.long x0), .second, .unset, .unset] [] := by first | (simp [entryFrame, mkF, argsToLocals, Value.category]; done) | rfl
theorem d2_0 : decode prog_11_method_6_code 0 = .ok (.lload_n 0, 1) := by decide +kernel
theorem d2_1 : decode prog_11_method_6_code 1 = .ok (.l2i, 1) := by decide +kernel
theorem d2_2 : decode prog_11_method_6_code 2 = .ok (.istore_n 2, 1) := by decide +kernel
theorem d2_3 : decode prog_11_method_6_code 3 = .ok (.lload_n 0, 1) := by decide +kernel
theorem d2_4 : decode prog_11_method_6_code 4 = .ok (.ldc2_w 98, 3) := by decide +kernel
theorem d2_7 : decode prog_11_method_6_code 7 = .ok (.lcmp, 1) := by decide +kernel
theorem d2_8 : decode prog_11_method_6_code 8 = .ok (.ifCond .lt 25, 3) := by decide +kernel
theorem d2_33 : decode prog_11_method_6_code 33 = .ok (.iload_n 2, 1) := by decide +kernel
theorem d2_34 : decode prog_11_method_6_code 34 = .ok (.ireturn, 1) := by decide +kernel
theorem d2_11 : decode prog_11_method_6_code 11 = .ok (.bipush 63, 2) := by decide +kernel
theorem d2_13 : decode prog_11_method_6_code 13 = .ok (.lload_n 0, 1) := by decide +kernel
theorem d2_14 : decode prog_11_method_6_code 14 = .ok (.invokestatic 100, 3) := by decide +kernel
theorem pd_1 : parseMethodDescriptor "(J)I" = some ⟨[.long], some .int⟩ := by decide +kernel
theorem d2_17 : decode prog_11_method_6_code 17 = .ok (.isub, 1) := by decide +kernel
theorem d2_18 : decode prog_11_method_6_code 18 = .ok (.bipush 7, 2) := by decide +kernel
theorem d2_20 : decode prog_11_method_6_code 20 = .ok (.isub, 1) := by decide +kernel
theorem d2_21 : decode prog_11_method_6_code 21 = .ok (.istore_n 3, 1) := by decide +kernel
def bs (q0 : Int64) : Int32 := (((63 : Int32) - (f3 q0)) - (7 : Int32))
theorem d2_22 : decode prog_11_method_6_code 22 = .ok (.iload_n 3, 1) := by decide +kernel
theorem d2_23 : decode prog_11_method_6_code 23 = .ok (.sipush 128, 3) := by decide +kernel
theorem d2_26 : decode prog_11_method_6_code 26 = .ok (.imul, 1) := by decide +kernel
theorem d2_27 : decode prog_11_method_6_code 27 = .ok (.lload_n 0, 1) := by decide +kernel
theorem d2_28 : decode prog_11_method_6_code 28 = .ok (.iload_n 3, 1) := by decide +kernel
theorem d2_29 : decode prog_11_method_6_code 29 = .ok (.lushr, 1) := by decide +kernel
theorem d2_30 : decode prog_11_method_6_code 30 = .ok (.l2i, 1) := by decide +kernel
theorem d2_31 : decode prog_11_method_6_code 31 = .ok (.iadd, 1) := by decide +kernel
theorem d2_32 : decode prog_11_method_6_code 32 = .ok (.istore_n 2, 1) := by decide +kernel
def f2 (q0 : Int64) : Int32 := if q0 < (256 : Int64) then (q0.toInt32)
  else (((bs q0) * (128 : Int32)) + (((q0.toUInt64 >>> ((bs q0) &&& 0x3f).toInt64.toUInt64).toInt64).toInt32))
def Q2 (Z : State) (q0 : Int64)  (h0 : Heap) (v : Option Value) (h : Heap) (L : List Loc) : Prop := v = some (.int (f2 q0)) ∧ L = [] ∧ h = h0
set_option maxRecDepth 65536 in
set_option maxHeartbeats 40000000 in
theorem rm2 (l : Launch) (Z : State) (a0 : Array Value) (hw : ∀ d ∈ tables_1, d.before a0 Z = true) (ws : List Jvm.Cond) (q0 : Int64)  (h0 : Heap)  :
    MetFree l (⟨"com/example/bounded_load/boundedload/client/AnswerTimes", "bucket", "(J)I"⟩ : MethodName) (head1 (Jvm.Cond.code (⟨"com/example/bounded_load/boundedload/client/AnswerTimes", "bucket", "(J)I"⟩ : MethodName) prog_11_method_6_code 4 (some .int) :: ws) ({ frames := 2, cells := 0, slots := 0, locals := 29 } : Room)) (fun a U => a = #[(.long q0)] ∧ Z.Warmed39 U.vm ∧ U.heap = h0) (fun _ _ _ _ _ => True) (fun _ U o U' => ∃ v L, o = .returned v ∧ Q2 Z q0  h0 v U'.heap L ∧ FrameEnd U o U' L ({ frames := 2, cells := 0, slots := 0, locals := 29 } : Room).cells ({ frames := 2, cells := 0, slots := 0, locals := 29 } : Room).slots) := by
  refine MetFree.of_bodySF (plainFor_of_name pn_0) hisR ?_
  intro p e s m args below meth c s₁ Bd hml0 hP hK
  obtain ⟨rfl, hZ, hh⟩ := hP
  have hx := Bd.exec
  have hby := Bd.bytes
  have hml : c.maxLocals = 4 := hml0
  have hown : s.vm.findClass "com/example/bounded_load/boundedload/client/AnswerTimes" = some m.cls := findClass_of_methodNamed Bd.named
  have hnm := (name_of_methodNamed Bd.named Bd.method).1
  have X0 : Stand p l e ({ frames := 2, cells := 0, slots := 0, locals := 29 } : Room) s m #[(.long q0)] below meth c s₁ [] 0 0 := Stand.of_body Bd
  have e0 : s₁.heap = h0 := by rw [← hh, Bd.state]; rfl
  have pre0 : ∀ t, Steps p.tables e below (s₁.setTop (mkF m 0 #[.val (.long q0), .second, .unset, .unset] [])) t → Steps p.tables e below (s₁.setTop (entryFrame m #[(.long q0)] 4)) t := fun t k => castTop (ef_2 m q0) k
  have K1 : ∀ t, Steps p.tables e below (s₁.setTop (mkF m 8 #[.val (.long q0), .second, .val (.int (q0.toInt32)), .unset] [(.int (lcmpW q0 (256 : Int64)))])) t → Steps p.tables e below (s₁.setTop (mkF m 0 #[.val (.long q0), .second, .unset, .unset] [])) t := by
    intro t kt
    show Steps p.tables e below (s₁.setTop (mkF m 0 #[.val (.long q0), .second, .unset, .unset] [])) _
    refine XS.lloadN X0.here hx rfl (hb hby d2_0) rfl ?_
    show Steps p.tables e below (s₁.setTop (mkF m 1 #[.val (.long q0), .second, .unset, .unset] [(.long q0)])) _
    refine XS.l2i X0.here hx rfl (hb hby d2_1) rfl ?_
    show Steps p.tables e below (s₁.setTop (mkF m 2 #[.val (.long q0), .second, .unset, .unset] [(.int (q0.toInt32))])) _
    refine XS.istoreN X0.here hx rfl (hb hby d2_2) rfl (l' := #[.val (.long q0), .second, .val (.int (q0.toInt32)), .unset]) rfl ?_
    show Steps p.tables e below (s₁.setTop (mkF m 3 #[.val (.long q0), .second, .val (.int (q0.toInt32)), .unset] [])) _
    refine XS.lloadN X0.here hx rfl (hb hby d2_3) rfl ?_
    show Steps p.tables e below (s₁.setTop (mkF m 4 #[.val (.long q0), .second, .val (.int (q0.toInt32)), .unset] [(.long q0)])) _
    refine X0.ldc2Long hx hown (mvT hZ (hw _ (List.mem_of_getElem? (i := 8) rfl))) (g := (mkF m 4 #[.val (.long q0), .second, .val (.int (q0.toInt32)), .unset] [(.long q0)])) rfl (hb hby d2_4) _ ?_
    show Steps p.tables e below (s₁.setTop (mkF m 7 #[.val (.long q0), .second, .val (.int (q0.toInt32)), .unset] [(.long (256 : Int64)), (.long q0)])) _
    refine XS.lcmp X0.here hx rfl (hb hby d2_7) rfl ?_
    exact kt
  by_cases hc2 : q0 < (256 : Int64)
  · skip
    have K3 : ∀ t, Steps p.tables e below (s₁.setTop (mkF m 34 #[.val (.long q0), .second, .val (.int (q0.toInt32)), .unset] [(.int (q0.toInt32))])) t → Steps p.tables e below (s₁.setTop (mkF m 0 #[.val (.long q0), .second, .unset, .unset] [])) t := by
      intro t kt
      refine K1 _ ?_
      show Steps p.tables e below (s₁.setTop (mkF m 8 #[.val (.long q0), .second, .val (.int (q0.toInt32)), .unset] [(.int (lcmpW q0 (256 : Int64)))])) _
      refine XS.ifYes X0.here hx rfl (pc0 := 8) (pc' := 33) rfl (hb hby d2_8) rfl ((if0 _ _).trans (tlt ((lw_lt _ _).mpr hc2)).1) (by decide) (by decide) ?_
      show Steps p.tables e below (s₁.setTop (mkF m 33 #[.val (.long q0), .second, .val (.int (q0.toInt32)), .unset] [])) _
      refine XS.iloadN X0.here hx rfl (hb hby d2_33) rfl ?_
      exact kt
    have hv : f2 q0 = (q0.toInt32) := by simp only [f2, if_pos hc2]
    obtain ⟨fs, hr, hrun, hended, hW, hsame⟩ := X0.leave (v := some (.int (q0.toInt32))) (fun h => by rw [Bd.returns] at h; cases h)
    refine ⟨_, _, pre0 _ (K3 _ ?_), hrun, hended, _, _, rfl, ?_, ⟨_, rfl⟩, hW, hsame.mono (by decide) (by decide)⟩
    · show Steps p.tables e below (s₁.setTop (mkF m 34 #[.val (.long q0), .second, .val (.int (q0.toInt32)), .unset] [(.int (q0.toInt32))])) _
      exact retOut X0 hx Bd.returns rfl (Or.inl ⟨rfl, Or.inl rfl, _, rfl⟩) (hb hby d2_34) hr
    · show Q2 Z q0  h0 _ s₁.heap _
      rw [e0]
      exact ⟨by rw [hv], rfl, rfl⟩
  · skip
    obtain ⟨_, _, ⟨T4, L4, k4, n4⟩, -, X4, ⟨Lc4, hQ4, l4, y4, z4⟩, st4⟩ := Jvm.LawKit.callS X0 hx (y := (⟨"java/lang/Long", "numberOfLeadingZeros", "(J)I"⟩ : MethodName)) hown (mvT hZ (hw _ (List.mem_of_getElem? (i := 10) rfl))) (mvT hZ (hw _ (List.mem_of_getElem? (i := 11) rfl))) (mvT hZ (hw _ (List.mem_of_getElem? (i := 12) rfl))) (mvT hZ (hw _ (List.mem_of_getElem? (i := 13) rfl))) (by decide) (backOf (W := 1) (rm3 l Z a0 hw [] q0  h0 ) hZ (hw _ (List.mem_of_getElem? (i := 13) rfl)) (hw _ (List.mem_of_getElem? (i := 12) rfl)) (by decide) (by decide)) (g := (mkF m 14 #[.val (.long q0), .second, .val (.int (q0.toInt32)), .unset] [(.long q0), (.int (63 : Int32))])) rfl (by rw [hml]; rfl) (argsL := [(.long q0)]) (rest := [(.int (63 : Int32))]) (lenOf pd_1 rfl) rfl (by show 2 * 0 + _ ≤ _; exact Nat.le_of_eq rfl) (hb hby d2_14) (fun _ _ => ⟨rfl, e0, (by decide : 0 + 0 ≤ _), (by decide : 0 + 0 ≤ _)⟩)
    dsimp only [Pt.U, Pt.locs, Pt.cells, Pt.slots] at X4 l4 y4 z4 st4 hQ4
    subst l4 y4 z4
    obtain ⟨rfl, rfl, e4⟩ := hQ4
    try rw [List.append_nil] at X4
    have K5 : ∀ t, Steps p.tables e below (T4.setTop (mkF m 34 #[.val (.long q0), .second, .val (.int (((bs q0) * (128 : Int32)) + (((q0.toUInt64 >>> ((bs q0) &&& 0x3f).toInt64.toUInt64).toInt64).toInt32))), .val (.int (bs q0))] [(.int (((bs q0) * (128 : Int32)) + (((q0.toUInt64 >>> ((bs q0) &&& 0x3f).toInt64.toUInt64).toInt64).toInt32)))])) t → Steps p.tables e below (s₁.setTop (mkF m 0 #[.val (.long q0), .second, .unset, .unset] [])) t := by
      intro t kt
      refine K1 _ ?_
      show Steps p.tables e below (s₁.setTop (mkF m 8 #[.val (.long q0), .second, .val (.int (q0.toInt32)), .unset] [(.int (lcmpW q0 (256 : Int64)))])) _
      refine XS.ifNo X0.here hx rfl (hb hby d2_8) rfl ((if0 _ _).trans (flt (mt (lw_lt _ _).mp hc2)).1) ?_
      show Steps p.tables e below (s₁.setTop (mkF m 11 #[.val (.long q0), .second, .val (.int (q0.toInt32)), .unset] [])) _
      refine XS.bipush X0.here hx rfl (hb hby d2_11) ?_
      show Steps p.tables e below (s₁.setTop (mkF m 13 #[.val (.long q0), .second, .val (.int (q0.toInt32)), .unset] [(.int (63 : Int32))])) _
      refine XS.lloadN X0.here hx rfl (hb hby d2_13) rfl ?_
      show Steps p.tables e below (s₁.setTop (mkF m 14 #[.val (.long q0), .second, .val (.int (q0.toInt32)), .unset] [(.long q0), (.int (63 : Int32))])) _
      refine st4 _ ?_
      show Steps p.tables e below (T4.setTop (mkF m 17 #[.val (.long q0), .second, .val (.int (q0.toInt32)), .unset] [(.int (f3 q0)), (.int (63 : Int32))])) _
      refine XS.isub X4.here hx rfl (hb hby d2_17) rfl ?_
      show Steps p.tables e below (T4.setTop (mkF m 18 #[.val (.long q0), .second, .val (.int (q0.toInt32)), .unset] [(.int ((63 : Int32) - (f3 q0)))])) _
      refine XS.bipush X4.here hx rfl (hb hby d2_18) ?_
      show Steps p.tables e below (T4.setTop (mkF m 20 #[.val (.long q0), .second, .val (.int (q0.toInt32)), .unset] [(.int (7 : Int32)), (.int ((63 : Int32) - (f3 q0)))])) _
      refine XS.isub X4.here hx rfl (hb hby d2_20) rfl ?_
      show Steps p.tables e below (T4.setTop (mkF m 21 #[.val (.long q0), .second, .val (.int (q0.toInt32)), .unset] [(.int (((63 : Int32) - (f3 q0)) - (7 : Int32)))])) _
      refine XS.istoreN X4.here hx rfl (hb hby d2_21) rfl (l' := #[.val (.long q0), .second, .val (.int (q0.toInt32)), .val (.int (bs q0))]) rfl ?_
      show Steps p.tables e below (T4.setTop (mkF m 22 #[.val (.long q0), .second, .val (.int (q0.toInt32)), .val (.int (bs q0))] [])) _
      refine XS.iloadN X4.here hx rfl (hb hby d2_22) rfl ?_
      show Steps p.tables e below (T4.setTop (mkF m 23 #[.val (.long q0), .second, .val (.int (q0.toInt32)), .val (.int (bs q0))] [(.int (bs q0))])) _
      refine XS.sipush X4.here hx rfl (hb hby d2_23) ?_
      show Steps p.tables e below (T4.setTop (mkF m 26 #[.val (.long q0), .second, .val (.int (q0.toInt32)), .val (.int (bs q0))] [(.int (128 : Int32)), (.int (bs q0))])) _
      refine XS.imul X4.here hx rfl (hb hby d2_26) rfl ?_
      show Steps p.tables e below (T4.setTop (mkF m 27 #[.val (.long q0), .second, .val (.int (q0.toInt32)), .val (.int (bs q0))] [(.int ((bs q0) * (128 : Int32)))])) _
      refine XS.lloadN X4.here hx rfl (hb hby d2_27) rfl ?_
      show Steps p.tables e below (T4.setTop (mkF m 28 #[.val (.long q0), .second, .val (.int (q0.toInt32)), .val (.int (bs q0))] [(.long q0), (.int ((bs q0) * (128 : Int32)))])) _
      refine XS.iloadN X4.here hx rfl (hb hby d2_28) rfl ?_
      show Steps p.tables e below (T4.setTop (mkF m 29 #[.val (.long q0), .second, .val (.int (q0.toInt32)), .val (.int (bs q0))] [(.int (bs q0)), (.long q0), (.int ((bs q0) * (128 : Int32)))])) _
      refine XS.lushr X4.here hx rfl (hb hby d2_29) rfl ?_
      show Steps p.tables e below (T4.setTop (mkF m 30 #[.val (.long q0), .second, .val (.int (q0.toInt32)), .val (.int (bs q0))] [(.long ((q0.toUInt64 >>> ((bs q0) &&& 0x3f).toInt64.toUInt64).toInt64)), (.int ((bs q0) * (128 : Int32)))])) _
      refine XS.l2i X4.here hx rfl (hb hby d2_30) rfl ?_
      show Steps p.tables e below (T4.setTop (mkF m 31 #[.val (.long q0), .second, .val (.int (q0.toInt32)), .val (.int (bs q0))] [(.int (((q0.toUInt64 >>> ((bs q0) &&& 0x3f).toInt64.toUInt64).toInt64).toInt32)), (.int ((bs q0) * (128 : Int32)))])) _
      refine XS.iadd X4.here hx rfl (hb hby d2_31) rfl ?_
      show Steps p.tables e below (T4.setTop (mkF m 32 #[.val (.long q0), .second, .val (.int (q0.toInt32)), .val (.int (bs q0))] [(.int (((bs q0) * (128 : Int32)) + (((q0.toUInt64 >>> ((bs q0) &&& 0x3f).toInt64.toUInt64).toInt64).toInt32)))])) _
      refine XS.istoreN X4.here hx rfl (hb hby d2_32) rfl (l' := #[.val (.long q0), .second, .val (.int (((bs q0) * (128 : Int32)) + (((q0.toUInt64 >>> ((bs q0) &&& 0x3f).toInt64.toUInt64).toInt64).toInt32))), .val (.int (bs q0))]) rfl ?_
      show Steps p.tables e below (T4.setTop (mkF m 33 #[.val (.long q0), .second, .val (.int (((bs q0) * (128 : Int32)) + (((q0.toUInt64 >>> ((bs q0) &&& 0x3f).toInt64.toUInt64).toInt64).toInt32))), .val (.int (bs q0))] [])) _
      refine XS.iloadN X4.here hx rfl (hb hby d2_33) rfl ?_
      exact kt
    have hv : f2 q0 = (((bs q0) * (128 : Int32)) + (((q0.toUInt64 >>> ((bs q0) &&& 0x3f).toInt64.toUInt64).toInt64).toInt32)) := by simp only [f2, if_neg hc2]
    obtain ⟨fs, hr, hrun, hended, hW, hsame⟩ := X4.leave (v := some (.int (((bs q0) * (128 : Int32)) + (((q0.toUInt64 >>> ((bs q0) &&& 0x3f).toInt64.toUInt64).toInt64).toInt32)))) (fun h => by rw [Bd.returns] at h; cases h)
    refine ⟨_, _, pre0 _ (K5 _ ?_), hrun, hended, _, _, rfl, ?_, ⟨_, rfl⟩, hW, hsame.mono (by decide) (by decide)⟩
    · show Steps p.tables e below (T4.setTop (mkF m 34 #[.val (.long q0), .second, .val (.int (((bs q0) * (128 : Int32)) + (((q0.toUInt64 >>> ((bs q0) &&& 0x3f).toInt64.toUInt64).toInt64).toInt32))), .val (.int (bs q0))] [(.int (((bs q0) * (128 : Int32)) + (((q0.toUInt64 >>> ((bs q0) &&& 0x3f).toInt64.toUInt64).toInt64).toInt32)))])) _
      exact retOut X4 hx Bd.returns rfl (Or.inl ⟨rfl, Or.inl rfl, _, rfl⟩) (hb hby d2_34) hr
    · show Q2 Z q0  h0 _ T4.heap _
      rw [e4]
      exact ⟨by rw [hv], rfl, rfl⟩
theorem ef_0 (m : MethodId) (x0 : Int32) : entryFrame m #[(.int x0)] maxLocals = mkF m 0 #[.val (.int x0), .unset, .unset, .unset] [] := by first | (simp [entryFrame, mkF, argsToLocals, Value.category, maxLocals]; done) | rfl
theorem pn_3 : plainName "com/example/bounded_load/boundedload/client/AnswerTimesHighestPinLaw" = true := by first | (simp [plainName, overriddenIn]; done) | decide +kernel
def gb (p0 : Int32) : Int32 := ((p0 &&& (2147483647 : Int32)) % (7296 : Int32))
theorem pd_2 : parseMethodDescriptor "(I)J" = some ⟨[.int], some .long⟩ := by decide +kernel
def gh (p0 : Int32) : Int64 := (f1 (gb p0))
def f0 (p0 : Int32) : Int32 := if (gh p0) < (0 : Int64) then (0 : Int32)
  else if (gb p0) < (256 : Int32) then (if (gh p0) = ((gb p0).toInt64) then (if (f2 (gh p0)) = (gb p0) then (if (gh p0) = (9223372036854775807 : Int64) then (if (gb p0) = (7295 : Int32) then (1 : Int32)
          else (0 : Int32))
        else if (f2 ((gh p0) + (1 : Int64))) = ((gb p0) + (1 : Int32)) then (1 : Int32)
        else (0 : Int32))
      else (0 : Int32))
    else (0 : Int32))
  else if (f2 (gh p0)) = (gb p0) then (if (gh p0) = (9223372036854775807 : Int64) then (if (gb p0) = (7295 : Int32) then (1 : Int32)
      else (0 : Int32))
    else if (f2 ((gh p0) + (1 : Int64))) = ((gb p0) + (1 : Int32)) then (1 : Int32)
    else (0 : Int32))
  else (0 : Int32)
def Q0 (Z : State) (p0 : Int32)  (h0 : Heap) (v : Option Value) (h : Heap) (L : List Loc) : Prop := v = some (.int (f0 p0)) ∧ L = [] ∧ h = h0
set_option maxRecDepth 65536 in
set_option maxHeartbeats 40000000 in
theorem rm0 (l : Launch) (Z : State) (a0 : Array Value) (hw : ∀ d ∈ tables_1, d.before a0 Z = true) (ws : List Jvm.Cond) (p0 : Int32)  (h0 : Heap)  :
    MetFree l x (head1 (Jvm.Cond.code x code maxLocals ret :: ws) room_1) (fun a U => a = #[(.int p0)] ∧ Z.Warmed39 U.vm ∧ U.heap = h0) (fun _ _ _ _ _ => True) (fun _ U o U' => ∃ v L, o = .returned v ∧ Q0 Z p0  h0 v U'.heap L ∧ FrameEnd U o U' L room_1.cells room_1.slots) := by
  refine MetFree.of_bodySF (plainFor_of_name pn_3) hisR ?_
  intro p e s m args below meth c s₁ Bd hml0 hP hK
  obtain ⟨rfl, hZ, hh⟩ := hP
  have hx := Bd.exec
  have hby := Bd.bytes
  have hml : c.maxLocals = 4 := hml0
  have hown : s.vm.findClass "com/example/bounded_load/boundedload/client/AnswerTimesHighestPinLaw" = some m.cls := findClass_of_methodNamed Bd.named
  have hnm := (name_of_methodNamed Bd.named Bd.method).1
  have X0 : Stand p l e room_1 s m #[(.int p0)] below meth c s₁ [] 0 0 := Stand.of_body Bd
  have e0 : s₁.heap = h0 := by rw [← hh, Bd.state]; rfl
  have pre0 : ∀ t, Steps p.tables e below (s₁.setTop (mkF m 0 #[.val (.int p0), .unset, .unset, .unset] [])) t → Steps p.tables e below (s₁.setTop (entryFrame m #[(.int p0)] maxLocals)) t := fun t k => castTop (ef_0 m p0) k
  obtain ⟨_, _, ⟨T1, L1, k1, n1⟩, -, X1, ⟨Lc1, hQ1, l1, y1, z1⟩, st1⟩ := Jvm.LawKit.callS X0 hx (y := (⟨"com/example/bounded_load/boundedload/client/AnswerTimes", "highest", "(I)J"⟩ : MethodName)) hown (mvT hZ (hw _ (List.mem_of_getElem? (i := 1) rfl))) (mvT hZ (hw _ (List.mem_of_getElem? (i := 2) rfl))) (mvT hZ (hw _ (List.mem_of_getElem? (i := 3) rfl))) (mvT hZ (hw _ (List.mem_of_getElem? (i := 4) rfl))) (by decide) (backOf (W := 0) (rm1 l Z a0 hw [] (gb p0)  h0 ) hZ (hw _ (List.mem_of_getElem? (i := 4) rfl)) (hw _ (List.mem_of_getElem? (i := 3) rfl)) (by decide) (by decide)) (g := (mkF m 10 #[.val (.int p0), .val (.int (gb p0)), .unset, .unset] [(.int (gb p0))])) rfl (by rw [hml]; rfl) (argsL := [(.int (gb p0))]) (rest := []) (lenOf pd_2 rfl) rfl (by show 2 * 0 + _ ≤ _; exact Nat.le_of_eq rfl) (hb hby at_10) (fun _ _ => ⟨rfl, e0, (by decide : 0 + 0 ≤ _), (by decide : 0 + 0 ≤ _)⟩)
  dsimp only [Pt.U, Pt.locs, Pt.cells, Pt.slots] at X1 l1 y1 z1 st1 hQ1
  subst l1 y1 z1
  obtain ⟨rfl, rfl, e1⟩ := hQ1
  try rw [List.append_nil] at X1
  have K2 : ∀ t, Steps p.tables e below (T1.setTop (mkF m 17 #[.val (.int p0), .val (.int (gb p0)), .val (.long (gh p0)), .second] [(.int (lcmpW (gh p0) (0 : Int64)))])) t → Steps p.tables e below (s₁.setTop (mkF m 0 #[.val (.int p0), .unset, .unset, .unset] [])) t := by
    intro t kt
    show Steps p.tables e below (s₁.setTop (mkF m 0 #[.val (.int p0), .unset, .unset, .unset] [])) _
    refine XS.iloadN X0.here hx rfl (hb hby at_0) rfl ?_
    show Steps p.tables e below (s₁.setTop (mkF m 1 #[.val (.int p0), .unset, .unset, .unset] [(.int p0)])) _
    refine X0.ldcInt hx hown (mvT hZ (hw _ (List.mem_of_getElem? (i := 0) rfl))) (g := (mkF m 1 #[.val (.int p0), .unset, .unset, .unset] [(.int p0)])) rfl (hb hby at_1) _ ?_
    show Steps p.tables e below (s₁.setTop (mkF m 3 #[.val (.int p0), .unset, .unset, .unset] [(.int (2147483647 : Int32)), (.int p0)])) _
    refine XS.iand X0.here hx rfl (hb hby at_3) rfl ?_
    show Steps p.tables e below (s₁.setTop (mkF m 4 #[.val (.int p0), .unset, .unset, .unset] [(.int (p0 &&& (2147483647 : Int32)))])) _
    refine XS.sipush X0.here hx rfl (hb hby at_4) ?_
    show Steps p.tables e below (s₁.setTop (mkF m 7 #[.val (.int p0), .unset, .unset, .unset] [(.int (7296 : Int32)), (.int (p0 &&& (2147483647 : Int32)))])) _
    refine iremM X0 hx rfl (hb hby at_7) rfl (by decide) ?_
    show Steps p.tables e below (s₁.setTop (mkF m 8 #[.val (.int p0), .unset, .unset, .unset] [(.int ((p0 &&& (2147483647 : Int32)) % (7296 : Int32)))])) _
    refine XS.istoreN X0.here hx rfl (hb hby at_8) rfl (l' := #[.val (.int p0), .val (.int (gb p0)), .unset, .unset]) rfl ?_
    show Steps p.tables e below (s₁.setTop (mkF m 9 #[.val (.int p0), .val (.int (gb p0)), .unset, .unset] [])) _
    refine XS.iloadN X0.here hx rfl (hb hby at_9) rfl ?_
    show Steps p.tables e below (s₁.setTop (mkF m 10 #[.val (.int p0), .val (.int (gb p0)), .unset, .unset] [(.int (gb p0))])) _
    refine st1 _ ?_
    show Steps p.tables e below (T1.setTop (mkF m 13 #[.val (.int p0), .val (.int (gb p0)), .unset, .unset] [(.long (f1 (gb p0)))])) _
    refine XS.lstoreN X1.here hx rfl (hb hby at_13) rfl (l' := #[.val (.int p0), .val (.int (gb p0)), .val (.long (gh p0)), .second]) rfl ?_
    show Steps p.tables e below (T1.setTop (mkF m 14 #[.val (.int p0), .val (.int (gb p0)), .val (.long (gh p0)), .second] [])) _
    refine XS.lloadN X1.here hx rfl (hb hby at_14) rfl ?_
    show Steps p.tables e below (T1.setTop (mkF m 15 #[.val (.int p0), .val (.int (gb p0)), .val (.long (gh p0)), .second] [(.long (gh p0))])) _
    refine XS.lconst X1.here hx rfl (hb hby at_15) ?_
    show Steps p.tables e below (T1.setTop (mkF m 16 #[.val (.int p0), .val (.int (gb p0)), .val (.long (gh p0)), .second] [(.long (0 : Int64)), (.long (gh p0))])) _
    refine XS.lcmp X1.here hx rfl (hb hby at_16) rfl ?_
    exact kt
  by_cases hc3 : (gh p0) < (0 : Int64)
  · skip
    have K4 : ∀ t, Steps p.tables e below (T1.setTop (mkF m 21 #[.val (.int p0), .val (.int (gb p0)), .val (.long (gh p0)), .second] [(.int (0 : Int32))])) t → Steps p.tables e below (s₁.setTop (mkF m 0 #[.val (.int p0), .unset, .unset, .unset] [])) t := by
      intro t kt
      refine K2 _ ?_
      show Steps p.tables e below (T1.setTop (mkF m 17 #[.val (.int p0), .val (.int (gb p0)), .val (.long (gh p0)), .second] [(.int (lcmpW (gh p0) (0 : Int64)))])) _
      refine XS.ifNo X1.here hx rfl (hb hby at_17) rfl ((if0 _ _).trans (tlt ((lw_lt _ _).mpr hc3)).2.1) ?_
      show Steps p.tables e below (T1.setTop (mkF m 20 #[.val (.int p0), .val (.int (gb p0)), .val (.long (gh p0)), .second] [])) _
      refine XS.iconst X1.here hx rfl (hb hby at_20) ?_
      exact kt
    have hv : f0 p0 = (0 : Int32) := by simp only [f0, if_pos hc3]
    obtain ⟨fs, hr, hrun, hended, hW, hsame⟩ := X1.leave (v := some (.int (0 : Int32))) (fun h => by rw [Bd.returns] at h; cases h)
    refine ⟨_, _, pre0 _ (K4 _ ?_), hrun, hended, _, _, rfl, ?_, ⟨_, rfl⟩, hW, hsame.mono (by decide) (by decide)⟩
    · show Steps p.tables e below (T1.setTop (mkF m 21 #[.val (.int p0), .val (.int (gb p0)), .val (.long (gh p0)), .second] [(.int (0 : Int32))])) _
      exact retN X1 hx (t := .boolean) Bd.returns (by simp) (hb hby at_21) hr
    · show Q0 Z p0  h0 _ T1.heap _
      rw [e1]
      exact ⟨by rw [hv], rfl, rfl⟩
  · skip
    have K5 : ∀ t, Steps p.tables e below (T1.setTop (mkF m 26 #[.val (.int p0), .val (.int (gb p0)), .val (.long (gh p0)), .second] [(.int (256 : Int32)), (.int (gb p0))])) t → Steps p.tables e below (s₁.setTop (mkF m 0 #[.val (.int p0), .unset, .unset, .unset] [])) t := by
      intro t kt
      refine K2 _ ?_
      show Steps p.tables e below (T1.setTop (mkF m 17 #[.val (.int p0), .val (.int (gb p0)), .val (.long (gh p0)), .second] [(.int (lcmpW (gh p0) (0 : Int64)))])) _
      refine XS.ifYes X1.here hx rfl (pc0 := 17) (pc' := 22) rfl (hb hby at_17) rfl ((if0 _ _).trans (flt (mt (lw_lt _ _).mp hc3)).2.1) (by decide) (by decide) ?_
      show Steps p.tables e below (T1.setTop (mkF m 22 #[.val (.int p0), .val (.int (gb p0)), .val (.long (gh p0)), .second] [])) _
      refine XS.iloadN X1.here hx rfl (hb hby at_22) rfl ?_
      show Steps p.tables e below (T1.setTop (mkF m 23 #[.val (.int p0), .val (.int (gb p0)), .val (.long (gh p0)), .second] [(.int (gb p0))])) _
      refine XS.sipush X1.here hx rfl (hb hby at_23) ?_
      exact kt
    by_cases hc6 : (gb p0) < (256 : Int32)
    · skip
      have K7 : ∀ t, Steps p.tables e below (T1.setTop (mkF m 33 #[.val (.int p0), .val (.int (gb p0)), .val (.long (gh p0)), .second] [(.int (lcmpW (gh p0) ((gb p0).toInt64)))])) t → Steps p.tables e below (s₁.setTop (mkF m 0 #[.val (.int p0), .unset, .unset, .unset] [])) t := by
        intro t kt
        refine K5 _ ?_
        show Steps p.tables e below (T1.setTop (mkF m 26 #[.val (.int p0), .val (.int (gb p0)), .val (.long (gh p0)), .second] [(.int (256 : Int32)), (.int (gb p0))])) _
        refine XS.icmpNo X1.here hx rfl (hb hby at_26) rfl (tlt hc6).2.1 ?_
        show Steps p.tables e below (T1.setTop (mkF m 29 #[.val (.int p0), .val (.int (gb p0)), .val (.long (gh p0)), .second] [])) _
        refine XS.lloadN X1.here hx rfl (hb hby at_29) rfl ?_
        show Steps p.tables e below (T1.setTop (mkF m 30 #[.val (.int p0), .val (.int (gb p0)), .val (.long (gh p0)), .second] [(.long (gh p0))])) _
        refine XS.iloadN X1.here hx rfl (hb hby at_30) rfl ?_
        show Steps p.tables e below (T1.setTop (mkF m 31 #[.val (.int p0), .val (.int (gb p0)), .val (.long (gh p0)), .second] [(.int (gb p0)), (.long (gh p0))])) _
        refine XS.i2l X1.here hx rfl (hb hby at_31) rfl ?_
        show Steps p.tables e below (T1.setTop (mkF m 32 #[.val (.int p0), .val (.int (gb p0)), .val (.long (gh p0)), .second] [(.long ((gb p0).toInt64)), (.long (gh p0))])) _
        refine XS.lcmp X1.here hx rfl (hb hby at_32) rfl ?_
        exact kt
      by_cases hc8 : (gh p0) = ((gb p0).toInt64)
      · skip
        obtain ⟨_, _, ⟨T9, L9, k9, n9⟩, -, X9, ⟨Lc9, hQ9, l9, y9, z9⟩, st9⟩ := Jvm.LawKit.callS X1 hx (y := (⟨"com/example/bounded_load/boundedload/client/AnswerTimes", "bucket", "(J)I"⟩ : MethodName)) hown (mvT hZ (hw _ (List.mem_of_getElem? (i := 5) rfl))) (mvT hZ (hw _ (List.mem_of_getElem? (i := 6) rfl))) (mvT hZ (hw _ (List.mem_of_getElem? (i := 3) rfl))) (mvT hZ (hw _ (List.mem_of_getElem? (i := 7) rfl))) (by decide) (backOf (W := 0) (rm2 l Z a0 hw [] (gh p0)  h0 ) hZ (hw _ (List.mem_of_getElem? (i := 7) rfl)) (hw _ (List.mem_of_getElem? (i := 3) rfl)) (by decide) (by decide)) (g := (mkF m 39 #[.val (.int p0), .val (.int (gb p0)), .val (.long (gh p0)), .second] [(.long (gh p0))])) rfl (by rw [hml]; rfl) (argsL := [(.long (gh p0))]) (rest := []) (lenOf pd_1 rfl) rfl (by show 2 * 0 + _ ≤ _; exact Nat.le_of_eq rfl) (hb hby at_39) (fun _ _ => ⟨rfl, e1, (by decide : 0 + 0 ≤ _), (by decide : 0 + 0 ≤ _)⟩)
        dsimp only [Pt.U, Pt.locs, Pt.cells, Pt.slots] at X9 l9 y9 z9 st9 hQ9
        subst l9 y9 z9
        obtain ⟨rfl, rfl, e9⟩ := hQ9
        try rw [List.append_nil] at X9
        have K10 : ∀ t, Steps p.tables e below (T9.setTop (mkF m 43 #[.val (.int p0), .val (.int (gb p0)), .val (.long (gh p0)), .second] [(.int (gb p0)), (.int (f2 (gh p0)))])) t → Steps p.tables e below (s₁.setTop (mkF m 0 #[.val (.int p0), .unset, .unset, .unset] [])) t := by
          intro t kt
          refine K7 _ ?_
          show Steps p.tables e below (T1.setTop (mkF m 33 #[.val (.int p0), .val (.int (gb p0)), .val (.long (gh p0)), .second] [(.int (lcmpW (gh p0) ((gb p0).toInt64)))])) _
          refine XS.ifYes X1.here hx rfl (pc0 := 33) (pc' := 38) rfl (hb hby at_33) rfl ((if0 _ _).trans (teq ((lw_eq _ _).mpr hc8)).1) (by decide) (by decide) ?_
          show Steps p.tables e below (T1.setTop (mkF m 38 #[.val (.int p0), .val (.int (gb p0)), .val (.long (gh p0)), .second] [])) _
          refine XS.lloadN X1.here hx rfl (hb hby at_38) rfl ?_
          show Steps p.tables e below (T1.setTop (mkF m 39 #[.val (.int p0), .val (.int (gb p0)), .val (.long (gh p0)), .second] [(.long (gh p0))])) _
          refine st9 _ ?_
          show Steps p.tables e below (T9.setTop (mkF m 42 #[.val (.int p0), .val (.int (gb p0)), .val (.long (gh p0)), .second] [(.int (f2 (gh p0)))])) _
          refine XS.iloadN X9.here hx rfl (hb hby at_42) rfl ?_
          exact kt
        by_cases hc11 : (f2 (gh p0)) = (gb p0)
        · skip
          have K12 : ∀ t, Steps p.tables e below (T9.setTop (mkF m 53 #[.val (.int p0), .val (.int (gb p0)), .val (.long (gh p0)), .second] [(.int (lcmpW (gh p0) (9223372036854775807 : Int64)))])) t → Steps p.tables e below (s₁.setTop (mkF m 0 #[.val (.int p0), .unset, .unset, .unset] [])) t := by
            intro t kt
            refine K10 _ ?_
            show Steps p.tables e below (T9.setTop (mkF m 43 #[.val (.int p0), .val (.int (gb p0)), .val (.long (gh p0)), .second] [(.int (gb p0)), (.int (f2 (gh p0)))])) _
            refine XS.icmpYes X9.here hx rfl (pc0 := 43) (pc' := 48) rfl (hb hby at_43) rfl (teq hc11).1 (by decide) (by decide) ?_
            show Steps p.tables e below (T9.setTop (mkF m 48 #[.val (.int p0), .val (.int (gb p0)), .val (.long (gh p0)), .second] [])) _
            refine XS.lloadN X9.here hx rfl (hb hby at_48) rfl ?_
            show Steps p.tables e below (T9.setTop (mkF m 49 #[.val (.int p0), .val (.int (gb p0)), .val (.long (gh p0)), .second] [(.long (gh p0))])) _
            refine X9.ldc2Long hx hown (mvT hZ (hw _ (List.mem_of_getElem? (i := 9) rfl))) (g := (mkF m 49 #[.val (.int p0), .val (.int (gb p0)), .val (.long (gh p0)), .second] [(.long (gh p0))])) rfl (hb hby at_49) _ ?_
            show Steps p.tables e below (T9.setTop (mkF m 52 #[.val (.int p0), .val (.int (gb p0)), .val (.long (gh p0)), .second] [(.long (9223372036854775807 : Int64)), (.long (gh p0))])) _
            refine XS.lcmp X9.here hx rfl (hb hby at_52) rfl ?_
            exact kt
          by_cases hc13 : (gh p0) = (9223372036854775807 : Int64)
          · skip
            have K14 : ∀ t, Steps p.tables e below (T9.setTop (mkF m 60 #[.val (.int p0), .val (.int (gb p0)), .val (.long (gh p0)), .second] [(.int (7295 : Int32)), (.int (gb p0))])) t → Steps p.tables e below (s₁.setTop (mkF m 0 #[.val (.int p0), .unset, .unset, .unset] [])) t := by
              intro t kt
              refine K12 _ ?_
              show Steps p.tables e below (T9.setTop (mkF m 53 #[.val (.int p0), .val (.int (gb p0)), .val (.long (gh p0)), .second] [(.int (lcmpW (gh p0) (9223372036854775807 : Int64)))])) _
              refine XS.ifNo X9.here hx rfl (hb hby at_53) rfl ((if0 _ _).trans (teq ((lw_eq _ _).mpr hc13)).2) ?_
              show Steps p.tables e below (T9.setTop (mkF m 56 #[.val (.int p0), .val (.int (gb p0)), .val (.long (gh p0)), .second] [])) _
              refine XS.iloadN X9.here hx rfl (hb hby at_56) rfl ?_
              show Steps p.tables e below (T9.setTop (mkF m 57 #[.val (.int p0), .val (.int (gb p0)), .val (.long (gh p0)), .second] [(.int (gb p0))])) _
              refine XS.sipush X9.here hx rfl (hb hby at_57) ?_
              exact kt
            by_cases hc15 : (gb p0) = (7295 : Int32)
            · skip
              have K16 : ∀ t, Steps p.tables e below (T9.setTop (mkF m 68 #[.val (.int p0), .val (.int (gb p0)), .val (.long (gh p0)), .second] [(.int (1 : Int32))])) t → Steps p.tables e below (s₁.setTop (mkF m 0 #[.val (.int p0), .unset, .unset, .unset] [])) t := by
                intro t kt
                refine K14 _ ?_
                show Steps p.tables e below (T9.setTop (mkF m 60 #[.val (.int p0), .val (.int (gb p0)), .val (.long (gh p0)), .second] [(.int (7295 : Int32)), (.int (gb p0))])) _
                refine XS.icmpNo X9.here hx rfl (hb hby at_60) rfl (teq hc15).2 ?_
                show Steps p.tables e below (T9.setTop (mkF m 63 #[.val (.int p0), .val (.int (gb p0)), .val (.long (gh p0)), .second] [])) _
                refine XS.iconst X9.here hx rfl (hb hby at_63) ?_
                show Steps p.tables e below (T9.setTop (mkF m 64 #[.val (.int p0), .val (.int (gb p0)), .val (.long (gh p0)), .second] [(.int (1 : Int32))])) _
                refine XS.goto X9.here hx rfl (pc0 := 64) (pc' := 68) rfl (hb hby at_64) (by decide) (by decide) ?_
                exact kt
              have hv : f0 p0 = (1 : Int32) := by simp only [f0, if_neg hc3, if_pos hc6, if_pos hc8, if_pos hc11, if_pos hc13, if_pos hc15]
              obtain ⟨fs, hr, hrun, hended, hW, hsame⟩ := X9.leave (v := some (.int (1 : Int32))) (fun h => by rw [Bd.returns] at h; cases h)
              refine ⟨_, _, pre0 _ (K16 _ ?_), hrun, hended, _, _, rfl, ?_, ⟨_, rfl⟩, hW, hsame.mono (by decide) (by decide)⟩
              · show Steps p.tables e below (T9.setTop (mkF m 68 #[.val (.int p0), .val (.int (gb p0)), .val (.long (gh p0)), .second] [(.int (1 : Int32))])) _
                exact retN X9 hx (t := .boolean) Bd.returns (by simp) (hb hby at_68) hr
              · show Q0 Z p0  h0 _ T9.heap _
                rw [e9]
                exact ⟨by rw [hv], rfl, rfl⟩
            · skip
              have K17 : ∀ t, Steps p.tables e below (T9.setTop (mkF m 68 #[.val (.int p0), .val (.int (gb p0)), .val (.long (gh p0)), .second] [(.int (0 : Int32))])) t → Steps p.tables e below (s₁.setTop (mkF m 0 #[.val (.int p0), .unset, .unset, .unset] [])) t := by
                intro t kt
                refine K14 _ ?_
                show Steps p.tables e below (T9.setTop (mkF m 60 #[.val (.int p0), .val (.int (gb p0)), .val (.long (gh p0)), .second] [(.int (7295 : Int32)), (.int (gb p0))])) _
                refine XS.icmpYes X9.here hx rfl (pc0 := 60) (pc' := 67) rfl (hb hby at_60) rfl (feq hc15).2 (by decide) (by decide) ?_
                show Steps p.tables e below (T9.setTop (mkF m 67 #[.val (.int p0), .val (.int (gb p0)), .val (.long (gh p0)), .second] [])) _
                refine XS.iconst X9.here hx rfl (hb hby at_67) ?_
                exact kt
              have hv : f0 p0 = (0 : Int32) := by simp only [f0, if_neg hc3, if_pos hc6, if_pos hc8, if_pos hc11, if_pos hc13, if_neg hc15]
              obtain ⟨fs, hr, hrun, hended, hW, hsame⟩ := X9.leave (v := some (.int (0 : Int32))) (fun h => by rw [Bd.returns] at h; cases h)
              refine ⟨_, _, pre0 _ (K17 _ ?_), hrun, hended, _, _, rfl, ?_, ⟨_, rfl⟩, hW, hsame.mono (by decide) (by decide)⟩
              · show Steps p.tables e below (T9.setTop (mkF m 68 #[.val (.int p0), .val (.int (gb p0)), .val (.long (gh p0)), .second] [(.int (0 : Int32))])) _
                exact retN X9 hx (t := .boolean) Bd.returns (by simp) (hb hby at_68) hr
              · show Q0 Z p0  h0 _ T9.heap _
                rw [e9]
                exact ⟨by rw [hv], rfl, rfl⟩
          · skip
            obtain ⟨_, _, ⟨T18, L18, k18, n18⟩, -, X18, ⟨Lc18, hQ18, l18, y18, z18⟩, st18⟩ := Jvm.LawKit.callS X9 hx (y := (⟨"com/example/bounded_load/boundedload/client/AnswerTimes", "bucket", "(J)I"⟩ : MethodName)) hown (mvT hZ (hw _ (List.mem_of_getElem? (i := 5) rfl))) (mvT hZ (hw _ (List.mem_of_getElem? (i := 6) rfl))) (mvT hZ (hw _ (List.mem_of_getElem? (i := 3) rfl))) (mvT hZ (hw _ (List.mem_of_getElem? (i := 7) rfl))) (by decide) (backOf (W := 0) (rm2 l Z a0 hw [] ((gh p0) + (1 : Int64))  h0 ) hZ (hw _ (List.mem_of_getElem? (i := 7) rfl)) (hw _ (List.mem_of_getElem? (i := 3) rfl)) (by decide) (by decide)) (g := (mkF m 72 #[.val (.int p0), .val (.int (gb p0)), .val (.long (gh p0)), .second] [(.long ((gh p0) + (1 : Int64)))])) rfl (by rw [hml]; rfl) (argsL := [(.long ((gh p0) + (1 : Int64)))]) (rest := []) (lenOf pd_1 rfl) rfl (by show 2 * 0 + _ ≤ _; exact Nat.le_of_eq rfl) (hb hby at_72) (fun _ _ => ⟨rfl, e9, (by decide : 0 + 0 ≤ _), (by decide : 0 + 0 ≤ _)⟩)
            dsimp only [Pt.U, Pt.locs, Pt.cells, Pt.slots] at X18 l18 y18 z18 st18 hQ18
            subst l18 y18 z18
            obtain ⟨rfl, rfl, e18⟩ := hQ18
            try rw [List.append_nil] at X18
            have K19 : ∀ t, Steps p.tables e below (T18.setTop (mkF m 78 #[.val (.int p0), .val (.int (gb p0)), .val (.long (gh p0)), .second] [(.int ((gb p0) + (1 : Int32))), (.int (f2 ((gh p0) + (1 : Int64))))])) t → Steps p.tables e below (s₁.setTop (mkF m 0 #[.val (.int p0), .unset, .unset, .unset] [])) t := by
              intro t kt
              refine K12 _ ?_
              show Steps p.tables e below (T9.setTop (mkF m 53 #[.val (.int p0), .val (.int (gb p0)), .val (.long (gh p0)), .second] [(.int (lcmpW (gh p0) (9223372036854775807 : Int64)))])) _
              refine XS.ifYes X9.here hx rfl (pc0 := 53) (pc' := 69) rfl (hb hby at_53) rfl ((if0 _ _).trans (feq (mt (lw_eq _ _).mp hc13)).2) (by decide) (by decide) ?_
              show Steps p.tables e below (T9.setTop (mkF m 69 #[.val (.int p0), .val (.int (gb p0)), .val (.long (gh p0)), .second] [])) _
              refine XS.lloadN X9.here hx rfl (hb hby at_69) rfl ?_
              show Steps p.tables e below (T9.setTop (mkF m 70 #[.val (.int p0), .val (.int (gb p0)), .val (.long (gh p0)), .second] [(.long (gh p0))])) _
              refine XS.lconst X9.here hx rfl (hb hby at_70) ?_
              show Steps p.tables e below (T9.setTop (mkF m 71 #[.val (.int p0), .val (.int (gb p0)), .val (.long (gh p0)), .second] [(.long (1 : Int64)), (.long (gh p0))])) _
              refine XS.ladd X9.here hx rfl (hb hby at_71) rfl ?_
              show Steps p.tables e below (T9.setTop (mkF m 72 #[.val (.int p0), .val (.int (gb p0)), .val (.long (gh p0)), .second] [(.long ((gh p0) + (1 : Int64)))])) _
              refine st18 _ ?_
              show Steps p.tables e below (T18.setTop (mkF m 75 #[.val (.int p0), .val (.int (gb p0)), .val (.long (gh p0)), .second] [(.int (f2 ((gh p0) + (1 : Int64))))])) _
              refine XS.iloadN X18.here hx rfl (hb hby at_75) rfl ?_
              show Steps p.tables e below (T18.setTop (mkF m 76 #[.val (.int p0), .val (.int (gb p0)), .val (.long (gh p0)), .second] [(.int (gb p0)), (.int (f2 ((gh p0) + (1 : Int64))))])) _
              refine XS.iconst X18.here hx rfl (hb hby at_76) ?_
              show Steps p.tables e below (T18.setTop (mkF m 77 #[.val (.int p0), .val (.int (gb p0)), .val (.long (gh p0)), .second] [(.int (1 : Int32)), (.int (gb p0)), (.int (f2 ((gh p0) + (1 : Int64))))])) _
              refine XS.iadd X18.here hx rfl (hb hby at_77) rfl ?_
              exact kt
            by_cases hc20 : (f2 ((gh p0) + (1 : Int64))) = ((gb p0) + (1 : Int32))
            · skip
              have K21 : ∀ t, Steps p.tables e below (T18.setTop (mkF m 86 #[.val (.int p0), .val (.int (gb p0)), .val (.long (gh p0)), .second] [(.int (1 : Int32))])) t → Steps p.tables e below (s₁.setTop (mkF m 0 #[.val (.int p0), .unset, .unset, .unset] [])) t := by
                intro t kt
                refine K19 _ ?_
                show Steps p.tables e below (T18.setTop (mkF m 78 #[.val (.int p0), .val (.int (gb p0)), .val (.long (gh p0)), .second] [(.int ((gb p0) + (1 : Int32))), (.int (f2 ((gh p0) + (1 : Int64))))])) _
                refine XS.icmpNo X18.here hx rfl (hb hby at_78) rfl (teq hc20).2 ?_
                show Steps p.tables e below (T18.setTop (mkF m 81 #[.val (.int p0), .val (.int (gb p0)), .val (.long (gh p0)), .second] [])) _
                refine XS.iconst X18.here hx rfl (hb hby at_81) ?_
                show Steps p.tables e below (T18.setTop (mkF m 82 #[.val (.int p0), .val (.int (gb p0)), .val (.long (gh p0)), .second] [(.int (1 : Int32))])) _
                refine XS.goto X18.here hx rfl (pc0 := 82) (pc' := 86) rfl (hb hby at_82) (by decide) (by decide) ?_
                exact kt
              have hv : f0 p0 = (1 : Int32) := by simp only [f0, if_neg hc3, if_pos hc6, if_pos hc8, if_pos hc11, if_neg hc13, if_pos hc20]
              obtain ⟨fs, hr, hrun, hended, hW, hsame⟩ := X18.leave (v := some (.int (1 : Int32))) (fun h => by rw [Bd.returns] at h; cases h)
              refine ⟨_, _, pre0 _ (K21 _ ?_), hrun, hended, _, _, rfl, ?_, ⟨_, rfl⟩, hW, hsame.mono (by decide) (by decide)⟩
              · show Steps p.tables e below (T18.setTop (mkF m 86 #[.val (.int p0), .val (.int (gb p0)), .val (.long (gh p0)), .second] [(.int (1 : Int32))])) _
                exact retN X18 hx (t := .boolean) Bd.returns (by simp) (hb hby at_86) hr
              · show Q0 Z p0  h0 _ T18.heap _
                rw [e18]
                exact ⟨by rw [hv], rfl, rfl⟩
            · skip
              have K22 : ∀ t, Steps p.tables e below (T18.setTop (mkF m 86 #[.val (.int p0), .val (.int (gb p0)), .val (.long (gh p0)), .second] [(.int (0 : Int32))])) t → Steps p.tables e below (s₁.setTop (mkF m 0 #[.val (.int p0), .unset, .unset, .unset] [])) t := by
                intro t kt
                refine K19 _ ?_
                show Steps p.tables e below (T18.setTop (mkF m 78 #[.val (.int p0), .val (.int (gb p0)), .val (.long (gh p0)), .second] [(.int ((gb p0) + (1 : Int32))), (.int (f2 ((gh p0) + (1 : Int64))))])) _
                refine XS.icmpYes X18.here hx rfl (pc0 := 78) (pc' := 85) rfl (hb hby at_78) rfl (feq hc20).2 (by decide) (by decide) ?_
                show Steps p.tables e below (T18.setTop (mkF m 85 #[.val (.int p0), .val (.int (gb p0)), .val (.long (gh p0)), .second] [])) _
                refine XS.iconst X18.here hx rfl (hb hby at_85) ?_
                exact kt
              have hv : f0 p0 = (0 : Int32) := by simp only [f0, if_neg hc3, if_pos hc6, if_pos hc8, if_pos hc11, if_neg hc13, if_neg hc20]
              obtain ⟨fs, hr, hrun, hended, hW, hsame⟩ := X18.leave (v := some (.int (0 : Int32))) (fun h => by rw [Bd.returns] at h; cases h)
              refine ⟨_, _, pre0 _ (K22 _ ?_), hrun, hended, _, _, rfl, ?_, ⟨_, rfl⟩, hW, hsame.mono (by decide) (by decide)⟩
              · show Steps p.tables e below (T18.setTop (mkF m 86 #[.val (.int p0), .val (.int (gb p0)), .val (.long (gh p0)), .second] [(.int (0 : Int32))])) _
                exact retN X18 hx (t := .boolean) Bd.returns (by simp) (hb hby at_86) hr
              · show Q0 Z p0  h0 _ T18.heap _
                rw [e18]
                exact ⟨by rw [hv], rfl, rfl⟩
        · skip
          have K23 : ∀ t, Steps p.tables e below (T9.setTop (mkF m 47 #[.val (.int p0), .val (.int (gb p0)), .val (.long (gh p0)), .second] [(.int (0 : Int32))])) t → Steps p.tables e below (s₁.setTop (mkF m 0 #[.val (.int p0), .unset, .unset, .unset] [])) t := by
            intro t kt
            refine K10 _ ?_
            show Steps p.tables e below (T9.setTop (mkF m 43 #[.val (.int p0), .val (.int (gb p0)), .val (.long (gh p0)), .second] [(.int (gb p0)), (.int (f2 (gh p0)))])) _
            refine XS.icmpNo X9.here hx rfl (hb hby at_43) rfl (feq hc11).1 ?_
            show Steps p.tables e below (T9.setTop (mkF m 46 #[.val (.int p0), .val (.int (gb p0)), .val (.long (gh p0)), .second] [])) _
            refine XS.iconst X9.here hx rfl (hb hby at_46) ?_
            exact kt
          have hv : f0 p0 = (0 : Int32) := by simp only [f0, if_neg hc3, if_pos hc6, if_pos hc8, if_neg hc11]
          obtain ⟨fs, hr, hrun, hended, hW, hsame⟩ := X9.leave (v := some (.int (0 : Int32))) (fun h => by rw [Bd.returns] at h; cases h)
          refine ⟨_, _, pre0 _ (K23 _ ?_), hrun, hended, _, _, rfl, ?_, ⟨_, rfl⟩, hW, hsame.mono (by decide) (by decide)⟩
          · show Steps p.tables e below (T9.setTop (mkF m 47 #[.val (.int p0), .val (.int (gb p0)), .val (.long (gh p0)), .second] [(.int (0 : Int32))])) _
            exact retN X9 hx (t := .boolean) Bd.returns (by simp) (hb hby at_47) hr
          · show Q0 Z p0  h0 _ T9.heap _
            rw [e9]
            exact ⟨by rw [hv], rfl, rfl⟩
      · skip
        have K24 : ∀ t, Steps p.tables e below (T1.setTop (mkF m 37 #[.val (.int p0), .val (.int (gb p0)), .val (.long (gh p0)), .second] [(.int (0 : Int32))])) t → Steps p.tables e below (s₁.setTop (mkF m 0 #[.val (.int p0), .unset, .unset, .unset] [])) t := by
          intro t kt
          refine K7 _ ?_
          show Steps p.tables e below (T1.setTop (mkF m 33 #[.val (.int p0), .val (.int (gb p0)), .val (.long (gh p0)), .second] [(.int (lcmpW (gh p0) ((gb p0).toInt64)))])) _
          refine XS.ifNo X1.here hx rfl (hb hby at_33) rfl ((if0 _ _).trans (feq (mt (lw_eq _ _).mp hc8)).1) ?_
          show Steps p.tables e below (T1.setTop (mkF m 36 #[.val (.int p0), .val (.int (gb p0)), .val (.long (gh p0)), .second] [])) _
          refine XS.iconst X1.here hx rfl (hb hby at_36) ?_
          exact kt
        have hv : f0 p0 = (0 : Int32) := by simp only [f0, if_neg hc3, if_pos hc6, if_neg hc8]
        obtain ⟨fs, hr, hrun, hended, hW, hsame⟩ := X1.leave (v := some (.int (0 : Int32))) (fun h => by rw [Bd.returns] at h; cases h)
        refine ⟨_, _, pre0 _ (K24 _ ?_), hrun, hended, _, _, rfl, ?_, ⟨_, rfl⟩, hW, hsame.mono (by decide) (by decide)⟩
        · show Steps p.tables e below (T1.setTop (mkF m 37 #[.val (.int p0), .val (.int (gb p0)), .val (.long (gh p0)), .second] [(.int (0 : Int32))])) _
          exact retN X1 hx (t := .boolean) Bd.returns (by simp) (hb hby at_37) hr
        · show Q0 Z p0  h0 _ T1.heap _
          rw [e1]
          exact ⟨by rw [hv], rfl, rfl⟩
    · skip
      obtain ⟨_, _, ⟨T25, L25, k25, n25⟩, -, X25, ⟨Lc25, hQ25, l25, y25, z25⟩, st25⟩ := Jvm.LawKit.callS X1 hx (y := (⟨"com/example/bounded_load/boundedload/client/AnswerTimes", "bucket", "(J)I"⟩ : MethodName)) hown (mvT hZ (hw _ (List.mem_of_getElem? (i := 5) rfl))) (mvT hZ (hw _ (List.mem_of_getElem? (i := 6) rfl))) (mvT hZ (hw _ (List.mem_of_getElem? (i := 3) rfl))) (mvT hZ (hw _ (List.mem_of_getElem? (i := 7) rfl))) (by decide) (backOf (W := 0) (rm2 l Z a0 hw [] (gh p0)  h0 ) hZ (hw _ (List.mem_of_getElem? (i := 7) rfl)) (hw _ (List.mem_of_getElem? (i := 3) rfl)) (by decide) (by decide)) (g := (mkF m 39 #[.val (.int p0), .val (.int (gb p0)), .val (.long (gh p0)), .second] [(.long (gh p0))])) rfl (by rw [hml]; rfl) (argsL := [(.long (gh p0))]) (rest := []) (lenOf pd_1 rfl) rfl (by show 2 * 0 + _ ≤ _; exact Nat.le_of_eq rfl) (hb hby at_39) (fun _ _ => ⟨rfl, e1, (by decide : 0 + 0 ≤ _), (by decide : 0 + 0 ≤ _)⟩)
      dsimp only [Pt.U, Pt.locs, Pt.cells, Pt.slots] at X25 l25 y25 z25 st25 hQ25
      subst l25 y25 z25
      obtain ⟨rfl, rfl, e25⟩ := hQ25
      try rw [List.append_nil] at X25
      have K26 : ∀ t, Steps p.tables e below (T25.setTop (mkF m 43 #[.val (.int p0), .val (.int (gb p0)), .val (.long (gh p0)), .second] [(.int (gb p0)), (.int (f2 (gh p0)))])) t → Steps p.tables e below (s₁.setTop (mkF m 0 #[.val (.int p0), .unset, .unset, .unset] [])) t := by
        intro t kt
        refine K5 _ ?_
        show Steps p.tables e below (T1.setTop (mkF m 26 #[.val (.int p0), .val (.int (gb p0)), .val (.long (gh p0)), .second] [(.int (256 : Int32)), (.int (gb p0))])) _
        refine XS.icmpYes X1.here hx rfl (pc0 := 26) (pc' := 38) rfl (hb hby at_26) rfl (flt hc6).2.1 (by decide) (by decide) ?_
        show Steps p.tables e below (T1.setTop (mkF m 38 #[.val (.int p0), .val (.int (gb p0)), .val (.long (gh p0)), .second] [])) _
        refine XS.lloadN X1.here hx rfl (hb hby at_38) rfl ?_
        show Steps p.tables e below (T1.setTop (mkF m 39 #[.val (.int p0), .val (.int (gb p0)), .val (.long (gh p0)), .second] [(.long (gh p0))])) _
        refine st25 _ ?_
        show Steps p.tables e below (T25.setTop (mkF m 42 #[.val (.int p0), .val (.int (gb p0)), .val (.long (gh p0)), .second] [(.int (f2 (gh p0)))])) _
        refine XS.iloadN X25.here hx rfl (hb hby at_42) rfl ?_
        exact kt
      by_cases hc27 : (f2 (gh p0)) = (gb p0)
      · skip
        have K28 : ∀ t, Steps p.tables e below (T25.setTop (mkF m 53 #[.val (.int p0), .val (.int (gb p0)), .val (.long (gh p0)), .second] [(.int (lcmpW (gh p0) (9223372036854775807 : Int64)))])) t → Steps p.tables e below (s₁.setTop (mkF m 0 #[.val (.int p0), .unset, .unset, .unset] [])) t := by
          intro t kt
          refine K26 _ ?_
          show Steps p.tables e below (T25.setTop (mkF m 43 #[.val (.int p0), .val (.int (gb p0)), .val (.long (gh p0)), .second] [(.int (gb p0)), (.int (f2 (gh p0)))])) _
          refine XS.icmpYes X25.here hx rfl (pc0 := 43) (pc' := 48) rfl (hb hby at_43) rfl (teq hc27).1 (by decide) (by decide) ?_
          show Steps p.tables e below (T25.setTop (mkF m 48 #[.val (.int p0), .val (.int (gb p0)), .val (.long (gh p0)), .second] [])) _
          refine XS.lloadN X25.here hx rfl (hb hby at_48) rfl ?_
          show Steps p.tables e below (T25.setTop (mkF m 49 #[.val (.int p0), .val (.int (gb p0)), .val (.long (gh p0)), .second] [(.long (gh p0))])) _
          refine X25.ldc2Long hx hown (mvT hZ (hw _ (List.mem_of_getElem? (i := 9) rfl))) (g := (mkF m 49 #[.val (.int p0), .val (.int (gb p0)), .val (.long (gh p0)), .second] [(.long (gh p0))])) rfl (hb hby at_49) _ ?_
          show Steps p.tables e below (T25.setTop (mkF m 52 #[.val (.int p0), .val (.int (gb p0)), .val (.long (gh p0)), .second] [(.long (9223372036854775807 : Int64)), (.long (gh p0))])) _
          refine XS.lcmp X25.here hx rfl (hb hby at_52) rfl ?_
          exact kt
        by_cases hc29 : (gh p0) = (9223372036854775807 : Int64)
        · skip
          have K30 : ∀ t, Steps p.tables e below (T25.setTop (mkF m 60 #[.val (.int p0), .val (.int (gb p0)), .val (.long (gh p0)), .second] [(.int (7295 : Int32)), (.int (gb p0))])) t → Steps p.tables e below (s₁.setTop (mkF m 0 #[.val (.int p0), .unset, .unset, .unset] [])) t := by
            intro t kt
            refine K28 _ ?_
            show Steps p.tables e below (T25.setTop (mkF m 53 #[.val (.int p0), .val (.int (gb p0)), .val (.long (gh p0)), .second] [(.int (lcmpW (gh p0) (9223372036854775807 : Int64)))])) _
            refine XS.ifNo X25.here hx rfl (hb hby at_53) rfl ((if0 _ _).trans (teq ((lw_eq _ _).mpr hc29)).2) ?_
            show Steps p.tables e below (T25.setTop (mkF m 56 #[.val (.int p0), .val (.int (gb p0)), .val (.long (gh p0)), .second] [])) _
            refine XS.iloadN X25.here hx rfl (hb hby at_56) rfl ?_
            show Steps p.tables e below (T25.setTop (mkF m 57 #[.val (.int p0), .val (.int (gb p0)), .val (.long (gh p0)), .second] [(.int (gb p0))])) _
            refine XS.sipush X25.here hx rfl (hb hby at_57) ?_
            exact kt
          by_cases hc31 : (gb p0) = (7295 : Int32)
          · skip
            have K32 : ∀ t, Steps p.tables e below (T25.setTop (mkF m 68 #[.val (.int p0), .val (.int (gb p0)), .val (.long (gh p0)), .second] [(.int (1 : Int32))])) t → Steps p.tables e below (s₁.setTop (mkF m 0 #[.val (.int p0), .unset, .unset, .unset] [])) t := by
              intro t kt
              refine K30 _ ?_
              show Steps p.tables e below (T25.setTop (mkF m 60 #[.val (.int p0), .val (.int (gb p0)), .val (.long (gh p0)), .second] [(.int (7295 : Int32)), (.int (gb p0))])) _
              refine XS.icmpNo X25.here hx rfl (hb hby at_60) rfl (teq hc31).2 ?_
              show Steps p.tables e below (T25.setTop (mkF m 63 #[.val (.int p0), .val (.int (gb p0)), .val (.long (gh p0)), .second] [])) _
              refine XS.iconst X25.here hx rfl (hb hby at_63) ?_
              show Steps p.tables e below (T25.setTop (mkF m 64 #[.val (.int p0), .val (.int (gb p0)), .val (.long (gh p0)), .second] [(.int (1 : Int32))])) _
              refine XS.goto X25.here hx rfl (pc0 := 64) (pc' := 68) rfl (hb hby at_64) (by decide) (by decide) ?_
              exact kt
            have hv : f0 p0 = (1 : Int32) := by simp only [f0, if_neg hc3, if_neg hc6, if_pos hc27, if_pos hc29, if_pos hc31]
            obtain ⟨fs, hr, hrun, hended, hW, hsame⟩ := X25.leave (v := some (.int (1 : Int32))) (fun h => by rw [Bd.returns] at h; cases h)
            refine ⟨_, _, pre0 _ (K32 _ ?_), hrun, hended, _, _, rfl, ?_, ⟨_, rfl⟩, hW, hsame.mono (by decide) (by decide)⟩
            · show Steps p.tables e below (T25.setTop (mkF m 68 #[.val (.int p0), .val (.int (gb p0)), .val (.long (gh p0)), .second] [(.int (1 : Int32))])) _
              exact retN X25 hx (t := .boolean) Bd.returns (by simp) (hb hby at_68) hr
            · show Q0 Z p0  h0 _ T25.heap _
              rw [e25]
              exact ⟨by rw [hv], rfl, rfl⟩
          · skip
            have K33 : ∀ t, Steps p.tables e below (T25.setTop (mkF m 68 #[.val (.int p0), .val (.int (gb p0)), .val (.long (gh p0)), .second] [(.int (0 : Int32))])) t → Steps p.tables e below (s₁.setTop (mkF m 0 #[.val (.int p0), .unset, .unset, .unset] [])) t := by
              intro t kt
              refine K30 _ ?_
              show Steps p.tables e below (T25.setTop (mkF m 60 #[.val (.int p0), .val (.int (gb p0)), .val (.long (gh p0)), .second] [(.int (7295 : Int32)), (.int (gb p0))])) _
              refine XS.icmpYes X25.here hx rfl (pc0 := 60) (pc' := 67) rfl (hb hby at_60) rfl (feq hc31).2 (by decide) (by decide) ?_
              show Steps p.tables e below (T25.setTop (mkF m 67 #[.val (.int p0), .val (.int (gb p0)), .val (.long (gh p0)), .second] [])) _
              refine XS.iconst X25.here hx rfl (hb hby at_67) ?_
              exact kt
            have hv : f0 p0 = (0 : Int32) := by simp only [f0, if_neg hc3, if_neg hc6, if_pos hc27, if_pos hc29, if_neg hc31]
            obtain ⟨fs, hr, hrun, hended, hW, hsame⟩ := X25.leave (v := some (.int (0 : Int32))) (fun h => by rw [Bd.returns] at h; cases h)
            refine ⟨_, _, pre0 _ (K33 _ ?_), hrun, hended, _, _, rfl, ?_, ⟨_, rfl⟩, hW, hsame.mono (by decide) (by decide)⟩
            · show Steps p.tables e below (T25.setTop (mkF m 68 #[.val (.int p0), .val (.int (gb p0)), .val (.long (gh p0)), .second] [(.int (0 : Int32))])) _
              exact retN X25 hx (t := .boolean) Bd.returns (by simp) (hb hby at_68) hr
            · show Q0 Z p0  h0 _ T25.heap _
              rw [e25]
              exact ⟨by rw [hv], rfl, rfl⟩
        · skip
          obtain ⟨_, _, ⟨T34, L34, k34, n34⟩, -, X34, ⟨Lc34, hQ34, l34, y34, z34⟩, st34⟩ := Jvm.LawKit.callS X25 hx (y := (⟨"com/example/bounded_load/boundedload/client/AnswerTimes", "bucket", "(J)I"⟩ : MethodName)) hown (mvT hZ (hw _ (List.mem_of_getElem? (i := 5) rfl))) (mvT hZ (hw _ (List.mem_of_getElem? (i := 6) rfl))) (mvT hZ (hw _ (List.mem_of_getElem? (i := 3) rfl))) (mvT hZ (hw _ (List.mem_of_getElem? (i := 7) rfl))) (by decide) (backOf (W := 0) (rm2 l Z a0 hw [] ((gh p0) + (1 : Int64))  h0 ) hZ (hw _ (List.mem_of_getElem? (i := 7) rfl)) (hw _ (List.mem_of_getElem? (i := 3) rfl)) (by decide) (by decide)) (g := (mkF m 72 #[.val (.int p0), .val (.int (gb p0)), .val (.long (gh p0)), .second] [(.long ((gh p0) + (1 : Int64)))])) rfl (by rw [hml]; rfl) (argsL := [(.long ((gh p0) + (1 : Int64)))]) (rest := []) (lenOf pd_1 rfl) rfl (by show 2 * 0 + _ ≤ _; exact Nat.le_of_eq rfl) (hb hby at_72) (fun _ _ => ⟨rfl, e25, (by decide : 0 + 0 ≤ _), (by decide : 0 + 0 ≤ _)⟩)
          dsimp only [Pt.U, Pt.locs, Pt.cells, Pt.slots] at X34 l34 y34 z34 st34 hQ34
          subst l34 y34 z34
          obtain ⟨rfl, rfl, e34⟩ := hQ34
          try rw [List.append_nil] at X34
          have K35 : ∀ t, Steps p.tables e below (T34.setTop (mkF m 78 #[.val (.int p0), .val (.int (gb p0)), .val (.long (gh p0)), .second] [(.int ((gb p0) + (1 : Int32))), (.int (f2 ((gh p0) + (1 : Int64))))])) t → Steps p.tables e below (s₁.setTop (mkF m 0 #[.val (.int p0), .unset, .unset, .unset] [])) t := by
            intro t kt
            refine K28 _ ?_
            show Steps p.tables e below (T25.setTop (mkF m 53 #[.val (.int p0), .val (.int (gb p0)), .val (.long (gh p0)), .second] [(.int (lcmpW (gh p0) (9223372036854775807 : Int64)))])) _
            refine XS.ifYes X25.here hx rfl (pc0 := 53) (pc' := 69) rfl (hb hby at_53) rfl ((if0 _ _).trans (feq (mt (lw_eq _ _).mp hc29)).2) (by decide) (by decide) ?_
            show Steps p.tables e below (T25.setTop (mkF m 69 #[.val (.int p0), .val (.int (gb p0)), .val (.long (gh p0)), .second] [])) _
            refine XS.lloadN X25.here hx rfl (hb hby at_69) rfl ?_
            show Steps p.tables e below (T25.setTop (mkF m 70 #[.val (.int p0), .val (.int (gb p0)), .val (.long (gh p0)), .second] [(.long (gh p0))])) _
            refine XS.lconst X25.here hx rfl (hb hby at_70) ?_
            show Steps p.tables e below (T25.setTop (mkF m 71 #[.val (.int p0), .val (.int (gb p0)), .val (.long (gh p0)), .second] [(.long (1 : Int64)), (.long (gh p0))])) _
            refine XS.ladd X25.here hx rfl (hb hby at_71) rfl ?_
            show Steps p.tables e below (T25.setTop (mkF m 72 #[.val (.int p0), .val (.int (gb p0)), .val (.long (gh p0)), .second] [(.long ((gh p0) + (1 : Int64)))])) _
            refine st34 _ ?_
            show Steps p.tables e below (T34.setTop (mkF m 75 #[.val (.int p0), .val (.int (gb p0)), .val (.long (gh p0)), .second] [(.int (f2 ((gh p0) + (1 : Int64))))])) _
            refine XS.iloadN X34.here hx rfl (hb hby at_75) rfl ?_
            show Steps p.tables e below (T34.setTop (mkF m 76 #[.val (.int p0), .val (.int (gb p0)), .val (.long (gh p0)), .second] [(.int (gb p0)), (.int (f2 ((gh p0) + (1 : Int64))))])) _
            refine XS.iconst X34.here hx rfl (hb hby at_76) ?_
            show Steps p.tables e below (T34.setTop (mkF m 77 #[.val (.int p0), .val (.int (gb p0)), .val (.long (gh p0)), .second] [(.int (1 : Int32)), (.int (gb p0)), (.int (f2 ((gh p0) + (1 : Int64))))])) _
            refine XS.iadd X34.here hx rfl (hb hby at_77) rfl ?_
            exact kt
          by_cases hc36 : (f2 ((gh p0) + (1 : Int64))) = ((gb p0) + (1 : Int32))
          · skip
            have K37 : ∀ t, Steps p.tables e below (T34.setTop (mkF m 86 #[.val (.int p0), .val (.int (gb p0)), .val (.long (gh p0)), .second] [(.int (1 : Int32))])) t → Steps p.tables e below (s₁.setTop (mkF m 0 #[.val (.int p0), .unset, .unset, .unset] [])) t := by
              intro t kt
              refine K35 _ ?_
              show Steps p.tables e below (T34.setTop (mkF m 78 #[.val (.int p0), .val (.int (gb p0)), .val (.long (gh p0)), .second] [(.int ((gb p0) + (1 : Int32))), (.int (f2 ((gh p0) + (1 : Int64))))])) _
              refine XS.icmpNo X34.here hx rfl (hb hby at_78) rfl (teq hc36).2 ?_
              show Steps p.tables e below (T34.setTop (mkF m 81 #[.val (.int p0), .val (.int (gb p0)), .val (.long (gh p0)), .second] [])) _
              refine XS.iconst X34.here hx rfl (hb hby at_81) ?_
              show Steps p.tables e below (T34.setTop (mkF m 82 #[.val (.int p0), .val (.int (gb p0)), .val (.long (gh p0)), .second] [(.int (1 : Int32))])) _
              refine XS.goto X34.here hx rfl (pc0 := 82) (pc' := 86) rfl (hb hby at_82) (by decide) (by decide) ?_
              exact kt
            have hv : f0 p0 = (1 : Int32) := by simp only [f0, if_neg hc3, if_neg hc6, if_pos hc27, if_neg hc29, if_pos hc36]
            obtain ⟨fs, hr, hrun, hended, hW, hsame⟩ := X34.leave (v := some (.int (1 : Int32))) (fun h => by rw [Bd.returns] at h; cases h)
            refine ⟨_, _, pre0 _ (K37 _ ?_), hrun, hended, _, _, rfl, ?_, ⟨_, rfl⟩, hW, hsame.mono (by decide) (by decide)⟩
            · show Steps p.tables e below (T34.setTop (mkF m 86 #[.val (.int p0), .val (.int (gb p0)), .val (.long (gh p0)), .second] [(.int (1 : Int32))])) _
              exact retN X34 hx (t := .boolean) Bd.returns (by simp) (hb hby at_86) hr
            · show Q0 Z p0  h0 _ T34.heap _
              rw [e34]
              exact ⟨by rw [hv], rfl, rfl⟩
          · skip
            have K38 : ∀ t, Steps p.tables e below (T34.setTop (mkF m 86 #[.val (.int p0), .val (.int (gb p0)), .val (.long (gh p0)), .second] [(.int (0 : Int32))])) t → Steps p.tables e below (s₁.setTop (mkF m 0 #[.val (.int p0), .unset, .unset, .unset] [])) t := by
              intro t kt
              refine K35 _ ?_
              show Steps p.tables e below (T34.setTop (mkF m 78 #[.val (.int p0), .val (.int (gb p0)), .val (.long (gh p0)), .second] [(.int ((gb p0) + (1 : Int32))), (.int (f2 ((gh p0) + (1 : Int64))))])) _
              refine XS.icmpYes X34.here hx rfl (pc0 := 78) (pc' := 85) rfl (hb hby at_78) rfl (feq hc36).2 (by decide) (by decide) ?_
              show Steps p.tables e below (T34.setTop (mkF m 85 #[.val (.int p0), .val (.int (gb p0)), .val (.long (gh p0)), .second] [])) _
              refine XS.iconst X34.here hx rfl (hb hby at_85) ?_
              exact kt
            have hv : f0 p0 = (0 : Int32) := by simp only [f0, if_neg hc3, if_neg hc6, if_pos hc27, if_neg hc29, if_neg hc36]
            obtain ⟨fs, hr, hrun, hended, hW, hsame⟩ := X34.leave (v := some (.int (0 : Int32))) (fun h => by rw [Bd.returns] at h; cases h)
            refine ⟨_, _, pre0 _ (K38 _ ?_), hrun, hended, _, _, rfl, ?_, ⟨_, rfl⟩, hW, hsame.mono (by decide) (by decide)⟩
            · show Steps p.tables e below (T34.setTop (mkF m 86 #[.val (.int p0), .val (.int (gb p0)), .val (.long (gh p0)), .second] [(.int (0 : Int32))])) _
              exact retN X34 hx (t := .boolean) Bd.returns (by simp) (hb hby at_86) hr
            · show Q0 Z p0  h0 _ T34.heap _
              rw [e34]
              exact ⟨by rw [hv], rfl, rfl⟩
      · skip
        have K39 : ∀ t, Steps p.tables e below (T25.setTop (mkF m 47 #[.val (.int p0), .val (.int (gb p0)), .val (.long (gh p0)), .second] [(.int (0 : Int32))])) t → Steps p.tables e below (s₁.setTop (mkF m 0 #[.val (.int p0), .unset, .unset, .unset] [])) t := by
          intro t kt
          refine K26 _ ?_
          show Steps p.tables e below (T25.setTop (mkF m 43 #[.val (.int p0), .val (.int (gb p0)), .val (.long (gh p0)), .second] [(.int (gb p0)), (.int (f2 (gh p0)))])) _
          refine XS.icmpNo X25.here hx rfl (hb hby at_43) rfl (feq hc27).1 ?_
          show Steps p.tables e below (T25.setTop (mkF m 46 #[.val (.int p0), .val (.int (gb p0)), .val (.long (gh p0)), .second] [])) _
          refine XS.iconst X25.here hx rfl (hb hby at_46) ?_
          exact kt
        have hv : f0 p0 = (0 : Int32) := by simp only [f0, if_neg hc3, if_neg hc6, if_neg hc27]
        obtain ⟨fs, hr, hrun, hended, hW, hsame⟩ := X25.leave (v := some (.int (0 : Int32))) (fun h => by rw [Bd.returns] at h; cases h)
        refine ⟨_, _, pre0 _ (K39 _ ?_), hrun, hended, _, _, rfl, ?_, ⟨_, rfl⟩, hW, hsame.mono (by decide) (by decide)⟩
        · show Steps p.tables e below (T25.setTop (mkF m 47 #[.val (.int p0), .val (.int (gb p0)), .val (.long (gh p0)), .second] [(.int (0 : Int32))])) _
          exact retN X25 hx (t := .boolean) Bd.returns (by simp) (hb hby at_47) hr
        · show Q0 Z p0  h0 _ T25.heap _
          rw [e25]
          exact ⟨by rw [hv], rfl, rfl⟩
def own_F (b : Int32) : Int32 :=  if (f1 b) < (0 : Int64) then (0 : Int32)
  else if b < (256 : Int32) then (if (f1 b) = (b.toInt64) then (if (f2 (f1 b)) = b then (if (f1 b) = (9223372036854775807 : Int64) then (if b = (7295 : Int32) then (1 : Int32)
          else (0 : Int32))
        else if (f2 ((f1 b) + (1 : Int64))) = (b + (1 : Int32)) then (1 : Int32)
        else (0 : Int32))
      else (0 : Int32))
    else (0 : Int32))
  else if (f2 (f1 b)) = b then (if (f1 b) = (9223372036854775807 : Int64) then (if b = (7295 : Int32) then (1 : Int32)
      else (0 : Int32))
    else if (f2 ((f1 b) + (1 : Int64))) = (b + (1 : Int32)) then (1 : Int32)
    else (0 : Int32))
  else (0 : Int32)
theorem own_f0 (p0 : Int32) : f0 p0 = own_F (gb p0) := rfl
def own_chk : Nat → Bool
  | 0 => true
  | n + 1 => decide (own_F (Int32.ofNat n) = 1) && own_chk n
set_option maxRecDepth 100000 in
theorem own_chk_all : own_chk 7296 = true := by decide +kernel
theorem own_chk_at : ∀ n, own_chk n = true → ∀ m, m < n → own_F (Int32.ofNat m) = 1
  | 0, _, _, h => absurd h (Nat.not_lt_zero _)
  | n + 1, h, m, hm => by
    rw [own_chk, Bool.and_eq_true, decide_eq_true_eq] at h
    rcases Nat.lt_or_eq_of_le (Nat.le_of_lt_succ hm) with q | q
    · exact own_chk_at n h.2 m q
    · rw [q]; exact h.1
theorem own_law (x : Int32) : f0 x = 1 := by
  have h1 : (x &&& (2147483647 : Int32)).toInt = x.toInt % (2 ^ 31 : Nat) := c_mask x _ 31 (by decide) (by decide)
  have h2 := c_irem (x &&& (2147483647 : Int32)) 7296 7296 (by decide)
  have h3 := h2.1 (by omega)
  have e : gb x = Int32.ofNat (gb x).toInt.toNat := by
    apply Int32.toInt_inj.mp
    have h4 : (gb x).toInt = (x &&& (2147483647 : Int32)).toInt % 7296 := h3
    rw [Int32.toInt_ofNat_of_lt (by omega)]
    omega
  rw [own_f0, e]
  refine own_chk_at 7296 own_chk_all _ ?_
  have h4 : (gb x).toInt = (x &&& (2147483647 : Int32)).toInt % 7296 := h3
  omega
set_option maxRecDepth 65536 in
set_option maxHeartbeats 40000000 in
theorem comes_1 {Post : Tables → Env → Array Value → State → Outcome → State → Prop} (hpost : ∀ tb e args s v u, (limb_1_1.after args s (.returned v) u = true ∧ limb_1_2.after args s (.returned v) u = true ∧ True) → FrameEnd s (.returned v) u (Jvm.fieldLocs frame_1_writes args s ++ Jvm.arrayLocs frame_1_arrays args s ++ Jvm.staticLocs frame_1_statics s) 0 0 → Post tb e args s (.returned v) u) :
    ArmFor flags0 classFile x code maxLocals ret World_1 tables_1 room_1 Calls_1 rest_1 Pre_1 Post := by
  intro l hfl _ _ p e ha hc hk s m args below hf hA hF happ hP
  obtain ⟨hcalls, hrest, hpre⟩ := hP
  obtain ⟨-, -, -, hnamed, -, -, -, hat⟩ := (Spec.applies_iff hf).mp happ
  obtain ⟨hg, hn⟩ := and_e (Cond.before_iff.mp (show (Jvm.Cond.and given_1 narrow_1).before args s = true from hpre))
  obtain ⟨hcount, hk0⟩ := and_e hg
  have hi0 := hk0
  obtain ⟨w0, rfl⟩ : ∃ w0 : Value, args = #[w0] := by
    have hs : args.size = 1 := by simpa [Cond.value, given_1] using hcount
    obtain ⟨L⟩ := args
    match L, hs with
    | [w0], _ => exact ⟨w0, rfl⟩
  have hw := fun d (hd : d ∈ tables_1) => atoms_spec (ws := Jvm.Cond.code x code maxLocals ret :: tables_1) hat d (List.mem_cons_of_mem _ hd)
  obtain ⟨i0, ei0⟩ := is_v hi0
  obtain rfl : w0 = (.int i0) := Option.some.inj ei0
  obtain ⟨n, o, h1, h2, h3, v, L, rfl, hQ, hq⟩ := rm0 l s _ hw tables_1 i0 s.heap p e ha hc hk s m _ below hf ((Spec.applies_iff_loose hf).mp happ).1 ⟨rfl, State.Warmed39.refl s, rfl⟩ trivial
  obtain ⟨rfl, N⟩ : v = some (.int 1) ∧ Fr s.heap.size L := by
    obtain ⟨q1, q2, -⟩ := hQ
    subst q2
    rw [own_law i0] at q1
    exact ⟨q1, Fr.nil _⟩
  refine ⟨n, _, h1, h2, h3, hpost _ _ _ _ _ _ ⟨Cond.after_iff.mpr rfl, Cond.after_iff.mpr (eq_i res_at (Term.int_eval (1)) rfl), trivial⟩ ⟨hq.1, hq.2.1, (hq.2.2.sift fun y hy => Or.inr (N y hy)).mono (by decide) (by decide)⟩⟩
theorem main_1_1 : Claimed_1_1 := comes_1 fun _ _ _ _ _ _ h hF => ⟨h.1, hF⟩
theorem main_1_2 : Claimed_1_2 := comes_1 fun _ _ _ _ _ _ h hF => ⟨h.2.1, hF⟩
end Jvm.Pilot.@@N@@
namespace Jvm.Pilot.@@N@@
open Jvm Jvm.ClassFile Sem Op Lib Jvm.Free Jvm.Stand Jvm.Pilot.@@N@@.Jvm.D
/-! MADE BY PROGRAM (witnessworld.py) out of the Statement's table words and the real class files: 15 classes; the members and pool entries that the words name. The judged class is class 1, her method 1. -/
namespace start1
open Jvm.ClassFile
def u (s : String) : CpInfo := .utf8 (stringToUtf16 s)
/-- a pool by its gaps: so many unusable entries, then the entry; so many at the end -/
def gap : Nat → List CpInfo → List CpInfo
  | 0, r => r
  | n + 1, r => .unusable :: gap n r
def poolList (es : List (Nat × CpInfo)) (last : Nat) : List CpInfo := es.foldr (fun e r => gap e.1 (e.2 :: r)) (gap last [])
def pool (es : List (Nat × CpInfo)) (last : Nat) : Array CpInfo := ⟨poolList es last⟩
def fileOf (pool : Array CpInfo) (this : Nat) (attrs : Array Attribute := #[]) (ms : Array MethodInfo := #[]) (fl : Nat := 33) (sup : Nat := 0) (ifs : Array Nat := #[]) (fds : Array FieldInfo := #[]) : ClassFile where
  minorVersion := 0
  majorVersion := 65
  constantPool := pool
  accessFlags := fl
  thisClass := this
  superClass := sup
  interfaces := ifs
  fields := fds
  methods := ms
  attributes := attrs
def plain (name : String) (sup : Option ClassId) : Class where
  name := name
  kind := .ordinary
  loader := none
  accessFlags := 33
  super := sup
  interfaces := #[]
  cf := none
  fields := #[]
  methods := #[]
  instanceTypes := #[]
  staticTypes := #[]
  resolved := #[]
  callSites := []
  init := .initialized
  statics := none
  mirror := none

def pool0 : Array CpInfo := pool [(5, u "<init>"), (0, u "()V"), (1, .class_ 10), (1, u "java/lang/Object")] 113

def k0m0 : Method := { name := "<init>", desc := "()V", sig := { parameters := [], returnType := none }, accessFlags := 1, code := none }
/-- java/lang/Object -/
def k0 : Class := { plain "java/lang/Object" none with
  accessFlags := 33
  interfaces := #[]
  cf := some (fileOf pool0 8 #[] #[{ accessFlags := 1, nameIndex := 5, descriptorIndex := 6, attributes := #[] }] 33 0 #[] #[])
  fields := #[]
  methods := #[k0m0]
  instanceTypes := #[]
  staticTypes := #[]
  resolved := Array.replicate 124 none
  statics := none }

def pool1 : Array CpInfo := pool [(2, .class_ 4), (1, u "java/lang/Object"), (0, u "<init>"), (0, u "()V"), (0, .integer 2147483647), (0, .class_ 9), (0, u "com/example/bounded_load/boundedload/client/AnswerTimesHighestPinLaw"), (0, .methodref 11 12), (0, .class_ 13), (0, .nameAndType 14 15), (0, u "com/example/bounded_load/boundedload/client/AnswerTimes"), (0, u "highest"), (0, u "(I)J"), (0, .methodref 11 17), (0, .nameAndType 18 19), (0, u "bucket"), (0, u "(J)I"), (2, .long 9223372036854775807), (1, u "LAST"), (0, u "I"), (4, u "law"), (0, u "(I)Z")] 3

def k1m0 : Method := { name := "<init>", desc := "()V", sig := { parameters := [], returnType := none }, accessFlags := 1, code := none }
def k1c1 : Code := { maxStack := 4, maxLocals := 4, code := code, exceptionTable := #[], attributes := #[] }
def k1m1 : Method := { name := "law", desc := "(I)Z", sig := { parameters := [.int], returnType := some .boolean }, accessFlags := 9, code := some k1c1 }
/-- com/example/bounded_load/boundedload/client/AnswerTimesHighestPinLaw -/
def k1 : Class := { plain "com/example/bounded_load/boundedload/client/AnswerTimesHighestPinLaw" (some 0) with
  accessFlags := 49
  interfaces := #[]
  cf := some (fileOf pool1 8 #[] #[{ accessFlags := 1, nameIndex := 5, descriptorIndex := 6, attributes := #[] }, { accessFlags := 9, nameIndex := 30, descriptorIndex := 31, attributes := #[] }] 49 2 #[] #[{ accessFlags := 26, nameIndex := 24, descriptorIndex := 25, attributes := #[] }])
  fields := #[{ name := "LAST", type := .int, accessFlags := 26, slot := 0, constantValue := 0 }]
  methods := #[k1m0, k1m1]
  instanceTypes := #[]
  staticTypes := #[.int]
  resolved := Array.replicate 35 none
  statics := none }

def pool2 : Array CpInfo := pool [(1, .class_ 2), (0, u "com/example/bounded_load/boundedload/client/AnswerTimes"), (1, .class_ 6), (1, u "java/lang/Object"), (2, .class_ 10), (0, u "java/lang/Long"), (4, u "bucket"), (0, u "(J)I"), (2, u "counts"), (0, u "[J"), (8, u "deadline"), (0, u "J"), (2, u "warmUp"), (2, u "timed"), (2, u "inTime"), (2, u "longest"), (8, u "refusedAfterWarmUp"), (17, u "PERCENTILES"), (0, u "[I"), (10, u "(I)J"), (12, u "highest"), (3, .long 256), (1, .methodref 9 101), (0, .nameAndType 102 16), (0, u "numberOfLeadingZeros"), (22, u "EXACT"), (0, u "I"), (2, u "PER_DOUBLING")] 15

def k2c0 : Code := { maxStack := 4, maxLocals := 4, code := prog_11_method_6_code, exceptionTable := #[], attributes := #[] }
def k2m0 : Method := { name := "bucket", desc := "(J)I", sig := { parameters := [.long], returnType := some .int }, accessFlags := 8, code := some k2c0 }
def k2c1 : Code := { maxStack := 4, maxLocals := 6, code := prog_11_method_7_code, exceptionTable := #[], attributes := #[] }
def k2m1 : Method := { name := "highest", desc := "(I)J", sig := { parameters := [.int], returnType := some .long }, accessFlags := 8, code := some k2c1 }
/-- com/example/bounded_load/boundedload/client/AnswerTimes -/
def k2 : Class := { plain "com/example/bounded_load/boundedload/client/AnswerTimes" (some 0) with
  accessFlags := 32
  interfaces := #[]
  cf := some (fileOf pool2 1 #[] #[{ accessFlags := 8, nameIndex := 15, descriptorIndex := 16, attributes := #[] }, { accessFlags := 8, nameIndex := 94, descriptorIndex := 81, attributes := #[] }] 32 4 #[] #[{ accessFlags := 26, nameIndex := 125, descriptorIndex := 126, attributes := #[] }, { accessFlags := 26, nameIndex := 129, descriptorIndex := 126, attributes := #[] }, { accessFlags := 26, nameIndex := 69, descriptorIndex := 70, attributes := #[] }, { accessFlags := 18, nameIndex := 29, descriptorIndex := 30, attributes := #[] }, { accessFlags := 18, nameIndex := 33, descriptorIndex := 30, attributes := #[] }, { accessFlags := 18, nameIndex := 19, descriptorIndex := 20, attributes := #[] }, { accessFlags := 2, nameIndex := 36, descriptorIndex := 30, attributes := #[] }, { accessFlags := 2, nameIndex := 39, descriptorIndex := 30, attributes := #[] }, { accessFlags := 2, nameIndex := 51, descriptorIndex := 30, attributes := #[] }, { accessFlags := 2, nameIndex := 42, descriptorIndex := 30, attributes := #[] }])
  fields := #[{ name := "EXACT", type := .int, accessFlags := 26, slot := 0, constantValue := 0 }, { name := "PER_DOUBLING", type := .int, accessFlags := 26, slot := 1, constantValue := 0 }, { name := "PERCENTILES", type := (.array .int), accessFlags := 26, slot := 2, constantValue := 0 }, { name := "deadline", type := .long, accessFlags := 18, slot := 0, constantValue := 0 }, { name := "warmUp", type := .long, accessFlags := 18, slot := 1, constantValue := 0 }, { name := "counts", type := (.array .long), accessFlags := 18, slot := 2, constantValue := 0 }, { name := "timed", type := .long, accessFlags := 2, slot := 3, constantValue := 0 }, { name := "inTime", type := .long, accessFlags := 2, slot := 4, constantValue := 0 }, { name := "refusedAfterWarmUp", type := .long, accessFlags := 2, slot := 5, constantValue := 0 }, { name := "longest", type := .long, accessFlags := 2, slot := 6, constantValue := 0 }]
  methods := #[k2m0, k2m1]
  instanceTypes := #[.long, .long, (.array .long), .long, .long, .long, .long]
  staticTypes := #[.int, .int, (.array .int)]
  resolved := Array.replicate 145 none
  statics := none }

def pool3 : Array CpInfo := pool [(1, .class_ 2), (0, u "java/io/Serializable"), (0, .class_ 4), (0, u "java/lang/Object")] 2

/-- java/io/Serializable -/
def k3 : Class := { plain "java/io/Serializable" (some 0) with
  accessFlags := 1537
  interfaces := #[]
  cf := some (fileOf pool3 1 #[] #[] 1537 3 #[] #[])
  fields := #[]
  methods := #[]
  instanceTypes := #[]
  staticTypes := #[]
  resolved := Array.replicate 7 none
  statics := none }

def pool4 : Array CpInfo := pool [(2, .class_ 4), (1, u "java/lang/Object"), (0, u "<init>"), (0, u "()V"), (1, .class_ 10), (1, u "java/lang/Number"), (2, .class_ 14), (0, u "java/io/Serializable"), (0, u "serialVersionUID"), (0, u "J")] 20

def k4m0 : Method := { name := "<init>", desc := "()V", sig := { parameters := [], returnType := none }, accessFlags := 1, code := none }
/-- java/lang/Number -/
def k4 : Class := { plain "java/lang/Number" (some 0) with
  accessFlags := 1057
  interfaces := #[3]
  cf := some (fileOf pool4 8 #[] #[{ accessFlags := 1, nameIndex := 5, descriptorIndex := 6, attributes := #[] }] 1057 2 #[13] #[{ accessFlags := 26, nameIndex := 15, descriptorIndex := 16, attributes := #[] }])
  fields := #[{ name := "serialVersionUID", type := .long, accessFlags := 26, slot := 0, constantValue := 0 }]
  methods := #[k4m0]
  instanceTypes := #[]
  staticTypes := #[.long]
  resolved := Array.replicate 37 none
  statics := none }

def pool5 : Array CpInfo := pool [(1, .class_ 2), (0, u "java/lang/Comparable"), (0, .class_ 4), (0, u "java/lang/Object")] 7

/-- java/lang/Comparable -/
def k5 : Class := { plain "java/lang/Comparable" (some 0) with
  accessFlags := 1537
  interfaces := #[]
  cf := some (fileOf pool5 1 #[] #[] 1537 3 #[] #[])
  fields := #[]
  methods := #[]
  instanceTypes := #[]
  staticTypes := #[]
  resolved := Array.replicate 12 none
  statics := none }

def pool6 : Array CpInfo := pool [(1, .class_ 2), (0, u "java/lang/constant/Constable"), (0, .class_ 4), (0, u "java/lang/Object")] 6

/-- java/lang/constant/Constable -/
def k6 : Class := { plain "java/lang/constant/Constable" (some 0) with
  accessFlags := 1537
  interfaces := #[]
  cf := some (fileOf pool6 1 #[] #[] 1537 3 #[] #[])
  fields := #[]
  methods := #[]
  instanceTypes := #[]
  staticTypes := #[]
  resolved := Array.replicate 11 none
  statics := none }

def pool7 : Array CpInfo := pool [(1, .class_ 2), (0, u "java/lang/constant/ConstantDesc"), (0, .class_ 4), (0, u "java/lang/Object")] 32

/-- java/lang/constant/ConstantDesc -/
def k7 : Class := { plain "java/lang/constant/ConstantDesc" (some 0) with
  accessFlags := 1537
  interfaces := #[]
  cf := some (fileOf pool7 1 #[] #[] 1537 3 #[] #[])
  fields := #[]
  methods := #[]
  instanceTypes := #[]
  staticTypes := #[]
  resolved := Array.replicate 37 none
  statics := none }

def pool8 : Array CpInfo := pool [(1, .class_ 2), (0, u "java/lang/Long"), (15, .class_ 20), (1, u "java/lang/Integer"), (79, u "numberOfLeadingZeros"), (0, u "(J)I"), (133, .class_ 237), (1, u "java/lang/Long$LongCache"), (33, .class_ 272), (0, u "java/lang/Number"), (2, u "value"), (0, u "J"), (31, .methodref 18 309), (0, .nameAndType 100 310), (0, u "(I)I"), (50, u "TYPE"), (0, u "Ljava/lang/Class;"), (0, .class_ 364), (0, u "java/lang/Comparable"), (0, .class_ 366), (0, u "java/lang/constant/Constable"), (0, .class_ 368), (0, u "java/lang/constant/ConstantDesc"), (0, u "MIN_VALUE"), (1, u "MAX_VALUE"), (4, u "SIZE"), (0, u "I"), (1, u "BYTES"), (1, u "serialVersionUID")] 142

def k8c0 : Code := { maxStack := 3, maxLocals := 3, code := jdk_35_method_48_code, exceptionTable := #[], attributes := #[] }
def k8m0 : Method := { name := "numberOfLeadingZeros", desc := "(J)I", sig := { parameters := [.long], returnType := some .int }, accessFlags := 9, code := some k8c0 }
/-- java/lang/Long -/
def k8 : Class := { plain "java/lang/Long" (some 4) with
  accessFlags := 49
  interfaces := #[5, 6, 7]
  cf := some (fileOf pool8 1 #[.nestMembers #[235]] #[{ accessFlags := 9, nameIndex := 100, descriptorIndex := 101, attributes := #[] }] 49 271 #[363, 365, 367] #[{ accessFlags := 25, nameIndex := 369, descriptorIndex := 276, attributes := #[] }, { accessFlags := 25, nameIndex := 371, descriptorIndex := 276, attributes := #[] }, { accessFlags := 25, nameIndex := 361, descriptorIndex := 362, attributes := #[] }, { accessFlags := 18, nameIndex := 275, descriptorIndex := 276, attributes := #[] }, { accessFlags := 25, nameIndex := 376, descriptorIndex := 377, attributes := #[] }, { accessFlags := 25, nameIndex := 379, descriptorIndex := 377, attributes := #[] }, { accessFlags := 26, nameIndex := 381, descriptorIndex := 276, attributes := #[] }])
  fields := #[{ name := "MIN_VALUE", type := .long, accessFlags := 25, slot := 0, constantValue := 0 }, { name := "MAX_VALUE", type := .long, accessFlags := 25, slot := 1, constantValue := 0 }, { name := "TYPE", type := (.object "java/lang/Class"), accessFlags := 25, slot := 2, constantValue := 0 }, { name := "value", type := .long, accessFlags := 18, slot := 0, constantValue := 0 }, { name := "SIZE", type := .int, accessFlags := 25, slot := 3, constantValue := 0 }, { name := "BYTES", type := .int, accessFlags := 25, slot := 4, constantValue := 0 }, { name := "serialVersionUID", type := .long, accessFlags := 26, slot := 5, constantValue := 0 }]
  methods := #[k8m0]
  instanceTypes := #[.long]
  staticTypes := #[.long, .long, (.object "java/lang/Class"), .int, .int, .long]
  resolved := Array.replicate 524 none
  statics := none }

def pool9 : Array CpInfo := pool [(1, .class_ 2), (0, u "java/lang/Integer"), (16, u "digits"), (0, u "[C"), (32, u "numberOfLeadingZeros"), (0, u "(I)I"), (30, u "DigitOnes"), (0, u "[B"), (2, u "DigitTens"), (99, .class_ 190), (0, u "java/lang/Integer$IntegerCache"), (3, u "I"), (8, .class_ 204), (0, u "java/lang/Number"), (2, u "value"), (56, .integer 65536), (37, u "TYPE"), (0, u "Ljava/lang/Class;"), (0, .class_ 305), (0, u "java/lang/Comparable"), (0, .class_ 307), (0, u "java/lang/constant/Constable"), (0, .class_ 309), (0, u "java/lang/constant/ConstantDesc"), (0, u "MIN_VALUE"), (1, u "MAX_VALUE"), (3, u "SIZE"), (1, u "BYTES"), (1, u "serialVersionUID"), (0, u "J")] 131

def k9c0 : Code := { maxStack := 3, maxLocals := 2, code := jdk_33_method_47_code, exceptionTable := #[], attributes := #[] }
def k9m0 : Method := { name := "numberOfLeadingZeros", desc := "(I)I", sig := { parameters := [.int], returnType := some .int }, accessFlags := 9, code := some k9c0 }
/-- java/lang/Integer -/
def k9 : Class := { plain "java/lang/Integer" (some 4) with
  accessFlags := 49
  interfaces := #[5, 6, 7]
  cf := some (fileOf pool9 1 #[.nestMembers #[189]] #[{ accessFlags := 9, nameIndex := 53, descriptorIndex := 54, attributes := #[] }] 49 203 #[304, 306, 308] #[{ accessFlags := 25, nameIndex := 310, descriptorIndex := 194, attributes := #[] }, { accessFlags := 25, nameIndex := 312, descriptorIndex := 194, attributes := #[] }, { accessFlags := 25, nameIndex := 302, descriptorIndex := 303, attributes := #[] }, { accessFlags := 24, nameIndex := 19, descriptorIndex := 20, attributes := #[] }, { accessFlags := 24, nameIndex := 89, descriptorIndex := 86, attributes := #[] }, { accessFlags := 24, nameIndex := 85, descriptorIndex := 86, attributes := #[] }, { accessFlags := 18, nameIndex := 207, descriptorIndex := 194, attributes := #[] }, { accessFlags := 25, nameIndex := 316, descriptorIndex := 194, attributes := #[] }, { accessFlags := 25, nameIndex := 318, descriptorIndex := 194, attributes := #[] }, { accessFlags := 26, nameIndex := 320, descriptorIndex := 321, attributes := #[] }])
  fields := #[{ name := "MIN_VALUE", type := .int, accessFlags := 25, slot := 0, constantValue := 0 }, { name := "MAX_VALUE", type := .int, accessFlags := 25, slot := 1, constantValue := 0 }, { name := "TYPE", type := (.object "java/lang/Class"), accessFlags := 25, slot := 2, constantValue := 0 }, { name := "digits", type := (.array .char), accessFlags := 24, slot := 3, constantValue := 0 }, { name := "DigitTens", type := (.array .byte), accessFlags := 24, slot := 4, constantValue := 0 }, { name := "DigitOnes", type := (.array .byte), accessFlags := 24, slot := 5, constantValue := 0 }, { name := "value", type := .int, accessFlags := 18, slot := 0, constantValue := 0 }, { name := "SIZE", type := .int, accessFlags := 25, slot := 6, constantValue := 0 }, { name := "BYTES", type := .int, accessFlags := 25, slot := 7, constantValue := 0 }, { name := "serialVersionUID", type := .long, accessFlags := 26, slot := 8, constantValue := 0 }]
  methods := #[k9m0]
  instanceTypes := #[.int]
  staticTypes := #[.int, .int, (.object "java/lang/Class"), (.array .char), (.array .byte), (.array .byte), .int, .int, .long]
  resolved := Array.replicate 453 none
  statics := none }

def pool10 : Array CpInfo := pool [(1, u "java/lang/Cloneable"), (0, .class_ 1), (0, u "java/lang/Object"), (0, .class_ 3)] 3

/-- java/lang/Cloneable -/
def k10 : Class := { plain "java/lang/Cloneable" (some 0) with
  accessFlags := 1537
  interfaces := #[]
  cf := some (fileOf pool10 2 #[] #[] 1537 4 #[] #[])
  fields := #[]
  methods := #[]
  instanceTypes := #[]
  staticTypes := #[]
  resolved := Array.replicate 8 none
  statics := none }

/-- the primitive byte -/
def k11 : Class := { plain "byte" none with kind := .primitive 'B', accessFlags := 0x411 }
/-- [B -/
def k12 : Class := { plain "[B" (some 0) with kind := .array 11 .byte, interfaces := #[10, 3], accessFlags := 1041 }

/-- the primitive int -/
def k13 : Class := { plain "int" none with kind := .primitive 'I', accessFlags := 0x411 }
/-- [I -/
def k14 : Class := { plain "[I" (some 0) with kind := .array 13 .int, interfaces := #[10, 3], accessFlags := 1041 }

def heap : Heap := #[]
def classes : Array Class := #[k0, k1, k2, k3, k4, k5, k6, k7, k8, k9, k10, k11, k12, k13, k14]
def interned : List (Array UInt16 × Addr) := []
def slotsUsed : Nat := 0
def theMethod : MethodId := ⟨1, 1⟩
def args0 : Array Value := #[.int 5]
def aboutOver (below : List Frame) : State where
  vm := { classes := classes, interned := interned.toArray }
  heap := heap
  slotsUsed := slotsUsed
  threads := #[{ frames := .invoking theMethod args0 :: below }]
def below0 : List Frame := [.native { method := ⟨0, 0⟩, args := #[] }]
def about1 : State := aboutOver below0
def p0 : Program := .bare "" "" ""
def e0 : Env := launch0.env 0 0 0
theorem w_frames : about1.frames = Frame.invoking theMethod args0 :: below0 := rfl
set_option maxRecDepth 65536 in
theorem w_args : argsFit about1.vm theMethod args0 = true := by decide +kernel
set_option maxRecDepth 65536 in
theorem w_heap : heapFits about1 = true := by decide +kernel
set_option maxRecDepth 65536 in
theorem w_runnable : about1.curStatus? = some .runnable := by decide +kernel
set_option maxRecDepth 65536 in
theorem w_alone : about1.alone = true := by decide +kernel
set_option maxRecDepth 65536 in
theorem w_named : about1.methodNamed? x = some theMethod := by decide +kernel
set_option maxRecDepth 65536 in
theorem w_hears : about1.hears theMethod below0 = true := by decide +kernel
set_option maxRecDepth 65536 in
theorem w_ripe : about1.ripe theMethod args0 below0 = true := by decide +kernel
theorem w_running : about1.status = .running := rfl
set_option maxRecDepth 65536 in
theorem w_room : about1.hasRoom e0.platform room_1 = true :=
  launch0.hasRoom_least _ room_1 (by decide +kernel) (by decide +kernel) (by decide +kernel) (by decide +kernel) (by decide +kernel) (by decide +kernel)
theorem allAtoms_all (ts : List Jvm.Cond) (a : Array Jvm.Value) (st : Jvm.State) : (allAtoms ts).before a st = ts.all (fun c => c.before a st) := by
  induction ts with
  | nil => rfl
  | cons c t ih =>
    show (Jvm.Cond.and c (allAtoms t)).before a st = _
    rw [Jvm.Cond.before_and, ih, List.all_cons]
def words1 : List Jvm.Cond := Jvm.Cond.code x code maxLocals ret :: tables_1
/-- a 'code' word, met by the world's own term for the bytes: nothing is compared byte by byte -/
theorem code_word {y : MethodName} {bytes : ByteArray} {mx : Nat} {rt : Option FieldType} {a : Array Value} {s : State} {m : MethodId} {meth : Method} {c : Code} (h1 : s.methodNamed? y = some m) (h2 : s.vm.method? m = some meth) (h3 : meth.code = some c) (h4 : c.code = bytes)
    (h5 : (c.maxLocals == mx && c.exceptionTable.isEmpty && decide (c.maxStack ≤ mostOperands) && decide (meth.sig.returnType = rt) && !meth.locks && decide (parseMethodDescriptor y.desc = some meth.sig)) = true) : (Jvm.Cond.code y bytes mx rt).before a s = true := by
  simp only [Bool.and_eq_true, beq_iff_eq, Bool.not_eq_true', decide_eq_true_eq] at h5
  obtain ⟨⟨⟨⟨⟨g1, g2⟩, g3⟩, g4⟩, g5⟩, g6⟩ := h5
  simp [Cond.before, Cond.holds, Cond.value, h1, h2, h3, h4, g1, g2, g3, g4, g5, g6]
def isCode : Jvm.Cond → Bool
  | .code _ _ _ _ => true
  | _ => false
theorem all_split {L : List Jvm.Cond} {P : Jvm.Cond → Bool} (h1 : L.all (fun c => isCode c || P c) = true) (h2 : ∀ c ∈ L.filter isCode, P c = true) : L.all P = true := by
  refine List.all_eq_true.mpr fun c hc => ?_
  have h := List.all_eq_true.mp h1 c hc
  rcases Bool.eq_false_or_eq_true (isCode c) with hi | hi
  · exact h2 c (List.mem_filter.mpr ⟨hc, hi⟩)
  · simpa [hi] using h
set_option maxRecDepth 65536 in
theorem w_c0 : (Jvm.Cond.code x code maxLocals ret).before args0 about1 = true := code_word (m := ⟨1, 1⟩) (meth := k1m1) (c := k1c1) (by decide +kernel) rfl rfl rfl (by decide +kernel)
set_option maxRecDepth 65536 in
theorem w_c1 : (Jvm.Cond.code ({ cls := "com/example/bounded_load/boundedload/client/AnswerTimes", name := "highest", desc := "(I)J" } : Jvm.MethodName) prog_11_method_7_code (6 : Nat) (Option.some Jvm.ClassFile.FieldType.long)).before args0 about1 = true := code_word (m := ⟨2, 1⟩) (meth := k2m1) (c := k2c1) (by decide +kernel) rfl rfl rfl (by decide +kernel)
set_option maxRecDepth 65536 in
theorem w_c2 : (Jvm.Cond.code ({ cls := "com/example/bounded_load/boundedload/client/AnswerTimes", name := "bucket", desc := "(J)I" } : Jvm.MethodName) prog_11_method_6_code (4 : Nat) (Option.some Jvm.ClassFile.FieldType.int)).before args0 about1 = true := code_word (m := ⟨2, 0⟩) (meth := k2m0) (c := k2c0) (by decide +kernel) rfl rfl rfl (by decide +kernel)
set_option maxRecDepth 65536 in
theorem w_c3 : (Jvm.Cond.code ({ cls := "java/lang/Long", name := "numberOfLeadingZeros", desc := "(J)I" } : Jvm.MethodName) jdk_35_method_48_code (3 : Nat) (Option.some Jvm.ClassFile.FieldType.int)).before args0 about1 = true := code_word (m := ⟨8, 0⟩) (meth := k8m0) (c := k8c0) (by decide +kernel) rfl rfl rfl (by decide +kernel)
set_option maxRecDepth 65536 in
theorem w_c4 : (Jvm.Cond.code ({ cls := "java/lang/Integer", name := "numberOfLeadingZeros", desc := "(I)I" } : Jvm.MethodName) jdk_33_method_47_code (2 : Nat) (Option.some Jvm.ClassFile.FieldType.int)).before args0 about1 = true := code_word (m := ⟨9, 0⟩) (meth := k9m0) (c := k9c0) (by decide +kernel) rfl rfl rfl (by decide +kernel)
def codes1 : List Jvm.Cond := [Jvm.Cond.code x code maxLocals ret, Jvm.Cond.code ({ cls := "com/example/bounded_load/boundedload/client/AnswerTimes", name := "highest", desc := "(I)J" } : Jvm.MethodName) prog_11_method_7_code (6 : Nat) (Option.some Jvm.ClassFile.FieldType.long), Jvm.Cond.code ({ cls := "com/example/bounded_load/boundedload/client/AnswerTimes", name := "bucket", desc := "(J)I" } : Jvm.MethodName) prog_11_method_6_code (4 : Nat) (Option.some Jvm.ClassFile.FieldType.int), Jvm.Cond.code ({ cls := "java/lang/Long", name := "numberOfLeadingZeros", desc := "(J)I" } : Jvm.MethodName) jdk_35_method_48_code (3 : Nat) (Option.some Jvm.ClassFile.FieldType.int), Jvm.Cond.code ({ cls := "java/lang/Integer", name := "numberOfLeadingZeros", desc := "(I)I" } : Jvm.MethodName) jdk_33_method_47_code (2 : Nat) (Option.some Jvm.ClassFile.FieldType.int)]
set_option maxRecDepth 65536 in
theorem codes_eq : words1.filter isCode = codes1 := rfl
theorem w_codes : ∀ c ∈ words1.filter isCode, c.before args0 about1 = true := by
  rw [codes_eq]
  intro c hc
  simp only [codes1, List.mem_cons, List.not_mem_nil, or_false] at hc
  rcases hc with rfl | rfl | rfl | rfl | rfl
  · exact w_c0
  · exact w_c1
  · exact w_c2
  · exact w_c3
  · exact w_c4
set_option maxRecDepth 65536 in
theorem w_t1 : words1.all (fun c => isCode c || c.before args0 about1) = true := by decide +kernel
theorem w_tables : (allAtoms (Jvm.Cond.code x code maxLocals ret :: tables_1)).before args0 about1 = true := by
  rw [allAtoms_all]
  show words1.all (fun c => c.before args0 about1) = true
  refine all_split ?_ w_codes
  rw [w_t1]
set_option maxRecDepth 65536 in
theorem w_case : (Jvm.Cond.and given_1 narrow_1).before args0 about1 = true := by decide +kernel
theorem w_applies : (headSpec (Jvm.Cond.code x code maxLocals ret :: tables_1) room_1).applies x e0.platform about1 = true :=
  (Spec.applies_iff w_frames).mpr ⟨w_running, w_runnable, w_alone, w_named, w_hears, w_ripe, w_room, w_tables⟩
theorem atStart : AtStart classFile x code maxLocals ret World_1 tables_1 room_1 Calls_1 rest_1 Pre_1 launch0 p0 e0 about1 theMethod args0 below0 :=
  ⟨lists_1, trivial, launch0.admits_env _ _ _, launch0.least_env, fairChoices_fair.cas, fairChoices_fair.clock, w_frames, w_args, w_heap, w_applies, trivial, trivial, w_case⟩
end start1
theorem witness_1 : WitnessClaimed_1 := ⟨start1.p0, start1.e0, start1.about1, start1.theMethod, start1.args0, start1.below0, start1.atStart⟩
end Jvm.Pilot.@@N@@
