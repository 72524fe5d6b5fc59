import JvmDerived
import JvmDerived.Pilot.@@N@@Statement
import JvmDerived.Pilot.@@N@@Code
set_option linter.unusedVariables false
set_option linter.unusedSimpArgs false
namespace Jvm.Pilot.@@N@@
open Jvm Jvm.ClassFile Sem Op Lib Jvm.Free Jvm.Stand Jvm.LawKit Jvm.RoadKit Bundle Jvm.Pilot.@@N@@.Jvm.D
theorem ef_1 (m : MethodId) (x0 : Int64) (x1 : Int32) (x2 : Int32) : entryFrame m #[(.long x0), (.int x1), (.int x2)] 4 = mkF m 0 #[.val (.long x0), .second, .val (.int x1), .val (.int x2)] [] := by first | (simp [entryFrame, mkF, argsToLocals, Value.category]; done) | rfl
theorem pn_0 : plainName "operand/Spelling" = true := by first | (simp [plainName, overriddenIn]; done) | decide +kernel
theorem d1_0 : decode prog_66_method_4_code 0 = .ok (.iload_n 2, 1) := by decide +kernel
theorem d1_1 : decode prog_66_method_4_code 1 = .ok (.bipush 9, 2) := by decide +kernel
theorem d1_3 : decode prog_66_method_4_code 3 = .ok (.if_icmp .gt 14, 3) := by decide +kernel
theorem d1_17 : decode prog_66_method_4_code 17 = .ok (.lload_n 0, 1) := by decide +kernel
theorem d1_18 : decode prog_66_method_4_code 18 = .ok (.ldc2_w 82, 3) := by decide +kernel
theorem d1_21 : decode prog_66_method_4_code 21 = .ok (.lor, 1) := by decide +kernel
theorem d1_22 : decode prog_66_method_4_code 22 = .ok (.lreturn, 1) := by decide +kernel
theorem d1_6 : decode prog_66_method_4_code 6 = .ok (.iload_n 3, 1) := by decide +kernel
theorem d1_7 : decode prog_66_method_4_code 7 = .ok (.sipush 128, 3) := by decide +kernel
theorem d1_10 : decode prog_66_method_4_code 10 = .ok (.if_icmp .ge 7, 3) := by decide +kernel
theorem d1_13 : decode prog_66_method_4_code 13 = .ok (.lload_n 0, 1) := by decide +kernel
theorem d1_14 : decode prog_66_method_4_code 14 = .ok (.goto 8, 3) := by decide +kernel
def f1 (q0 : Int64) (p1 : Int32) (p2 : Int32) : Int64 := if (9 : Int32) < p1 then (q0 ||| (-9223372036854775808 : Int64))
  else if p2 < (128 : Int32) then q0
  else (q0 ||| (-9223372036854775808 : Int64))
def Q1 (Z : State) (q0 : Int64) (p1 : Int32) (p2 : Int32)  (h0 : Heap) (v : Option Value) (h : Heap) (L : List Loc) : Prop := v = some (.long (f1 q0 p1 p2)) ∧ L = [] ∧ h = h0
set_option maxRecDepth 65536 in
set_option maxHeartbeats 40000000 in
theorem rm1 (l : Launch) (Z : State) (a0 : Array Value) (hw : ∀ d ∈ tables_1, d.before a0 Z = true) (ws : List Jvm.Cond) (q0 : Int64) (p1 : Int32) (p2 : Int32)  (h0 : Heap)  :
    MetFree l (⟨"operand/Spelling", "key", "(JII)J"⟩ : MethodName) (head1 (Jvm.Cond.code (⟨"operand/Spelling", "key", "(JII)J"⟩ : MethodName) prog_66_method_4_code 4 (some .long) :: ws) ({ frames := 0, cells := 0, slots := 0, locals := 0 } : Room)) (fun a U => a = #[(.long q0), (.int p1), (.int p2)] ∧ Z.Warmed39 U.vm ∧ U.heap = h0) (fun _ _ _ _ _ => True) (fun _ U o U' => ∃ v L, o = .returned v ∧ Q1 Z q0 p1 p2  h0 v U'.heap L ∧ FrameEnd U o U' L ({ frames := 0, cells := 0, slots := 0, locals := 0 } : Room).cells ({ frames := 0, cells := 0, slots := 0, locals := 0 } : Room).slots) := by
  refine MetFree.of_bodySF (plainFor_of_name pn_0) hisR ?_
  intro p e s m args below meth c s₁ Bd hml0 hP hK
  obtain ⟨rfl, hZ, hh⟩ := hP
  have hx := Bd.exec
  have hby := Bd.bytes
  have hml : c.maxLocals = 4 := hml0
  have hown : s.vm.findClass "operand/Spelling" = some m.cls := findClass_of_methodNamed Bd.named
  have hnm := (name_of_methodNamed Bd.named Bd.method).1
  have X0 : Stand p l e ({ frames := 0, cells := 0, slots := 0, locals := 0 } : Room) s m #[(.long q0), (.int p1), (.int p2)] below meth c s₁ [] 0 0 := Stand.of_body Bd
  have e0 : s₁.heap = h0 := by rw [← hh, Bd.state]; rfl
  have pre0 : ∀ t, Steps p.tables e below (s₁.setTop (mkF m 0 #[.val (.long q0), .second, .val (.int p1), .val (.int p2)] [])) t → Steps p.tables e below (s₁.setTop (entryFrame m #[(.long q0), (.int p1), (.int p2)] 4)) t := fun t k => castTop (ef_1 m q0 p1 p2) k
  have K1 : ∀ t, Steps p.tables e below (s₁.setTop (mkF m 3 #[.val (.long q0), .second, .val (.int p1), .val (.int p2)] [(.int (9 : Int32)), (.int p1)])) t → Steps p.tables e below (s₁.setTop (mkF m 0 #[.val (.long q0), .second, .val (.int p1), .val (.int p2)] [])) t := by
    intro t kt
    show Steps p.tables e below (s₁.setTop (mkF m 0 #[.val (.long q0), .second, .val (.int p1), .val (.int p2)] [])) _
    refine XS.iloadN X0.here hx rfl (hb hby d1_0) rfl ?_
    show Steps p.tables e below (s₁.setTop (mkF m 1 #[.val (.long q0), .second, .val (.int p1), .val (.int p2)] [(.int p1)])) _
    refine XS.bipush X0.here hx rfl (hb hby d1_1) ?_
    exact kt
  by_cases hc2 : (9 : Int32) < p1
  · skip
    have K3 : ∀ t, Steps p.tables e below (s₁.setTop (mkF m 22 #[.val (.long q0), .second, .val (.int p1), .val (.int p2)] [(.long (q0 ||| (-9223372036854775808 : Int64)))])) t → Steps p.tables e below (s₁.setTop (mkF m 0 #[.val (.long q0), .second, .val (.int p1), .val (.int p2)] [])) t := by
      intro t kt
      refine K1 _ ?_
      show Steps p.tables e below (s₁.setTop (mkF m 3 #[.val (.long q0), .second, .val (.int p1), .val (.int p2)] [(.int (9 : Int32)), (.int p1)])) _
      refine XS.icmpYes X0.here hx rfl (pc0 := 3) (pc' := 17) rfl (hb hby d1_3) rfl (tlt hc2).2.2.1 (by decide) (by decide) ?_
      show Steps p.tables e below (s₁.setTop (mkF m 17 #[.val (.long q0), .second, .val (.int p1), .val (.int p2)] [])) _
      refine XS.lloadN X0.here hx rfl (hb hby d1_17) rfl ?_
      show Steps p.tables e below (s₁.setTop (mkF m 18 #[.val (.long q0), .second, .val (.int p1), .val (.int p2)] [(.long q0)])) _
      refine X0.ldc2Long hx hown (mvT hZ (hw _ (List.mem_of_getElem? (i := 8) rfl))) (g := (mkF m 18 #[.val (.long q0), .second, .val (.int p1), .val (.int p2)] [(.long q0)])) rfl (hb hby d1_18) _ ?_
      show Steps p.tables e below (s₁.setTop (mkF m 21 #[.val (.long q0), .second, .val (.int p1), .val (.int p2)] [(.long (-9223372036854775808 : Int64)), (.long q0)])) _
      refine XS.lor X0.here hx rfl (hb hby d1_21) rfl ?_
      exact kt
    have hv : f1 q0 p1 p2 = (q0 ||| (-9223372036854775808 : Int64)) := by simp only [f1, if_pos hc2]
    obtain ⟨fs, hr, hrun, hended, hW, hsame⟩ := X0.leave (v := some (.long (q0 ||| (-9223372036854775808 : Int64)))) (fun h => by rw [Bd.returns] at h; cases h)
    refine ⟨_, _, pre0 _ (K3 _ ?_), hrun, hended, _, _, rfl, ?_, ⟨_, rfl⟩, hW, hsame.mono (by decide) (by decide)⟩
    · show Steps p.tables e below (s₁.setTop (mkF m 22 #[.val (.long q0), .second, .val (.int p1), .val (.int p2)] [(.long (q0 ||| (-9223372036854775808 : Int64)))])) _
      exact retOut X0 hx Bd.returns rfl (Or.inr (Or.inl ⟨rfl, rfl, _, rfl⟩)) (hb hby d1_22) hr
    · show Q1 Z q0 p1 p2  h0 _ s₁.heap _
      rw [e0]
      exact ⟨by rw [hv], rfl, rfl⟩
  · skip
    have K4 : ∀ t, Steps p.tables e below (s₁.setTop (mkF m 10 #[.val (.long q0), .second, .val (.int p1), .val (.int p2)] [(.int (128 : Int32)), (.int p2)])) t → Steps p.tables e below (s₁.setTop (mkF m 0 #[.val (.long q0), .second, .val (.int p1), .val (.int p2)] [])) t := by
      intro t kt
      refine K1 _ ?_
      show Steps p.tables e below (s₁.setTop (mkF m 3 #[.val (.long q0), .second, .val (.int p1), .val (.int p2)] [(.int (9 : Int32)), (.int p1)])) _
      refine XS.icmpNo X0.here hx rfl (hb hby d1_3) rfl (flt hc2).2.2.1 ?_
      show Steps p.tables e below (s₁.setTop (mkF m 6 #[.val (.long q0), .second, .val (.int p1), .val (.int p2)] [])) _
      refine XS.iloadN X0.here hx rfl (hb hby d1_6) rfl ?_
      show Steps p.tables e below (s₁.setTop (mkF m 7 #[.val (.long q0), .second, .val (.int p1), .val (.int p2)] [(.int p2)])) _
      refine XS.sipush X0.here hx rfl (hb hby d1_7) ?_
      exact kt
    by_cases hc5 : p2 < (128 : Int32)
    · skip
      have K6 : ∀ t, Steps p.tables e below (s₁.setTop (mkF m 22 #[.val (.long q0), .second, .val (.int p1), .val (.int p2)] [(.long q0)])) t → Steps p.tables e below (s₁.setTop (mkF m 0 #[.val (.long q0), .second, .val (.int p1), .val (.int p2)] [])) t := by
        intro t kt
        refine K4 _ ?_
        show Steps p.tables e below (s₁.setTop (mkF m 10 #[.val (.long q0), .second, .val (.int p1), .val (.int p2)] [(.int (128 : Int32)), (.int p2)])) _
        refine XS.icmpNo X0.here hx rfl (hb hby d1_10) rfl (tlt hc5).2.1 ?_
        show Steps p.tables e below (s₁.setTop (mkF m 13 #[.val (.long q0), .second, .val (.int p1), .val (.int p2)] [])) _
        refine XS.lloadN X0.here hx rfl (hb hby d1_13) rfl ?_
        show Steps p.tables e below (s₁.setTop (mkF m 14 #[.val (.long q0), .second, .val (.int p1), .val (.int p2)] [(.long q0)])) _
        refine XS.goto X0.here hx rfl (pc0 := 14) (pc' := 22) rfl (hb hby d1_14) (by decide) (by decide) ?_
        exact kt
      have hv : f1 q0 p1 p2 = q0 := by simp only [f1, if_neg hc2, if_pos hc5]
      obtain ⟨fs, hr, hrun, hended, hW, hsame⟩ := X0.leave (v := some (.long q0)) (fun h => by rw [Bd.returns] at h; cases h)
      refine ⟨_, _, pre0 _ (K6 _ ?_), hrun, hended, _, _, rfl, ?_, ⟨_, rfl⟩, hW, hsame.mono (by decide) (by decide)⟩
      · show Steps p.tables e below (s₁.setTop (mkF m 22 #[.val (.long q0), .second, .val (.int p1), .val (.int p2)] [(.long q0)])) _
        exact retOut X0 hx Bd.returns rfl (Or.inr (Or.inl ⟨rfl, rfl, _, rfl⟩)) (hb hby d1_22) hr
      · show Q1 Z q0 p1 p2  h0 _ s₁.heap _
        rw [e0]
        exact ⟨by rw [hv], rfl, rfl⟩
    · skip
      have K7 : ∀ t, Steps p.tables e below (s₁.setTop (mkF m 22 #[.val (.long q0), .second, .val (.int p1), .val (.int p2)] [(.long (q0 ||| (-9223372036854775808 : Int64)))])) t → Steps p.tables e below (s₁.setTop (mkF m 0 #[.val (.long q0), .second, .val (.int p1), .val (.int p2)] [])) t := by
        intro t kt
        refine K4 _ ?_
        show Steps p.tables e below (s₁.setTop (mkF m 10 #[.val (.long q0), .second, .val (.int p1), .val (.int p2)] [(.int (128 : Int32)), (.int p2)])) _
        refine XS.icmpYes X0.here hx rfl (pc0 := 10) (pc' := 17) rfl (hb hby d1_10) rfl (flt hc5).2.1 (by decide) (by decide) ?_
        show Steps p.tables e below (s₁.setTop (mkF m 17 #[.val (.long q0), .second, .val (.int p1), .val (.int p2)] [])) _
        refine XS.lloadN X0.here hx rfl (hb hby d1_17) rfl ?_
        show Steps p.tables e below (s₁.setTop (mkF m 18 #[.val (.long q0), .second, .val (.int p1), .val (.int p2)] [(.long q0)])) _
        refine X0.ldc2Long hx hown (mvT hZ (hw _ (List.mem_of_getElem? (i := 8) rfl))) (g := (mkF m 18 #[.val (.long q0), .second, .val (.int p1), .val (.int p2)] [(.long q0)])) rfl (hb hby d1_18) _ ?_
        show Steps p.tables e below (s₁.setTop (mkF m 21 #[.val (.long q0), .second, .val (.int p1), .val (.int p2)] [(.long (-9223372036854775808 : Int64)), (.long q0)])) _
        refine XS.lor X0.here hx rfl (hb hby d1_21) rfl ?_
        exact kt
      have hv : f1 q0 p1 p2 = (q0 ||| (-9223372036854775808 : Int64)) := by simp only [f1, if_neg hc2, if_neg hc5]
      obtain ⟨fs, hr, hrun, hended, hW, hsame⟩ := X0.leave (v := some (.long (q0 ||| (-9223372036854775808 : Int64)))) (fun h => by rw [Bd.returns] at h; cases h)
      refine ⟨_, _, pre0 _ (K7 _ ?_), hrun, hended, _, _, rfl, ?_, ⟨_, rfl⟩, hW, hsame.mono (by decide) (by decide)⟩
      · show Steps p.tables e below (s₁.setTop (mkF m 22 #[.val (.long q0), .second, .val (.int p1), .val (.int p2)] [(.long (q0 ||| (-9223372036854775808 : Int64)))])) _
        exact retOut X0 hx Bd.returns rfl (Or.inr (Or.inl ⟨rfl, rfl, _, rfl⟩)) (hb hby d1_22) hr
      · show Q1 Z q0 p1 p2  h0 _ s₁.heap _
        rw [e0]
        exact ⟨by rw [hv], rfl, rfl⟩
theorem ef_0 (m : MethodId) (x0 : Int64) (x1 : Int32) (x2 : Int32) : entryFrame m #[(.long x0), (.int x1), (.int x2)] maxLocals = mkF m 0 #[.val (.long x0), .second, .val (.int x1), .val (.int x2), .unset, .unset, .unset, .unset, .unset, .unset, .unset] [] := by first | (simp [entryFrame, mkF, argsToLocals, Value.category, maxLocals]; done) | rfl
theorem pn_1 : plainName "operand/SpellingKeyPinLaw" = true := by first | (simp [plainName, overriddenIn]; done) | decide +kernel
theorem pd_0 : parseMethodDescriptor "(JII)J" = some ⟨[.long, .int, .int], some .long⟩ := by decide +kernel
def f0 (q0 : Int64) (p1 : Int32) (p2 : Int32) : Int32 := if ((p2 &&& (65535 : Int32)) &&& (65408 : Int32)) = (0 : Int32) then (if (p1 &&& (2147483647 : Int32)) < (10 : Int32) then (if (((f1 q0 (p1 &&& (2147483647 : Int32)) (p2 &&& (65535 : Int32))) ^^^ q0) &&& (9223372036854775807 : Int64)) = (0 : Int64) then (if (f1 q0 (p1 &&& (2147483647 : Int32)) (p2 &&& (65535 : Int32))) = q0 then (1 : Int32)
        else (0 : Int32))
      else (0 : Int32))
    else if (((f1 q0 (p1 &&& (2147483647 : Int32)) (p2 &&& (65535 : Int32))) ^^^ q0) &&& (9223372036854775807 : Int64)) = (0 : Int64) then (if (f1 q0 (p1 &&& (2147483647 : Int32)) (p2 &&& (65535 : Int32))) < (0 : Int64) then (1 : Int32)
      else (0 : Int32))
    else (0 : Int32))
  else if (p1 &&& (2147483647 : Int32)) < (10 : Int32) then (if (((f1 q0 (p1 &&& (2147483647 : Int32)) (p2 &&& (65535 : Int32))) ^^^ q0) &&& (9223372036854775807 : Int64)) = (0 : Int64) then (if (f1 q0 (p1 &&& (2147483647 : Int32)) (p2 &&& (65535 : Int32))) < (0 : Int64) then (1 : Int32)
      else (0 : Int32))
    else (0 : Int32))
  else if (((f1 q0 (p1 &&& (2147483647 : Int32)) (p2 &&& (65535 : Int32))) ^^^ q0) &&& (9223372036854775807 : Int64)) = (0 : Int64) then (if (f1 q0 (p1 &&& (2147483647 : Int32)) (p2 &&& (65535 : Int32))) < (0 : Int64) then (1 : Int32)
    else (0 : Int32))
  else (0 : Int32)
def Q0 (Z : State) (q0 : Int64) (p1 : Int32) (p2 : Int32)  (h0 : Heap) (v : Option Value) (h : Heap) (L : List Loc) : Prop := v = some (.int (f0 q0 p1 p2)) ∧ L = [] ∧ h = h0
set_option maxRecDepth 65536 in
set_option maxHeartbeats 40000000 in
theorem rm0 (l : Launch) (Z : State) (a0 : Array Value) (hw : ∀ d ∈ tables_1, d.before a0 Z = true) (ws : List Jvm.Cond) (q0 : Int64) (p1 : Int32) (p2 : Int32)  (h0 : Heap)  :
    MetFree l x (head1 (Jvm.Cond.code x code maxLocals ret :: ws) room_1) (fun a U => a = #[(.long q0), (.int p1), (.int p2)] ∧ Z.Warmed39 U.vm ∧ U.heap = h0) (fun _ _ _ _ _ => True) (fun _ U o U' => ∃ v L, o = .returned v ∧ Q0 Z q0 p1 p2  h0 v U'.heap L ∧ FrameEnd U o U' L room_1.cells room_1.slots) := by
  refine MetFree.of_bodySF (plainFor_of_name pn_1) hisR ?_
  intro p e s m args below meth c s₁ Bd hml0 hP hK
  obtain ⟨rfl, hZ, hh⟩ := hP
  have hx := Bd.exec
  have hby := Bd.bytes
  have hml : c.maxLocals = 11 := hml0
  have hown : s.vm.findClass "operand/SpellingKeyPinLaw" = some m.cls := findClass_of_methodNamed Bd.named
  have hnm := (name_of_methodNamed Bd.named Bd.method).1
  have X0 : Stand p l e room_1 s m #[(.long q0), (.int p1), (.int p2)] below meth c s₁ [] 0 0 := Stand.of_body Bd
  have e0 : s₁.heap = h0 := by rw [← hh, Bd.state]; rfl
  have pre0 : ∀ t, Steps p.tables e below (s₁.setTop (mkF m 0 #[.val (.long q0), .second, .val (.int p1), .val (.int p2), .unset, .unset, .unset, .unset, .unset, .unset, .unset] [])) t → Steps p.tables e below (s₁.setTop (entryFrame m #[(.long q0), (.int p1), (.int p2)] maxLocals)) t := fun t k => castTop (ef_0 m q0 p1 p2) k
  obtain ⟨_, _, ⟨T1, L1, k1, n1⟩, -, X1, ⟨Lc1, hQ1, l1, y1, z1⟩, st1⟩ := Jvm.LawKit.callS X0 hx (y := (⟨"operand/Spelling", "key", "(JII)J"⟩ : MethodName)) hown (mvT hZ (hw _ (List.mem_of_getElem? (i := 2) rfl))) (mvT hZ (hw _ (List.mem_of_getElem? (i := 3) rfl))) (mvT hZ (hw _ (List.mem_of_getElem? (i := 4) rfl))) (mvT hZ (hw _ (List.mem_of_getElem? (i := 5) rfl))) (by decide) (backOf (W := 0) (rm1 l Z a0 hw [] q0 (p1 &&& (2147483647 : Int32)) (p2 &&& (65535 : Int32))  h0 ) hZ (hw _ (List.mem_of_getElem? (i := 5) rfl)) (hw _ (List.mem_of_getElem? (i := 4) rfl)) (by decide) (by decide)) (g := (mkF m 17 #[.val (.long q0), .second, .val (.int p1), .val (.int p2), .val (.int (p1 &&& (2147483647 : Int32))), .val (.int (p2 &&& (65535 : Int32))), .unset, .unset, .unset, .unset, .unset] [(.int (p2 &&& (65535 : Int32))), (.int (p1 &&& (2147483647 : Int32))), (.long q0)])) rfl (by rw [hml]; rfl) (argsL := [(.long q0), (.int (p1 &&& (2147483647 : Int32))), (.int (p2 &&& (65535 : Int32)))]) (rest := []) (lenOf pd_0 rfl) rfl (by show 2 * 0 + _ ≤ _; exact Nat.le_of_eq rfl) (hb hby at_17) (fun _ _ => ⟨rfl, e0, (by decide : 0 + 0 ≤ _), (by decide : 0 + 0 ≤ _)⟩)
  dsimp only [Pt.U, Pt.locs, Pt.cells, Pt.slots] at X1 l1 y1 z1 st1 hQ1
  subst l1 y1 z1
  obtain ⟨rfl, rfl, e1⟩ := hQ1
  try rw [List.append_nil] at X1
  have K2 : ∀ t, Steps p.tables e below (T1.setTop (mkF m 27 #[.val (.long q0), .second, .val (.int p1), .val (.int p2), .val (.int (p1 &&& (2147483647 : Int32))), .val (.int (p2 &&& (65535 : Int32))), .val (.long (f1 q0 (p1 &&& (2147483647 : Int32)) (p2 &&& (65535 : Int32)))), .second, .unset, .unset, .unset] [(.int ((p2 &&& (65535 : Int32)) &&& (65408 : Int32)))])) t → Steps p.tables e below (s₁.setTop (mkF m 0 #[.val (.long q0), .second, .val (.int p1), .val (.int p2), .unset, .unset, .unset, .unset, .unset, .unset, .unset] [])) t := by
    intro t kt
    show Steps p.tables e below (s₁.setTop (mkF m 0 #[.val (.long q0), .second, .val (.int p1), .val (.int p2), .unset, .unset, .unset, .unset, .unset, .unset, .unset] [])) _
    refine XS.iloadN X0.here hx rfl (hb hby at_0) rfl ?_
    show Steps p.tables e below (s₁.setTop (mkF m 1 #[.val (.long q0), .second, .val (.int p1), .val (.int p2), .unset, .unset, .unset, .unset, .unset, .unset, .unset] [(.int p1)])) _
    refine X0.ldcInt hx hown (mvT hZ (hw _ (List.mem_of_getElem? (i := 0) rfl))) (g := (mkF m 1 #[.val (.long q0), .second, .val (.int p1), .val (.int p2), .unset, .unset, .unset, .unset, .unset, .unset, .unset] [(.int p1)])) rfl (hb hby at_1) _ ?_
    show Steps p.tables e below (s₁.setTop (mkF m 3 #[.val (.long q0), .second, .val (.int p1), .val (.int p2), .unset, .unset, .unset, .unset, .unset, .unset, .unset] [(.int (2147483647 : Int32)), (.int p1)])) _
    refine XS.iand X0.here hx rfl (hb hby at_3) rfl ?_
    show Steps p.tables e below (s₁.setTop (mkF m 4 #[.val (.long q0), .second, .val (.int p1), .val (.int p2), .unset, .unset, .unset, .unset, .unset, .unset, .unset] [(.int (p1 &&& (2147483647 : Int32)))])) _
    refine XS.istore X0.here hx rfl (hb hby at_4) rfl (l' := #[.val (.long q0), .second, .val (.int p1), .val (.int p2), .val (.int (p1 &&& (2147483647 : Int32))), .unset, .unset, .unset, .unset, .unset, .unset]) rfl ?_
    show Steps p.tables e below (s₁.setTop (mkF m 6 #[.val (.long q0), .second, .val (.int p1), .val (.int p2), .val (.int (p1 &&& (2147483647 : Int32))), .unset, .unset, .unset, .unset, .unset, .unset] [])) _
    refine XS.iloadN X0.here hx rfl (hb hby at_6) rfl ?_
    show Steps p.tables e below (s₁.setTop (mkF m 7 #[.val (.long q0), .second, .val (.int p1), .val (.int p2), .val (.int (p1 &&& (2147483647 : Int32))), .unset, .unset, .unset, .unset, .unset, .unset] [(.int p2)])) _
    refine X0.ldcInt hx hown (mvT hZ (hw _ (List.mem_of_getElem? (i := 1) rfl))) (g := (mkF m 7 #[.val (.long q0), .second, .val (.int p1), .val (.int p2), .val (.int (p1 &&& (2147483647 : Int32))), .unset, .unset, .unset, .unset, .unset, .unset] [(.int p2)])) rfl (hb hby at_7) _ ?_
    show Steps p.tables e below (s₁.setTop (mkF m 9 #[.val (.long q0), .second, .val (.int p1), .val (.int p2), .val (.int (p1 &&& (2147483647 : Int32))), .unset, .unset, .unset, .unset, .unset, .unset] [(.int (65535 : Int32)), (.int p2)])) _
    refine XS.iand X0.here hx rfl (hb hby at_9) rfl ?_
    show Steps p.tables e below (s₁.setTop (mkF m 10 #[.val (.long q0), .second, .val (.int p1), .val (.int p2), .val (.int (p1 &&& (2147483647 : Int32))), .unset, .unset, .unset, .unset, .unset, .unset] [(.int (p2 &&& (65535 : Int32)))])) _
    refine XS.istore X0.here hx rfl (hb hby at_10) rfl (l' := #[.val (.long q0), .second, .val (.int p1), .val (.int p2), .val (.int (p1 &&& (2147483647 : Int32))), .val (.int (p2 &&& (65535 : Int32))), .unset, .unset, .unset, .unset, .unset]) rfl ?_
    show Steps p.tables e below (s₁.setTop (mkF m 12 #[.val (.long q0), .second, .val (.int p1), .val (.int p2), .val (.int (p1 &&& (2147483647 : Int32))), .val (.int (p2 &&& (65535 : Int32))), .unset, .unset, .unset, .unset, .unset] [])) _
    refine XS.lloadN X0.here hx rfl (hb hby at_12) rfl ?_
    show Steps p.tables e below (s₁.setTop (mkF m 13 #[.val (.long q0), .second, .val (.int p1), .val (.int p2), .val (.int (p1 &&& (2147483647 : Int32))), .val (.int (p2 &&& (65535 : Int32))), .unset, .unset, .unset, .unset, .unset] [(.long q0)])) _
    refine XS.iload X0.here hx rfl (hb hby at_13) rfl ?_
    show Steps p.tables e below (s₁.setTop (mkF m 15 #[.val (.long q0), .second, .val (.int p1), .val (.int p2), .val (.int (p1 &&& (2147483647 : Int32))), .val (.int (p2 &&& (65535 : Int32))), .unset, .unset, .unset, .unset, .unset] [(.int (p1 &&& (2147483647 : Int32))), (.long q0)])) _
    refine XS.iload X0.here hx rfl (hb hby at_15) rfl ?_
    show Steps p.tables e below (s₁.setTop (mkF m 17 #[.val (.long q0), .second, .val (.int p1), .val (.int p2), .val (.int (p1 &&& (2147483647 : Int32))), .val (.int (p2 &&& (65535 : Int32))), .unset, .unset, .unset, .unset, .unset] [(.int (p2 &&& (65535 : Int32))), (.int (p1 &&& (2147483647 : Int32))), (.long q0)])) _
    refine st1 _ ?_
    show Steps p.tables e below (T1.setTop (mkF m 20 #[.val (.long q0), .second, .val (.int p1), .val (.int p2), .val (.int (p1 &&& (2147483647 : Int32))), .val (.int (p2 &&& (65535 : Int32))), .unset, .unset, .unset, .unset, .unset] [(.long (f1 q0 (p1 &&& (2147483647 : Int32)) (p2 &&& (65535 : Int32))))])) _
    refine XS.lstore X1.here hx rfl (hb hby at_20) rfl (l' := #[.val (.long q0), .second, .val (.int p1), .val (.int p2), .val (.int (p1 &&& (2147483647 : Int32))), .val (.int (p2 &&& (65535 : Int32))), .val (.long (f1 q0 (p1 &&& (2147483647 : Int32)) (p2 &&& (65535 : Int32)))), .second, .unset, .unset, .unset]) rfl ?_
    show Steps p.tables e below (T1.setTop (mkF m 22 #[.val (.long q0), .second, .val (.int p1), .val (.int p2), .val (.int (p1 &&& (2147483647 : Int32))), .val (.int (p2 &&& (65535 : Int32))), .val (.long (f1 q0 (p1 &&& (2147483647 : Int32)) (p2 &&& (65535 : Int32)))), .second, .unset, .unset, .unset] [])) _
    refine XS.iload X1.here hx rfl (hb hby at_22) rfl ?_
    show Steps p.tables e below (T1.setTop (mkF m 24 #[.val (.long q0), .second, .val (.int p1), .val (.int p2), .val (.int (p1 &&& (2147483647 : Int32))), .val (.int (p2 &&& (65535 : Int32))), .val (.long (f1 q0 (p1 &&& (2147483647 : Int32)) (p2 &&& (65535 : Int32)))), .second, .unset, .unset, .unset] [(.int (p2 &&& (65535 : Int32)))])) _
    refine X1.ldcInt hx hown (mvT hZ (hw _ (List.mem_of_getElem? (i := 6) rfl))) (g := (mkF m 24 #[.val (.long q0), .second, .val (.int p1), .val (.int p2), .val (.int (p1 &&& (2147483647 : Int32))), .val (.int (p2 &&& (65535 : Int32))), .val (.long (f1 q0 (p1 &&& (2147483647 : Int32)) (p2 &&& (65535 : Int32)))), .second, .unset, .unset, .unset] [(.int (p2 &&& (65535 : Int32)))])) rfl (hb hby at_24) _ ?_
    show Steps p.tables e below (T1.setTop (mkF m 26 #[.val (.long q0), .second, .val (.int p1), .val (.int p2), .val (.int (p1 &&& (2147483647 : Int32))), .val (.int (p2 &&& (65535 : Int32))), .val (.long (f1 q0 (p1 &&& (2147483647 : Int32)) (p2 &&& (65535 : Int32)))), .second, .unset, .unset, .unset] [(.int (65408 : Int32)), (.int (p2 &&& (65535 : Int32)))])) _
    refine XS.iand X1.here hx rfl (hb hby at_26) rfl ?_
    exact kt
  by_cases hc3 : ((p2 &&& (65535 : Int32)) &&& (65408 : Int32)) = (0 : Int32)
  · skip
    have K4 : ∀ t, Steps p.tables e below (T1.setTop (mkF m 41 #[.val (.long q0), .second, .val (.int p1), .val (.int p2), .val (.int (p1 &&& (2147483647 : Int32))), .val (.int (p2 &&& (65535 : Int32))), .val (.long (f1 q0 (p1 &&& (2147483647 : Int32)) (p2 &&& (65535 : Int32)))), .second, .val (.int (1 : Int32)), .unset, .unset] [(.int (10 : Int32)), (.int (p1 &&& (2147483647 : Int32)))])) t → Steps p.tables e below (s₁.setTop (mkF m 0 #[.val (.long q0), .second, .val (.int p1), .val (.int p2), .unset, .unset, .unset, .unset, .unset, .unset, .unset] [])) t := by
      intro t kt
      refine K2 _ ?_
      show Steps p.tables e below (T1.setTop (mkF m 27 #[.val (.long q0), .second, .val (.int p1), .val (.int p2), .val (.int (p1 &&& (2147483647 : Int32))), .val (.int (p2 &&& (65535 : Int32))), .val (.long (f1 q0 (p1 &&& (2147483647 : Int32)) (p2 &&& (65535 : Int32)))), .second, .unset, .unset, .unset] [(.int ((p2 &&& (65535 : Int32)) &&& (65408 : Int32)))])) _
      refine XS.ifNo X1.here hx rfl (hb hby at_27) rfl ((if0 _ _).trans (teq hc3).2) ?_
      show Steps p.tables e below (T1.setTop (mkF m 30 #[.val (.long q0), .second, .val (.int p1), .val (.int p2), .val (.int (p1 &&& (2147483647 : Int32))), .val (.int (p2 &&& (65535 : Int32))), .val (.long (f1 q0 (p1 &&& (2147483647 : Int32)) (p2 &&& (65535 : Int32)))), .second, .unset, .unset, .unset] [])) _
      refine XS.iconst X1.here hx rfl (hb hby at_30) ?_
      show Steps p.tables e below (T1.setTop (mkF m 31 #[.val (.long q0), .second, .val (.int p1), .val (.int p2), .val (.int (p1 &&& (2147483647 : Int32))), .val (.int (p2 &&& (65535 : Int32))), .val (.long (f1 q0 (p1 &&& (2147483647 : Int32)) (p2 &&& (65535 : Int32)))), .second, .unset, .unset, .unset] [(.int (1 : Int32))])) _
      refine XS.goto X1.here hx rfl (pc0 := 31) (pc' := 35) rfl (hb hby at_31) (by decide) (by decide) ?_
      show Steps p.tables e below (T1.setTop (mkF m 35 #[.val (.long q0), .second, .val (.int p1), .val (.int p2), .val (.int (p1 &&& (2147483647 : Int32))), .val (.int (p2 &&& (65535 : Int32))), .val (.long (f1 q0 (p1 &&& (2147483647 : Int32)) (p2 &&& (65535 : Int32)))), .second, .unset, .unset, .unset] [(.int (1 : Int32))])) _
      refine XS.istore X1.here hx rfl (hb hby at_35) rfl (l' := #[.val (.long q0), .second, .val (.int p1), .val (.int p2), .val (.int (p1 &&& (2147483647 : Int32))), .val (.int (p2 &&& (65535 : Int32))), .val (.long (f1 q0 (p1 &&& (2147483647 : Int32)) (p2 &&& (65535 : Int32)))), .second, .val (.int (1 : Int32)), .unset, .unset]) rfl ?_
      show Steps p.tables e below (T1.setTop (mkF m 37 #[.val (.long q0), .second, .val (.int p1), .val (.int p2), .val (.int (p1 &&& (2147483647 : Int32))), .val (.int (p2 &&& (65535 : Int32))), .val (.long (f1 q0 (p1 &&& (2147483647 : Int32)) (p2 &&& (65535 : Int32)))), .second, .val (.int (1 : Int32)), .unset, .unset] [])) _
      refine XS.iload X1.here hx rfl (hb hby at_37) rfl ?_
      show Steps p.tables e below (T1.setTop (mkF m 39 #[.val (.long q0), .second, .val (.int p1), .val (.int p2), .val (.int (p1 &&& (2147483647 : Int32))), .val (.int (p2 &&& (65535 : Int32))), .val (.long (f1 q0 (p1 &&& (2147483647 : Int32)) (p2 &&& (65535 : Int32)))), .second, .val (.int (1 : Int32)), .unset, .unset] [(.int (p1 &&& (2147483647 : Int32)))])) _
      refine XS.bipush X1.here hx rfl (hb hby at_39) ?_
      exact kt
    by_cases hc5 : (p1 &&& (2147483647 : Int32)) < (10 : Int32)
    · skip
      have K6 : ∀ t, Steps p.tables e below (T1.setTop (mkF m 61 #[.val (.long q0), .second, .val (.int p1), .val (.int p2), .val (.int (p1 &&& (2147483647 : Int32))), .val (.int (p2 &&& (65535 : Int32))), .val (.long (f1 q0 (p1 &&& (2147483647 : Int32)) (p2 &&& (65535 : Int32)))), .second, .val (.int (1 : Int32)), .val (.int (1 : Int32)), .unset] [(.int (lcmpW (((f1 q0 (p1 &&& (2147483647 : Int32)) (p2 &&& (65535 : Int32))) ^^^ q0) &&& (9223372036854775807 : Int64)) (0 : Int64)))])) t → Steps p.tables e below (s₁.setTop (mkF m 0 #[.val (.long q0), .second, .val (.int p1), .val (.int p2), .unset, .unset, .unset, .unset, .unset, .unset, .unset] [])) t := by
        intro t kt
        refine K4 _ ?_
        show Steps p.tables e below (T1.setTop (mkF m 41 #[.val (.long q0), .second, .val (.int p1), .val (.int p2), .val (.int (p1 &&& (2147483647 : Int32))), .val (.int (p2 &&& (65535 : Int32))), .val (.long (f1 q0 (p1 &&& (2147483647 : Int32)) (p2 &&& (65535 : Int32)))), .second, .val (.int (1 : Int32)), .unset, .unset] [(.int (10 : Int32)), (.int (p1 &&& (2147483647 : Int32)))])) _
        refine XS.icmpNo X1.here hx rfl (hb hby at_41) rfl (tlt hc5).2.1 ?_
        show Steps p.tables e below (T1.setTop (mkF m 44 #[.val (.long q0), .second, .val (.int p1), .val (.int p2), .val (.int (p1 &&& (2147483647 : Int32))), .val (.int (p2 &&& (65535 : Int32))), .val (.long (f1 q0 (p1 &&& (2147483647 : Int32)) (p2 &&& (65535 : Int32)))), .second, .val (.int (1 : Int32)), .unset, .unset] [])) _
        refine XS.iconst X1.here hx rfl (hb hby at_44) ?_
        show Steps p.tables e below (T1.setTop (mkF m 45 #[.val (.long q0), .second, .val (.int p1), .val (.int p2), .val (.int (p1 &&& (2147483647 : Int32))), .val (.int (p2 &&& (65535 : Int32))), .val (.long (f1 q0 (p1 &&& (2147483647 : Int32)) (p2 &&& (65535 : Int32)))), .second, .val (.int (1 : Int32)), .unset, .unset] [(.int (1 : Int32))])) _
        refine XS.goto X1.here hx rfl (pc0 := 45) (pc' := 49) rfl (hb hby at_45) (by decide) (by decide) ?_
        show Steps p.tables e below (T1.setTop (mkF m 49 #[.val (.long q0), .second, .val (.int p1), .val (.int p2), .val (.int (p1 &&& (2147483647 : Int32))), .val (.int (p2 &&& (65535 : Int32))), .val (.long (f1 q0 (p1 &&& (2147483647 : Int32)) (p2 &&& (65535 : Int32)))), .second, .val (.int (1 : Int32)), .unset, .unset] [(.int (1 : Int32))])) _
        refine XS.istore X1.here hx rfl (hb hby at_49) rfl (l' := #[.val (.long q0), .second, .val (.int p1), .val (.int p2), .val (.int (p1 &&& (2147483647 : Int32))), .val (.int (p2 &&& (65535 : Int32))), .val (.long (f1 q0 (p1 &&& (2147483647 : Int32)) (p2 &&& (65535 : Int32)))), .second, .val (.int (1 : Int32)), .val (.int (1 : Int32)), .unset]) rfl ?_
        show Steps p.tables e below (T1.setTop (mkF m 51 #[.val (.long q0), .second, .val (.int p1), .val (.int p2), .val (.int (p1 &&& (2147483647 : Int32))), .val (.int (p2 &&& (65535 : Int32))), .val (.long (f1 q0 (p1 &&& (2147483647 : Int32)) (p2 &&& (65535 : Int32)))), .second, .val (.int (1 : Int32)), .val (.int (1 : Int32)), .unset] [])) _
        refine XS.lload X1.here hx rfl (hb hby at_51) rfl ?_
        show Steps p.tables e below (T1.setTop (mkF m 53 #[.val (.long q0), .second, .val (.int p1), .val (.int p2), .val (.int (p1 &&& (2147483647 : Int32))), .val (.int (p2 &&& (65535 : Int32))), .val (.long (f1 q0 (p1 &&& (2147483647 : Int32)) (p2 &&& (65535 : Int32)))), .second, .val (.int (1 : Int32)), .val (.int (1 : Int32)), .unset] [(.long (f1 q0 (p1 &&& (2147483647 : Int32)) (p2 &&& (65535 : Int32))))])) _
        refine XS.lloadN X1.here hx rfl (hb hby at_53) rfl ?_
        show Steps p.tables e below (T1.setTop (mkF m 54 #[.val (.long q0), .second, .val (.int p1), .val (.int p2), .val (.int (p1 &&& (2147483647 : Int32))), .val (.int (p2 &&& (65535 : Int32))), .val (.long (f1 q0 (p1 &&& (2147483647 : Int32)) (p2 &&& (65535 : Int32)))), .second, .val (.int (1 : Int32)), .val (.int (1 : Int32)), .unset] [(.long q0), (.long (f1 q0 (p1 &&& (2147483647 : Int32)) (p2 &&& (65535 : Int32))))])) _
        refine XS.lxor X1.here hx rfl (hb hby at_54) rfl ?_
        show Steps p.tables e below (T1.setTop (mkF m 55 #[.val (.long q0), .second, .val (.int p1), .val (.int p2), .val (.int (p1 &&& (2147483647 : Int32))), .val (.int (p2 &&& (65535 : Int32))), .val (.long (f1 q0 (p1 &&& (2147483647 : Int32)) (p2 &&& (65535 : Int32)))), .second, .val (.int (1 : Int32)), .val (.int (1 : Int32)), .unset] [(.long ((f1 q0 (p1 &&& (2147483647 : Int32)) (p2 &&& (65535 : Int32))) ^^^ q0))])) _
        refine X1.ldc2Long hx hown (mvT hZ (hw _ (List.mem_of_getElem? (i := 7) rfl))) (g := (mkF m 55 #[.val (.long q0), .second, .val (.int p1), .val (.int p2), .val (.int (p1 &&& (2147483647 : Int32))), .val (.int (p2 &&& (65535 : Int32))), .val (.long (f1 q0 (p1 &&& (2147483647 : Int32)) (p2 &&& (65535 : Int32)))), .second, .val (.int (1 : Int32)), .val (.int (1 : Int32)), .unset] [(.long ((f1 q0 (p1 &&& (2147483647 : Int32)) (p2 &&& (65535 : Int32))) ^^^ q0))])) rfl (hb hby at_55) _ ?_
        show Steps p.tables e below (T1.setTop (mkF m 58 #[.val (.long q0), .second, .val (.int p1), .val (.int p2), .val (.int (p1 &&& (2147483647 : Int32))), .val (.int (p2 &&& (65535 : Int32))), .val (.long (f1 q0 (p1 &&& (2147483647 : Int32)) (p2 &&& (65535 : Int32)))), .second, .val (.int (1 : Int32)), .val (.int (1 : Int32)), .unset] [(.long (9223372036854775807 : Int64)), (.long ((f1 q0 (p1 &&& (2147483647 : Int32)) (p2 &&& (65535 : Int32))) ^^^ q0))])) _
        refine XS.land X1.here hx rfl (hb hby at_58) rfl ?_
        show Steps p.tables e below (T1.setTop (mkF m 59 #[.val (.long q0), .second, .val (.int p1), .val (.int p2), .val (.int (p1 &&& (2147483647 : Int32))), .val (.int (p2 &&& (65535 : Int32))), .val (.long (f1 q0 (p1 &&& (2147483647 : Int32)) (p2 &&& (65535 : Int32)))), .second, .val (.int (1 : Int32)), .val (.int (1 : Int32)), .unset] [(.long (((f1 q0 (p1 &&& (2147483647 : Int32)) (p2 &&& (65535 : Int32))) ^^^ q0) &&& (9223372036854775807 : Int64)))])) _
        refine XS.lconst X1.here hx rfl (hb hby at_59) ?_
        show Steps p.tables e below (T1.setTop (mkF m 60 #[.val (.long q0), .second, .val (.int p1), .val (.int p2), .val (.int (p1 &&& (2147483647 : Int32))), .val (.int (p2 &&& (65535 : Int32))), .val (.long (f1 q0 (p1 &&& (2147483647 : Int32)) (p2 &&& (65535 : Int32)))), .second, .val (.int (1 : Int32)), .val (.int (1 : Int32)), .unset] [(.long (0 : Int64)), (.long (((f1 q0 (p1 &&& (2147483647 : Int32)) (p2 &&& (65535 : Int32))) ^^^ q0) &&& (9223372036854775807 : Int64)))])) _
        refine XS.lcmp X1.here hx rfl (hb hby at_60) rfl ?_
        exact kt
      by_cases hc7 : (((f1 q0 (p1 &&& (2147483647 : Int32)) (p2 &&& (65535 : Int32))) ^^^ q0) &&& (9223372036854775807 : Int64)) = (0 : Int64)
      · skip
        have K8 : ∀ t, Steps p.tables e below (T1.setTop (mkF m 90 #[.val (.long q0), .second, .val (.int p1), .val (.int p2), .val (.int (p1 &&& (2147483647 : Int32))), .val (.int (p2 &&& (65535 : Int32))), .val (.long (f1 q0 (p1 &&& (2147483647 : Int32)) (p2 &&& (65535 : Int32)))), .second, .val (.int (1 : Int32)), .val (.int (1 : Int32)), .val (.int (1 : Int32))] [(.int (lcmpW (f1 q0 (p1 &&& (2147483647 : Int32)) (p2 &&& (65535 : Int32))) q0))])) t → Steps p.tables e below (s₁.setTop (mkF m 0 #[.val (.long q0), .second, .val (.int p1), .val (.int p2), .unset, .unset, .unset, .unset, .unset, .unset, .unset] [])) t := by
          intro t kt
          refine K6 _ ?_
          show Steps p.tables e below (T1.setTop (mkF m 61 #[.val (.long q0), .second, .val (.int p1), .val (.int p2), .val (.int (p1 &&& (2147483647 : Int32))), .val (.int (p2 &&& (65535 : Int32))), .val (.long (f1 q0 (p1 &&& (2147483647 : Int32)) (p2 &&& (65535 : Int32)))), .second, .val (.int (1 : Int32)), .val (.int (1 : Int32)), .unset] [(.int (lcmpW (((f1 q0 (p1 &&& (2147483647 : Int32)) (p2 &&& (65535 : Int32))) ^^^ q0) &&& (9223372036854775807 : Int64)) (0 : Int64)))])) _
          refine XS.ifNo X1.here hx rfl (hb hby at_61) rfl ((if0 _ _).trans (teq ((lw_eq _ _).mpr hc7)).2) ?_
          show Steps p.tables e below (T1.setTop (mkF m 64 #[.val (.long q0), .second, .val (.int p1), .val (.int p2), .val (.int (p1 &&& (2147483647 : Int32))), .val (.int (p2 &&& (65535 : Int32))), .val (.long (f1 q0 (p1 &&& (2147483647 : Int32)) (p2 &&& (65535 : Int32)))), .second, .val (.int (1 : Int32)), .val (.int (1 : Int32)), .unset] [])) _
          refine XS.iconst X1.here hx rfl (hb hby at_64) ?_
          show Steps p.tables e below (T1.setTop (mkF m 65 #[.val (.long q0), .second, .val (.int p1), .val (.int p2), .val (.int (p1 &&& (2147483647 : Int32))), .val (.int (p2 &&& (65535 : Int32))), .val (.long (f1 q0 (p1 &&& (2147483647 : Int32)) (p2 &&& (65535 : Int32)))), .second, .val (.int (1 : Int32)), .val (.int (1 : Int32)), .unset] [(.int (1 : Int32))])) _
          refine XS.goto X1.here hx rfl (pc0 := 65) (pc' := 69) rfl (hb hby at_65) (by decide) (by decide) ?_
          show Steps p.tables e below (T1.setTop (mkF m 69 #[.val (.long q0), .second, .val (.int p1), .val (.int p2), .val (.int (p1 &&& (2147483647 : Int32))), .val (.int (p2 &&& (65535 : Int32))), .val (.long (f1 q0 (p1 &&& (2147483647 : Int32)) (p2 &&& (65535 : Int32)))), .second, .val (.int (1 : Int32)), .val (.int (1 : Int32)), .unset] [(.int (1 : Int32))])) _
          refine XS.istore X1.here hx rfl (hb hby at_69) rfl (l' := #[.val (.long q0), .second, .val (.int p1), .val (.int p2), .val (.int (p1 &&& (2147483647 : Int32))), .val (.int (p2 &&& (65535 : Int32))), .val (.long (f1 q0 (p1 &&& (2147483647 : Int32)) (p2 &&& (65535 : Int32)))), .second, .val (.int (1 : Int32)), .val (.int (1 : Int32)), .val (.int (1 : Int32))]) rfl ?_
          show Steps p.tables e below (T1.setTop (mkF m 71 #[.val (.long q0), .second, .val (.int p1), .val (.int p2), .val (.int (p1 &&& (2147483647 : Int32))), .val (.int (p2 &&& (65535 : Int32))), .val (.long (f1 q0 (p1 &&& (2147483647 : Int32)) (p2 &&& (65535 : Int32)))), .second, .val (.int (1 : Int32)), .val (.int (1 : Int32)), .val (.int (1 : Int32))] [])) _
          refine XS.iload X1.here hx rfl (hb hby at_71) rfl ?_
          show Steps p.tables e below (T1.setTop (mkF m 73 #[.val (.long q0), .second, .val (.int p1), .val (.int p2), .val (.int (p1 &&& (2147483647 : Int32))), .val (.int (p2 &&& (65535 : Int32))), .val (.long (f1 q0 (p1 &&& (2147483647 : Int32)) (p2 &&& (65535 : Int32)))), .second, .val (.int (1 : Int32)), .val (.int (1 : Int32)), .val (.int (1 : Int32))] [(.int (1 : Int32))])) _
          refine XS.ifNo X1.here hx rfl (hb hby at_73) rfl ((if0 _ _).trans (feq (by decide : ¬ ((1 : Int32) = (0 : Int32)))).1) ?_
          show Steps p.tables e below (T1.setTop (mkF m 76 #[.val (.long q0), .second, .val (.int p1), .val (.int p2), .val (.int (p1 &&& (2147483647 : Int32))), .val (.int (p2 &&& (65535 : Int32))), .val (.long (f1 q0 (p1 &&& (2147483647 : Int32)) (p2 &&& (65535 : Int32)))), .second, .val (.int (1 : Int32)), .val (.int (1 : Int32)), .val (.int (1 : Int32))] [])) _
          refine XS.iload X1.here hx rfl (hb hby at_76) rfl ?_
          show Steps p.tables e below (T1.setTop (mkF m 78 #[.val (.long q0), .second, .val (.int p1), .val (.int p2), .val (.int (p1 &&& (2147483647 : Int32))), .val (.int (p2 &&& (65535 : Int32))), .val (.long (f1 q0 (p1 &&& (2147483647 : Int32)) (p2 &&& (65535 : Int32)))), .second, .val (.int (1 : Int32)), .val (.int (1 : Int32)), .val (.int (1 : Int32))] [(.int (1 : Int32))])) _
          refine XS.ifNo X1.here hx rfl (hb hby at_78) rfl ((if0 _ _).trans (feq (by decide : ¬ ((1 : Int32) = (0 : Int32)))).1) ?_
          show Steps p.tables e below (T1.setTop (mkF m 81 #[.val (.long q0), .second, .val (.int p1), .val (.int p2), .val (.int (p1 &&& (2147483647 : Int32))), .val (.int (p2 &&& (65535 : Int32))), .val (.long (f1 q0 (p1 &&& (2147483647 : Int32)) (p2 &&& (65535 : Int32)))), .second, .val (.int (1 : Int32)), .val (.int (1 : Int32)), .val (.int (1 : Int32))] [])) _
          refine XS.iload X1.here hx rfl (hb hby at_81) rfl ?_
          show Steps p.tables e below (T1.setTop (mkF m 83 #[.val (.long q0), .second, .val (.int p1), .val (.int p2), .val (.int (p1 &&& (2147483647 : Int32))), .val (.int (p2 &&& (65535 : Int32))), .val (.long (f1 q0 (p1 &&& (2147483647 : Int32)) (p2 &&& (65535 : Int32)))), .second, .val (.int (1 : Int32)), .val (.int (1 : Int32)), .val (.int (1 : Int32))] [(.int (1 : Int32))])) _
          refine XS.ifNo X1.here hx rfl (hb hby at_83) rfl ((if0 _ _).trans (feq (by decide : ¬ ((1 : Int32) = (0 : Int32)))).1) ?_
          show Steps p.tables e below (T1.setTop (mkF m 86 #[.val (.long q0), .second, .val (.int p1), .val (.int p2), .val (.int (p1 &&& (2147483647 : Int32))), .val (.int (p2 &&& (65535 : Int32))), .val (.long (f1 q0 (p1 &&& (2147483647 : Int32)) (p2 &&& (65535 : Int32)))), .second, .val (.int (1 : Int32)), .val (.int (1 : Int32)), .val (.int (1 : Int32))] [])) _
          refine XS.lload X1.here hx rfl (hb hby at_86) rfl ?_
          show Steps p.tables e below (T1.setTop (mkF m 88 #[.val (.long q0), .second, .val (.int p1), .val (.int p2), .val (.int (p1 &&& (2147483647 : Int32))), .val (.int (p2 &&& (65535 : Int32))), .val (.long (f1 q0 (p1 &&& (2147483647 : Int32)) (p2 &&& (65535 : Int32)))), .second, .val (.int (1 : Int32)), .val (.int (1 : Int32)), .val (.int (1 : Int32))] [(.long (f1 q0 (p1 &&& (2147483647 : Int32)) (p2 &&& (65535 : Int32))))])) _
          refine XS.lloadN X1.here hx rfl (hb hby at_88) rfl ?_
          show Steps p.tables e below (T1.setTop (mkF m 89 #[.val (.long q0), .second, .val (.int p1), .val (.int p2), .val (.int (p1 &&& (2147483647 : Int32))), .val (.int (p2 &&& (65535 : Int32))), .val (.long (f1 q0 (p1 &&& (2147483647 : Int32)) (p2 &&& (65535 : Int32)))), .second, .val (.int (1 : Int32)), .val (.int (1 : Int32)), .val (.int (1 : Int32))] [(.long q0), (.long (f1 q0 (p1 &&& (2147483647 : Int32)) (p2 &&& (65535 : Int32))))])) _
          refine XS.lcmp X1.here hx rfl (hb hby at_89) rfl ?_
          exact kt
        by_cases hc9 : (f1 q0 (p1 &&& (2147483647 : Int32)) (p2 &&& (65535 : Int32))) = q0
        · skip
          have K10 : ∀ t, Steps p.tables e below (T1.setTop (mkF m 98 #[.val (.long q0), .second, .val (.int p1), .val (.int p2), .val (.int (p1 &&& (2147483647 : Int32))), .val (.int (p2 &&& (65535 : Int32))), .val (.long (f1 q0 (p1 &&& (2147483647 : Int32)) (p2 &&& (65535 : Int32)))), .second, .val (.int (1 : Int32)), .val (.int (1 : Int32)), .val (.int (1 : Int32))] [(.int (1 : Int32))])) t → Steps p.tables e below (s₁.setTop (mkF m 0 #[.val (.long q0), .second, .val (.int p1), .val (.int p2), .unset, .unset, .unset, .unset, .unset, .unset, .unset] [])) t := by
            intro t kt
            refine K8 _ ?_
            show Steps p.tables e below (T1.setTop (mkF m 90 #[.val (.long q0), .second, .val (.int p1), .val (.int p2), .val (.int (p1 &&& (2147483647 : Int32))), .val (.int (p2 &&& (65535 : Int32))), .val (.long (f1 q0 (p1 &&& (2147483647 : Int32)) (p2 &&& (65535 : Int32)))), .second, .val (.int (1 : Int32)), .val (.int (1 : Int32)), .val (.int (1 : Int32))] [(.int (lcmpW (f1 q0 (p1 &&& (2147483647 : Int32)) (p2 &&& (65535 : Int32))) q0))])) _
            refine XS.ifNo X1.here hx rfl (hb hby at_90) rfl ((if0 _ _).trans (teq ((lw_eq _ _).mpr hc9)).2) ?_
            show Steps p.tables e below (T1.setTop (mkF m 93 #[.val (.long q0), .second, .val (.int p1), .val (.int p2), .val (.int (p1 &&& (2147483647 : Int32))), .val (.int (p2 &&& (65535 : Int32))), .val (.long (f1 q0 (p1 &&& (2147483647 : Int32)) (p2 &&& (65535 : Int32)))), .second, .val (.int (1 : Int32)), .val (.int (1 : Int32)), .val (.int (1 : Int32))] [])) _
            refine XS.iconst X1.here hx rfl (hb hby at_93) ?_
            show Steps p.tables e below (T1.setTop (mkF m 94 #[.val (.long q0), .second, .val (.int p1), .val (.int p2), .val (.int (p1 &&& (2147483647 : Int32))), .val (.int (p2 &&& (65535 : Int32))), .val (.long (f1 q0 (p1 &&& (2147483647 : Int32)) (p2 &&& (65535 : Int32)))), .second, .val (.int (1 : Int32)), .val (.int (1 : Int32)), .val (.int (1 : Int32))] [(.int (1 : Int32))])) _
            refine XS.goto X1.here hx rfl (pc0 := 94) (pc' := 98) rfl (hb hby at_94) (by decide) (by decide) ?_
            exact kt
          have hv : f0 q0 p1 p2 = (1 : Int32) := by simp only [f0, if_pos hc3, if_pos hc5, if_pos hc7, if_pos hc9]
          obtain ⟨fs, hr, hrun, hended, hW, hsame⟩ := X1.leave (v := some (.int (1 : Int32))) (fun h => by rw [Bd.returns] at h; cases h)
          refine ⟨_, _, pre0 _ (K10 _ ?_), hrun, hended, _, _, rfl, ?_, ⟨_, rfl⟩, hW, hsame.mono (by decide) (by decide)⟩
          · show Steps p.tables e below (T1.setTop (mkF m 98 #[.val (.long q0), .second, .val (.int p1), .val (.int p2), .val (.int (p1 &&& (2147483647 : Int32))), .val (.int (p2 &&& (65535 : Int32))), .val (.long (f1 q0 (p1 &&& (2147483647 : Int32)) (p2 &&& (65535 : Int32)))), .second, .val (.int (1 : Int32)), .val (.int (1 : Int32)), .val (.int (1 : Int32))] [(.int (1 : Int32))])) _
            exact retN X1 hx (t := .boolean) Bd.returns (by simp) (hb hby at_98) hr
          · show Q0 Z q0 p1 p2  h0 _ T1.heap _
            rw [e1]
            exact ⟨by rw [hv], rfl, rfl⟩
        · skip
          have K11 : ∀ t, Steps p.tables e below (T1.setTop (mkF m 98 #[.val (.long q0), .second, .val (.int p1), .val (.int p2), .val (.int (p1 &&& (2147483647 : Int32))), .val (.int (p2 &&& (65535 : Int32))), .val (.long (f1 q0 (p1 &&& (2147483647 : Int32)) (p2 &&& (65535 : Int32)))), .second, .val (.int (1 : Int32)), .val (.int (1 : Int32)), .val (.int (1 : Int32))] [(.int (0 : Int32))])) t → Steps p.tables e below (s₁.setTop (mkF m 0 #[.val (.long q0), .second, .val (.int p1), .val (.int p2), .unset, .unset, .unset, .unset, .unset, .unset, .unset] [])) t := by
            intro t kt
            refine K8 _ ?_
            show Steps p.tables e below (T1.setTop (mkF m 90 #[.val (.long q0), .second, .val (.int p1), .val (.int p2), .val (.int (p1 &&& (2147483647 : Int32))), .val (.int (p2 &&& (65535 : Int32))), .val (.long (f1 q0 (p1 &&& (2147483647 : Int32)) (p2 &&& (65535 : Int32)))), .second, .val (.int (1 : Int32)), .val (.int (1 : Int32)), .val (.int (1 : Int32))] [(.int (lcmpW (f1 q0 (p1 &&& (2147483647 : Int32)) (p2 &&& (65535 : Int32))) q0))])) _
            refine XS.ifYes X1.here hx rfl (pc0 := 90) (pc' := 97) rfl (hb hby at_90) rfl ((if0 _ _).trans (feq (mt (lw_eq _ _).mp hc9)).2) (by decide) (by decide) ?_
            show Steps p.tables e below (T1.setTop (mkF m 97 #[.val (.long q0), .second, .val (.int p1), .val (.int p2), .val (.int (p1 &&& (2147483647 : Int32))), .val (.int (p2 &&& (65535 : Int32))), .val (.long (f1 q0 (p1 &&& (2147483647 : Int32)) (p2 &&& (65535 : Int32)))), .second, .val (.int (1 : Int32)), .val (.int (1 : Int32)), .val (.int (1 : Int32))] [])) _
            refine XS.iconst X1.here hx rfl (hb hby at_97) ?_
            exact kt
          have hv : f0 q0 p1 p2 = (0 : Int32) := by simp only [f0, if_pos hc3, if_pos hc5, if_pos hc7, if_neg hc9]
          obtain ⟨fs, hr, hrun, hended, hW, hsame⟩ := X1.leave (v := some (.int (0 : Int32))) (fun h => by rw [Bd.returns] at h; cases h)
          refine ⟨_, _, pre0 _ (K11 _ ?_), hrun, hended, _, _, rfl, ?_, ⟨_, rfl⟩, hW, hsame.mono (by decide) (by decide)⟩
          · show Steps p.tables e below (T1.setTop (mkF m 98 #[.val (.long q0), .second, .val (.int p1), .val (.int p2), .val (.int (p1 &&& (2147483647 : Int32))), .val (.int (p2 &&& (65535 : Int32))), .val (.long (f1 q0 (p1 &&& (2147483647 : Int32)) (p2 &&& (65535 : Int32)))), .second, .val (.int (1 : Int32)), .val (.int (1 : Int32)), .val (.int (1 : Int32))] [(.int (0 : Int32))])) _
            exact retN X1 hx (t := .boolean) Bd.returns (by simp) (hb hby at_98) hr
          · show Q0 Z q0 p1 p2  h0 _ T1.heap _
            rw [e1]
            exact ⟨by rw [hv], rfl, rfl⟩
      · skip
        have K12 : ∀ t, Steps p.tables e below (T1.setTop (mkF m 98 #[.val (.long q0), .second, .val (.int p1), .val (.int p2), .val (.int (p1 &&& (2147483647 : Int32))), .val (.int (p2 &&& (65535 : Int32))), .val (.long (f1 q0 (p1 &&& (2147483647 : Int32)) (p2 &&& (65535 : Int32)))), .second, .val (.int (1 : Int32)), .val (.int (1 : Int32)), .val (.int (0 : Int32))] [(.int (0 : Int32))])) t → Steps p.tables e below (s₁.setTop (mkF m 0 #[.val (.long q0), .second, .val (.int p1), .val (.int p2), .unset, .unset, .unset, .unset, .unset, .unset, .unset] [])) t := by
          intro t kt
          refine K6 _ ?_
          show Steps p.tables e below (T1.setTop (mkF m 61 #[.val (.long q0), .second, .val (.int p1), .val (.int p2), .val (.int (p1 &&& (2147483647 : Int32))), .val (.int (p2 &&& (65535 : Int32))), .val (.long (f1 q0 (p1 &&& (2147483647 : Int32)) (p2 &&& (65535 : Int32)))), .second, .val (.int (1 : Int32)), .val (.int (1 : Int32)), .unset] [(.int (lcmpW (((f1 q0 (p1 &&& (2147483647 : Int32)) (p2 &&& (65535 : Int32))) ^^^ q0) &&& (9223372036854775807 : Int64)) (0 : Int64)))])) _
          refine XS.ifYes X1.here hx rfl (pc0 := 61) (pc' := 68) rfl (hb hby at_61) rfl ((if0 _ _).trans (feq (mt (lw_eq _ _).mp hc7)).2) (by decide) (by decide) ?_
          show Steps p.tables e below (T1.setTop (mkF m 68 #[.val (.long q0), .second, .val (.int p1), .val (.int p2), .val (.int (p1 &&& (2147483647 : Int32))), .val (.int (p2 &&& (65535 : Int32))), .val (.long (f1 q0 (p1 &&& (2147483647 : Int32)) (p2 &&& (65535 : Int32)))), .second, .val (.int (1 : Int32)), .val (.int (1 : Int32)), .unset] [])) _
          refine XS.iconst X1.here hx rfl (hb hby at_68) ?_
          show Steps p.tables e below (T1.setTop (mkF m 69 #[.val (.long q0), .second, .val (.int p1), .val (.int p2), .val (.int (p1 &&& (2147483647 : Int32))), .val (.int (p2 &&& (65535 : Int32))), .val (.long (f1 q0 (p1 &&& (2147483647 : Int32)) (p2 &&& (65535 : Int32)))), .second, .val (.int (1 : Int32)), .val (.int (1 : Int32)), .unset] [(.int (0 : Int32))])) _
          refine XS.istore X1.here hx rfl (hb hby at_69) rfl (l' := #[.val (.long q0), .second, .val (.int p1), .val (.int p2), .val (.int (p1 &&& (2147483647 : Int32))), .val (.int (p2 &&& (65535 : Int32))), .val (.long (f1 q0 (p1 &&& (2147483647 : Int32)) (p2 &&& (65535 : Int32)))), .second, .val (.int (1 : Int32)), .val (.int (1 : Int32)), .val (.int (0 : Int32))]) rfl ?_
          show Steps p.tables e below (T1.setTop (mkF m 71 #[.val (.long q0), .second, .val (.int p1), .val (.int p2), .val (.int (p1 &&& (2147483647 : Int32))), .val (.int (p2 &&& (65535 : Int32))), .val (.long (f1 q0 (p1 &&& (2147483647 : Int32)) (p2 &&& (65535 : Int32)))), .second, .val (.int (1 : Int32)), .val (.int (1 : Int32)), .val (.int (0 : Int32))] [])) _
          refine XS.iload X1.here hx rfl (hb hby at_71) rfl ?_
          show Steps p.tables e below (T1.setTop (mkF m 73 #[.val (.long q0), .second, .val (.int p1), .val (.int p2), .val (.int (p1 &&& (2147483647 : Int32))), .val (.int (p2 &&& (65535 : Int32))), .val (.long (f1 q0 (p1 &&& (2147483647 : Int32)) (p2 &&& (65535 : Int32)))), .second, .val (.int (1 : Int32)), .val (.int (1 : Int32)), .val (.int (0 : Int32))] [(.int (1 : Int32))])) _
          refine XS.ifNo X1.here hx rfl (hb hby at_73) rfl ((if0 _ _).trans (feq (by decide : ¬ ((1 : Int32) = (0 : Int32)))).1) ?_
          show Steps p.tables e below (T1.setTop (mkF m 76 #[.val (.long q0), .second, .val (.int p1), .val (.int p2), .val (.int (p1 &&& (2147483647 : Int32))), .val (.int (p2 &&& (65535 : Int32))), .val (.long (f1 q0 (p1 &&& (2147483647 : Int32)) (p2 &&& (65535 : Int32)))), .second, .val (.int (1 : Int32)), .val (.int (1 : Int32)), .val (.int (0 : Int32))] [])) _
          refine XS.iload X1.here hx rfl (hb hby at_76) rfl ?_
          show Steps p.tables e below (T1.setTop (mkF m 78 #[.val (.long q0), .second, .val (.int p1), .val (.int p2), .val (.int (p1 &&& (2147483647 : Int32))), .val (.int (p2 &&& (65535 : Int32))), .val (.long (f1 q0 (p1 &&& (2147483647 : Int32)) (p2 &&& (65535 : Int32)))), .second, .val (.int (1 : Int32)), .val (.int (1 : Int32)), .val (.int (0 : Int32))] [(.int (1 : Int32))])) _
          refine XS.ifNo X1.here hx rfl (hb hby at_78) rfl ((if0 _ _).trans (feq (by decide : ¬ ((1 : Int32) = (0 : Int32)))).1) ?_
          show Steps p.tables e below (T1.setTop (mkF m 81 #[.val (.long q0), .second, .val (.int p1), .val (.int p2), .val (.int (p1 &&& (2147483647 : Int32))), .val (.int (p2 &&& (65535 : Int32))), .val (.long (f1 q0 (p1 &&& (2147483647 : Int32)) (p2 &&& (65535 : Int32)))), .second, .val (.int (1 : Int32)), .val (.int (1 : Int32)), .val (.int (0 : Int32))] [])) _
          refine XS.iload X1.here hx rfl (hb hby at_81) rfl ?_
          show Steps p.tables e below (T1.setTop (mkF m 83 #[.val (.long q0), .second, .val (.int p1), .val (.int p2), .val (.int (p1 &&& (2147483647 : Int32))), .val (.int (p2 &&& (65535 : Int32))), .val (.long (f1 q0 (p1 &&& (2147483647 : Int32)) (p2 &&& (65535 : Int32)))), .second, .val (.int (1 : Int32)), .val (.int (1 : Int32)), .val (.int (0 : Int32))] [(.int (0 : Int32))])) _
          refine XS.ifYes X1.here hx rfl (pc0 := 83) (pc' := 97) rfl (hb hby at_83) rfl ((if0 _ _).trans (teq (rfl : (0 : Int32) = (0 : Int32))).1) (by decide) (by decide) ?_
          show Steps p.tables e below (T1.setTop (mkF m 97 #[.val (.long q0), .second, .val (.int p1), .val (.int p2), .val (.int (p1 &&& (2147483647 : Int32))), .val (.int (p2 &&& (65535 : Int32))), .val (.long (f1 q0 (p1 &&& (2147483647 : Int32)) (p2 &&& (65535 : Int32)))), .second, .val (.int (1 : Int32)), .val (.int (1 : Int32)), .val (.int (0 : Int32))] [])) _
          refine XS.iconst X1.here hx rfl (hb hby at_97) ?_
          exact kt
        have hv : f0 q0 p1 p2 = (0 : Int32) := by simp only [f0, if_pos hc3, if_pos hc5, if_neg hc7]
        obtain ⟨fs, hr, hrun, hended, hW, hsame⟩ := X1.leave (v := some (.int (0 : Int32))) (fun h => by rw [Bd.returns] at h; cases h)
        refine ⟨_, _, pre0 _ (K12 _ ?_), hrun, hended, _, _, rfl, ?_, ⟨_, rfl⟩, hW, hsame.mono (by decide) (by decide)⟩
        · show Steps p.tables e below (T1.setTop (mkF m 98 #[.val (.long q0), .second, .val (.int p1), .val (.int p2), .val (.int (p1 &&& (2147483647 : Int32))), .val (.int (p2 &&& (65535 : Int32))), .val (.long (f1 q0 (p1 &&& (2147483647 : Int32)) (p2 &&& (65535 : Int32)))), .second, .val (.int (1 : Int32)), .val (.int (1 : Int32)), .val (.int (0 : Int32))] [(.int (0 : Int32))])) _
          exact retN X1 hx (t := .boolean) Bd.returns (by simp) (hb hby at_98) hr
        · show Q0 Z q0 p1 p2  h0 _ T1.heap _
          rw [e1]
          exact ⟨by rw [hv], rfl, rfl⟩
    · skip
      have K13 : ∀ t, Steps p.tables e below (T1.setTop (mkF m 61 #[.val (.long q0), .second, .val (.int p1), .val (.int p2), .val (.int (p1 &&& (2147483647 : Int32))), .val (.int (p2 &&& (65535 : Int32))), .val (.long (f1 q0 (p1 &&& (2147483647 : Int32)) (p2 &&& (65535 : Int32)))), .second, .val (.int (1 : Int32)), .val (.int (0 : Int32)), .unset] [(.int (lcmpW (((f1 q0 (p1 &&& (2147483647 : Int32)) (p2 &&& (65535 : Int32))) ^^^ q0) &&& (9223372036854775807 : Int64)) (0 : Int64)))])) t → Steps p.tables e below (s₁.setTop (mkF m 0 #[.val (.long q0), .second, .val (.int p1), .val (.int p2), .unset, .unset, .unset, .unset, .unset, .unset, .unset] [])) t := by
        intro t kt
        refine K4 _ ?_
        show Steps p.tables e below (T1.setTop (mkF m 41 #[.val (.long q0), .second, .val (.int p1), .val (.int p2), .val (.int (p1 &&& (2147483647 : Int32))), .val (.int (p2 &&& (65535 : Int32))), .val (.long (f1 q0 (p1 &&& (2147483647 : Int32)) (p2 &&& (65535 : Int32)))), .second, .val (.int (1 : Int32)), .unset, .unset] [(.int (10 : Int32)), (.int (p1 &&& (2147483647 : Int32)))])) _
        refine XS.icmpYes X1.here hx rfl (pc0 := 41) (pc' := 48) rfl (hb hby at_41) rfl (flt hc5).2.1 (by decide) (by decide) ?_
        show Steps p.tables e below (T1.setTop (mkF m 48 #[.val (.long q0), .second, .val (.int p1), .val (.int p2), .val (.int (p1 &&& (2147483647 : Int32))), .val (.int (p2 &&& (65535 : Int32))), .val (.long (f1 q0 (p1 &&& (2147483647 : Int32)) (p2 &&& (65535 : Int32)))), .second, .val (.int (1 : Int32)), .unset, .unset] [])) _
        refine XS.iconst X1.here hx rfl (hb hby at_48) ?_
        show Steps p.tables e below (T1.setTop (mkF m 49 #[.val (.long q0), .second, .val (.int p1), .val (.int p2), .val (.int (p1 &&& (2147483647 : Int32))), .val (.int (p2 &&& (65535 : Int32))), .val (.long (f1 q0 (p1 &&& (2147483647 : Int32)) (p2 &&& (65535 : Int32)))), .second, .val (.int (1 : Int32)), .unset, .unset] [(.int (0 : Int32))])) _
        refine XS.istore X1.here hx rfl (hb hby at_49) rfl (l' := #[.val (.long q0), .second, .val (.int p1), .val (.int p2), .val (.int (p1 &&& (2147483647 : Int32))), .val (.int (p2 &&& (65535 : Int32))), .val (.long (f1 q0 (p1 &&& (2147483647 : Int32)) (p2 &&& (65535 : Int32)))), .second, .val (.int (1 : Int32)), .val (.int (0 : Int32)), .unset]) rfl ?_
        show Steps p.tables e below (T1.setTop (mkF m 51 #[.val (.long q0), .second, .val (.int p1), .val (.int p2), .val (.int (p1 &&& (2147483647 : Int32))), .val (.int (p2 &&& (65535 : Int32))), .val (.long (f1 q0 (p1 &&& (2147483647 : Int32)) (p2 &&& (65535 : Int32)))), .second, .val (.int (1 : Int32)), .val (.int (0 : Int32)), .unset] [])) _
        refine XS.lload X1.here hx rfl (hb hby at_51) rfl ?_
        show Steps p.tables e below (T1.setTop (mkF m 53 #[.val (.long q0), .second, .val (.int p1), .val (.int p2), .val (.int (p1 &&& (2147483647 : Int32))), .val (.int (p2 &&& (65535 : Int32))), .val (.long (f1 q0 (p1 &&& (2147483647 : Int32)) (p2 &&& (65535 : Int32)))), .second, .val (.int (1 : Int32)), .val (.int (0 : Int32)), .unset] [(.long (f1 q0 (p1 &&& (2147483647 : Int32)) (p2 &&& (65535 : Int32))))])) _
        refine XS.lloadN X1.here hx rfl (hb hby at_53) rfl ?_
        show Steps p.tables e below (T1.setTop (mkF m 54 #[.val (.long q0), .second, .val (.int p1), .val (.int p2), .val (.int (p1 &&& (2147483647 : Int32))), .val (.int (p2 &&& (65535 : Int32))), .val (.long (f1 q0 (p1 &&& (2147483647 : Int32)) (p2 &&& (65535 : Int32)))), .second, .val (.int (1 : Int32)), .val (.int (0 : Int32)), .unset] [(.long q0), (.long (f1 q0 (p1 &&& (2147483647 : Int32)) (p2 &&& (65535 : Int32))))])) _
        refine XS.lxor X1.here hx rfl (hb hby at_54) rfl ?_
        show Steps p.tables e below (T1.setTop (mkF m 55 #[.val (.long q0), .second, .val (.int p1), .val (.int p2), .val (.int (p1 &&& (2147483647 : Int32))), .val (.int (p2 &&& (65535 : Int32))), .val (.long (f1 q0 (p1 &&& (2147483647 : Int32)) (p2 &&& (65535 : Int32)))), .second, .val (.int (1 : Int32)), .val (.int (0 : Int32)), .unset] [(.long ((f1 q0 (p1 &&& (2147483647 : Int32)) (p2 &&& (65535 : Int32))) ^^^ q0))])) _
        refine X1.ldc2Long hx hown (mvT hZ (hw _ (List.mem_of_getElem? (i := 7) rfl))) (g := (mkF m 55 #[.val (.long q0), .second, .val (.int p1), .val (.int p2), .val (.int (p1 &&& (2147483647 : Int32))), .val (.int (p2 &&& (65535 : Int32))), .val (.long (f1 q0 (p1 &&& (2147483647 : Int32)) (p2 &&& (65535 : Int32)))), .second, .val (.int (1 : Int32)), .val (.int (0 : Int32)), .unset] [(.long ((f1 q0 (p1 &&& (2147483647 : Int32)) (p2 &&& (65535 : Int32))) ^^^ q0))])) rfl (hb hby at_55) _ ?_
        show Steps p.tables e below (T1.setTop (mkF m 58 #[.val (.long q0), .second, .val (.int p1), .val (.int p2), .val (.int (p1 &&& (2147483647 : Int32))), .val (.int (p2 &&& (65535 : Int32))), .val (.long (f1 q0 (p1 &&& (2147483647 : Int32)) (p2 &&& (65535 : Int32)))), .second, .val (.int (1 : Int32)), .val (.int (0 : Int32)), .unset] [(.long (9223372036854775807 : Int64)), (.long ((f1 q0 (p1 &&& (2147483647 : Int32)) (p2 &&& (65535 : Int32))) ^^^ q0))])) _
        refine XS.land X1.here hx rfl (hb hby at_58) rfl ?_
        show Steps p.tables e below (T1.setTop (mkF m 59 #[.val (.long q0), .second, .val (.int p1), .val (.int p2), .val (.int (p1 &&& (2147483647 : Int32))), .val (.int (p2 &&& (65535 : Int32))), .val (.long (f1 q0 (p1 &&& (2147483647 : Int32)) (p2 &&& (65535 : Int32)))), .second, .val (.int (1 : Int32)), .val (.int (0 : Int32)), .unset] [(.long (((f1 q0 (p1 &&& (2147483647 : Int32)) (p2 &&& (65535 : Int32))) ^^^ q0) &&& (9223372036854775807 : Int64)))])) _
        refine XS.lconst X1.here hx rfl (hb hby at_59) ?_
        show Steps p.tables e below (T1.setTop (mkF m 60 #[.val (.long q0), .second, .val (.int p1), .val (.int p2), .val (.int (p1 &&& (2147483647 : Int32))), .val (.int (p2 &&& (65535 : Int32))), .val (.long (f1 q0 (p1 &&& (2147483647 : Int32)) (p2 &&& (65535 : Int32)))), .second, .val (.int (1 : Int32)), .val (.int (0 : Int32)), .unset] [(.long (0 : Int64)), (.long (((f1 q0 (p1 &&& (2147483647 : Int32)) (p2 &&& (65535 : Int32))) ^^^ q0) &&& (9223372036854775807 : Int64)))])) _
        refine XS.lcmp X1.here hx rfl (hb hby at_60) rfl ?_
        exact kt
      by_cases hc14 : (((f1 q0 (p1 &&& (2147483647 : Int32)) (p2 &&& (65535 : Int32))) ^^^ q0) &&& (9223372036854775807 : Int64)) = (0 : Int64)
      · skip
        have K15 : ∀ t, Steps p.tables e below (T1.setTop (mkF m 108 #[.val (.long q0), .second, .val (.int p1), .val (.int p2), .val (.int (p1 &&& (2147483647 : Int32))), .val (.int (p2 &&& (65535 : Int32))), .val (.long (f1 q0 (p1 &&& (2147483647 : Int32)) (p2 &&& (65535 : Int32)))), .second, .val (.int (1 : Int32)), .val (.int (0 : Int32)), .val (.int (1 : Int32))] [(.int (lcmpW (f1 q0 (p1 &&& (2147483647 : Int32)) (p2 &&& (65535 : Int32))) (0 : Int64)))])) t → Steps p.tables e below (s₁.setTop (mkF m 0 #[.val (.long q0), .second, .val (.int p1), .val (.int p2), .unset, .unset, .unset, .unset, .unset, .unset, .unset] [])) t := by
          intro t kt
          refine K13 _ ?_
          show Steps p.tables e below (T1.setTop (mkF m 61 #[.val (.long q0), .second, .val (.int p1), .val (.int p2), .val (.int (p1 &&& (2147483647 : Int32))), .val (.int (p2 &&& (65535 : Int32))), .val (.long (f1 q0 (p1 &&& (2147483647 : Int32)) (p2 &&& (65535 : Int32)))), .second, .val (.int (1 : Int32)), .val (.int (0 : Int32)), .unset] [(.int (lcmpW (((f1 q0 (p1 &&& (2147483647 : Int32)) (p2 &&& (65535 : Int32))) ^^^ q0) &&& (9223372036854775807 : Int64)) (0 : Int64)))])) _
          refine XS.ifNo X1.here hx rfl (hb hby at_61) rfl ((if0 _ _).trans (teq ((lw_eq _ _).mpr hc14)).2) ?_
          show Steps p.tables e below (T1.setTop (mkF m 64 #[.val (.long q0), .second, .val (.int p1), .val (.int p2), .val (.int (p1 &&& (2147483647 : Int32))), .val (.int (p2 &&& (65535 : Int32))), .val (.long (f1 q0 (p1 &&& (2147483647 : Int32)) (p2 &&& (65535 : Int32)))), .second, .val (.int (1 : Int32)), .val (.int (0 : Int32)), .unset] [])) _
          refine XS.iconst X1.here hx rfl (hb hby at_64) ?_
          show Steps p.tables e below (T1.setTop (mkF m 65 #[.val (.long q0), .second, .val (.int p1), .val (.int p2), .val (.int (p1 &&& (2147483647 : Int32))), .val (.int (p2 &&& (65535 : Int32))), .val (.long (f1 q0 (p1 &&& (2147483647 : Int32)) (p2 &&& (65535 : Int32)))), .second, .val (.int (1 : Int32)), .val (.int (0 : Int32)), .unset] [(.int (1 : Int32))])) _
          refine XS.goto X1.here hx rfl (pc0 := 65) (pc' := 69) rfl (hb hby at_65) (by decide) (by decide) ?_
          show Steps p.tables e below (T1.setTop (mkF m 69 #[.val (.long q0), .second, .val (.int p1), .val (.int p2), .val (.int (p1 &&& (2147483647 : Int32))), .val (.int (p2 &&& (65535 : Int32))), .val (.long (f1 q0 (p1 &&& (2147483647 : Int32)) (p2 &&& (65535 : Int32)))), .second, .val (.int (1 : Int32)), .val (.int (0 : Int32)), .unset] [(.int (1 : Int32))])) _
          refine XS.istore X1.here hx rfl (hb hby at_69) rfl (l' := #[.val (.long q0), .second, .val (.int p1), .val (.int p2), .val (.int (p1 &&& (2147483647 : Int32))), .val (.int (p2 &&& (65535 : Int32))), .val (.long (f1 q0 (p1 &&& (2147483647 : Int32)) (p2 &&& (65535 : Int32)))), .second, .val (.int (1 : Int32)), .val (.int (0 : Int32)), .val (.int (1 : Int32))]) rfl ?_
          show Steps p.tables e below (T1.setTop (mkF m 71 #[.val (.long q0), .second, .val (.int p1), .val (.int p2), .val (.int (p1 &&& (2147483647 : Int32))), .val (.int (p2 &&& (65535 : Int32))), .val (.long (f1 q0 (p1 &&& (2147483647 : Int32)) (p2 &&& (65535 : Int32)))), .second, .val (.int (1 : Int32)), .val (.int (0 : Int32)), .val (.int (1 : Int32))] [])) _
          refine XS.iload X1.here hx rfl (hb hby at_71) rfl ?_
          show Steps p.tables e below (T1.setTop (mkF m 73 #[.val (.long q0), .second, .val (.int p1), .val (.int p2), .val (.int (p1 &&& (2147483647 : Int32))), .val (.int (p2 &&& (65535 : Int32))), .val (.long (f1 q0 (p1 &&& (2147483647 : Int32)) (p2 &&& (65535 : Int32)))), .second, .val (.int (1 : Int32)), .val (.int (0 : Int32)), .val (.int (1 : Int32))] [(.int (0 : Int32))])) _
          refine XS.ifYes X1.here hx rfl (pc0 := 73) (pc' := 99) rfl (hb hby at_73) rfl ((if0 _ _).trans (teq (rfl : (0 : Int32) = (0 : Int32))).1) (by decide) (by decide) ?_
          show Steps p.tables e below (T1.setTop (mkF m 99 #[.val (.long q0), .second, .val (.int p1), .val (.int p2), .val (.int (p1 &&& (2147483647 : Int32))), .val (.int (p2 &&& (65535 : Int32))), .val (.long (f1 q0 (p1 &&& (2147483647 : Int32)) (p2 &&& (65535 : Int32)))), .second, .val (.int (1 : Int32)), .val (.int (0 : Int32)), .val (.int (1 : Int32))] [])) _
          refine XS.iload X1.here hx rfl (hb hby at_99) rfl ?_
          show Steps p.tables e below (T1.setTop (mkF m 101 #[.val (.long q0), .second, .val (.int p1), .val (.int p2), .val (.int (p1 &&& (2147483647 : Int32))), .val (.int (p2 &&& (65535 : Int32))), .val (.long (f1 q0 (p1 &&& (2147483647 : Int32)) (p2 &&& (65535 : Int32)))), .second, .val (.int (1 : Int32)), .val (.int (0 : Int32)), .val (.int (1 : Int32))] [(.int (1 : Int32))])) _
          refine XS.ifNo X1.here hx rfl (hb hby at_101) rfl ((if0 _ _).trans (feq (by decide : ¬ ((1 : Int32) = (0 : Int32)))).1) ?_
          show Steps p.tables e below (T1.setTop (mkF m 104 #[.val (.long q0), .second, .val (.int p1), .val (.int p2), .val (.int (p1 &&& (2147483647 : Int32))), .val (.int (p2 &&& (65535 : Int32))), .val (.long (f1 q0 (p1 &&& (2147483647 : Int32)) (p2 &&& (65535 : Int32)))), .second, .val (.int (1 : Int32)), .val (.int (0 : Int32)), .val (.int (1 : Int32))] [])) _
          refine XS.lload X1.here hx rfl (hb hby at_104) rfl ?_
          show Steps p.tables e below (T1.setTop (mkF m 106 #[.val (.long q0), .second, .val (.int p1), .val (.int p2), .val (.int (p1 &&& (2147483647 : Int32))), .val (.int (p2 &&& (65535 : Int32))), .val (.long (f1 q0 (p1 &&& (2147483647 : Int32)) (p2 &&& (65535 : Int32)))), .second, .val (.int (1 : Int32)), .val (.int (0 : Int32)), .val (.int (1 : Int32))] [(.long (f1 q0 (p1 &&& (2147483647 : Int32)) (p2 &&& (65535 : Int32))))])) _
          refine XS.lconst X1.here hx rfl (hb hby at_106) ?_
          show Steps p.tables e below (T1.setTop (mkF m 107 #[.val (.long q0), .second, .val (.int p1), .val (.int p2), .val (.int (p1 &&& (2147483647 : Int32))), .val (.int (p2 &&& (65535 : Int32))), .val (.long (f1 q0 (p1 &&& (2147483647 : Int32)) (p2 &&& (65535 : Int32)))), .second, .val (.int (1 : Int32)), .val (.int (0 : Int32)), .val (.int (1 : Int32))] [(.long (0 : Int64)), (.long (f1 q0 (p1 &&& (2147483647 : Int32)) (p2 &&& (65535 : Int32))))])) _
          refine XS.lcmp X1.here hx rfl (hb hby at_107) rfl ?_
          exact kt
        by_cases hc16 : (f1 q0 (p1 &&& (2147483647 : Int32)) (p2 &&& (65535 : Int32))) < (0 : Int64)
        · skip
          have K17 : ∀ t, Steps p.tables e below (T1.setTop (mkF m 116 #[.val (.long q0), .second, .val (.int p1), .val (.int p2), .val (.int (p1 &&& (2147483647 : Int32))), .val (.int (p2 &&& (65535 : Int32))), .val (.long (f1 q0 (p1 &&& (2147483647 : Int32)) (p2 &&& (65535 : Int32)))), .second, .val (.int (1 : Int32)), .val (.int (0 : Int32)), .val (.int (1 : Int32))] [(.int (1 : Int32))])) t → Steps p.tables e below (s₁.setTop (mkF m 0 #[.val (.long q0), .second, .val (.int p1), .val (.int p2), .unset, .unset, .unset, .unset, .unset, .unset, .unset] [])) t := by
            intro t kt
            refine K15 _ ?_
            show Steps p.tables e below (T1.setTop (mkF m 108 #[.val (.long q0), .second, .val (.int p1), .val (.int p2), .val (.int (p1 &&& (2147483647 : Int32))), .val (.int (p2 &&& (65535 : Int32))), .val (.long (f1 q0 (p1 &&& (2147483647 : Int32)) (p2 &&& (65535 : Int32)))), .second, .val (.int (1 : Int32)), .val (.int (0 : Int32)), .val (.int (1 : Int32))] [(.int (lcmpW (f1 q0 (p1 &&& (2147483647 : Int32)) (p2 &&& (65535 : Int32))) (0 : Int64)))])) _
            refine XS.ifNo X1.here hx rfl (hb hby at_108) rfl ((if0 _ _).trans (tlt ((lw_lt _ _).mpr hc16)).2.1) ?_
            show Steps p.tables e below (T1.setTop (mkF m 111 #[.val (.long q0), .second, .val (.int p1), .val (.int p2), .val (.int (p1 &&& (2147483647 : Int32))), .val (.int (p2 &&& (65535 : Int32))), .val (.long (f1 q0 (p1 &&& (2147483647 : Int32)) (p2 &&& (65535 : Int32)))), .second, .val (.int (1 : Int32)), .val (.int (0 : Int32)), .val (.int (1 : Int32))] [])) _
            refine XS.iconst X1.here hx rfl (hb hby at_111) ?_
            show Steps p.tables e below (T1.setTop (mkF m 112 #[.val (.long q0), .second, .val (.int p1), .val (.int p2), .val (.int (p1 &&& (2147483647 : Int32))), .val (.int (p2 &&& (65535 : Int32))), .val (.long (f1 q0 (p1 &&& (2147483647 : Int32)) (p2 &&& (65535 : Int32)))), .second, .val (.int (1 : Int32)), .val (.int (0 : Int32)), .val (.int (1 : Int32))] [(.int (1 : Int32))])) _
            refine XS.goto X1.here hx rfl (pc0 := 112) (pc' := 116) rfl (hb hby at_112) (by decide) (by decide) ?_
            exact kt
          have hv : f0 q0 p1 p2 = (1 : Int32) := by simp only [f0, if_pos hc3, if_neg hc5, if_pos hc14, if_pos hc16]
          obtain ⟨fs, hr, hrun, hended, hW, hsame⟩ := X1.leave (v := some (.int (1 : Int32))) (fun h => by rw [Bd.returns] at h; cases h)
          refine ⟨_, _, pre0 _ (K17 _ ?_), hrun, hended, _, _, rfl, ?_, ⟨_, rfl⟩, hW, hsame.mono (by decide) (by decide)⟩
          · show Steps p.tables e below (T1.setTop (mkF m 116 #[.val (.long q0), .second, .val (.int p1), .val (.int p2), .val (.int (p1 &&& (2147483647 : Int32))), .val (.int (p2 &&& (65535 : Int32))), .val (.long (f1 q0 (p1 &&& (2147483647 : Int32)) (p2 &&& (65535 : Int32)))), .second, .val (.int (1 : Int32)), .val (.int (0 : Int32)), .val (.int (1 : Int32))] [(.int (1 : Int32))])) _
            exact retN X1 hx (t := .boolean) Bd.returns (by simp) (hb hby at_116) hr
          · show Q0 Z q0 p1 p2  h0 _ T1.heap _
            rw [e1]
            exact ⟨by rw [hv], rfl, rfl⟩
        · skip
          have K18 : ∀ t, Steps p.tables e below (T1.setTop (mkF m 116 #[.val (.long q0), .second, .val (.int p1), .val (.int p2), .val (.int (p1 &&& (2147483647 : Int32))), .val (.int (p2 &&& (65535 : Int32))), .val (.long (f1 q0 (p1 &&& (2147483647 : Int32)) (p2 &&& (65535 : Int32)))), .second, .val (.int (1 : Int32)), .val (.int (0 : Int32)), .val (.int (1 : Int32))] [(.int (0 : Int32))])) t → Steps p.tables e below (s₁.setTop (mkF m 0 #[.val (.long q0), .second, .val (.int p1), .val (.int p2), .unset, .unset, .unset, .unset, .unset, .unset, .unset] [])) t := by
            intro t kt
            refine K15 _ ?_
            show Steps p.tables e below (T1.setTop (mkF m 108 #[.val (.long q0), .second, .val (.int p1), .val (.int p2), .val (.int (p1 &&& (2147483647 : Int32))), .val (.int (p2 &&& (65535 : Int32))), .val (.long (f1 q0 (p1 &&& (2147483647 : Int32)) (p2 &&& (65535 : Int32)))), .second, .val (.int (1 : Int32)), .val (.int (0 : Int32)), .val (.int (1 : Int32))] [(.int (lcmpW (f1 q0 (p1 &&& (2147483647 : Int32)) (p2 &&& (65535 : Int32))) (0 : Int64)))])) _
            refine XS.ifYes X1.here hx rfl (pc0 := 108) (pc' := 115) rfl (hb hby at_108) rfl ((if0 _ _).trans (flt (mt (lw_lt _ _).mp hc16)).2.1) (by decide) (by decide) ?_
            show Steps p.tables e below (T1.setTop (mkF m 115 #[.val (.long q0), .second, .val (.int p1), .val (.int p2), .val (.int (p1 &&& (2147483647 : Int32))), .val (.int (p2 &&& (65535 : Int32))), .val (.long (f1 q0 (p1 &&& (2147483647 : Int32)) (p2 &&& (65535 : Int32)))), .second, .val (.int (1 : Int32)), .val (.int (0 : Int32)), .val (.int (1 : Int32))] [])) _
            refine XS.iconst X1.here hx rfl (hb hby at_115) ?_
            exact kt
          have hv : f0 q0 p1 p2 = (0 : Int32) := by simp only [f0, if_pos hc3, if_neg hc5, if_pos hc14, if_neg hc16]
          obtain ⟨fs, hr, hrun, hended, hW, hsame⟩ := X1.leave (v := some (.int (0 : Int32))) (fun h => by rw [Bd.returns] at h; cases h)
          refine ⟨_, _, pre0 _ (K18 _ ?_), hrun, hended, _, _, rfl, ?_, ⟨_, rfl⟩, hW, hsame.mono (by decide) (by decide)⟩
          · show Steps p.tables e below (T1.setTop (mkF m 116 #[.val (.long q0), .second, .val (.int p1), .val (.int p2), .val (.int (p1 &&& (2147483647 : Int32))), .val (.int (p2 &&& (65535 : Int32))), .val (.long (f1 q0 (p1 &&& (2147483647 : Int32)) (p2 &&& (65535 : Int32)))), .second, .val (.int (1 : Int32)), .val (.int (0 : Int32)), .val (.int (1 : Int32))] [(.int (0 : Int32))])) _
            exact retN X1 hx (t := .boolean) Bd.returns (by simp) (hb hby at_116) hr
          · show Q0 Z q0 p1 p2  h0 _ T1.heap _
            rw [e1]
            exact ⟨by rw [hv], rfl, rfl⟩
      · skip
        have K19 : ∀ t, Steps p.tables e below (T1.setTop (mkF m 116 #[.val (.long q0), .second, .val (.int p1), .val (.int p2), .val (.int (p1 &&& (2147483647 : Int32))), .val (.int (p2 &&& (65535 : Int32))), .val (.long (f1 q0 (p1 &&& (2147483647 : Int32)) (p2 &&& (65535 : Int32)))), .second, .val (.int (1 : Int32)), .val (.int (0 : Int32)), .val (.int (0 : Int32))] [(.int (0 : Int32))])) t → Steps p.tables e below (s₁.setTop (mkF m 0 #[.val (.long q0), .second, .val (.int p1), .val (.int p2), .unset, .unset, .unset, .unset, .unset, .unset, .unset] [])) t := by
          intro t kt
          refine K13 _ ?_
          show Steps p.tables e below (T1.setTop (mkF m 61 #[.val (.long q0), .second, .val (.int p1), .val (.int p2), .val (.int (p1 &&& (2147483647 : Int32))), .val (.int (p2 &&& (65535 : Int32))), .val (.long (f1 q0 (p1 &&& (2147483647 : Int32)) (p2 &&& (65535 : Int32)))), .second, .val (.int (1 : Int32)), .val (.int (0 : Int32)), .unset] [(.int (lcmpW (((f1 q0 (p1 &&& (2147483647 : Int32)) (p2 &&& (65535 : Int32))) ^^^ q0) &&& (9223372036854775807 : Int64)) (0 : Int64)))])) _
          refine XS.ifYes X1.here hx rfl (pc0 := 61) (pc' := 68) rfl (hb hby at_61) rfl ((if0 _ _).trans (feq (mt (lw_eq _ _).mp hc14)).2) (by decide) (by decide) ?_
          show Steps p.tables e below (T1.setTop (mkF m 68 #[.val (.long q0), .second, .val (.int p1), .val (.int p2), .val (.int (p1 &&& (2147483647 : Int32))), .val (.int (p2 &&& (65535 : Int32))), .val (.long (f1 q0 (p1 &&& (2147483647 : Int32)) (p2 &&& (65535 : Int32)))), .second, .val (.int (1 : Int32)), .val (.int (0 : Int32)), .unset] [])) _
          refine XS.iconst X1.here hx rfl (hb hby at_68) ?_
          show Steps p.tables e below (T1.setTop (mkF m 69 #[.val (.long q0), .second, .val (.int p1), .val (.int p2), .val (.int (p1 &&& (2147483647 : Int32))), .val (.int (p2 &&& (65535 : Int32))), .val (.long (f1 q0 (p1 &&& (2147483647 : Int32)) (p2 &&& (65535 : Int32)))), .second, .val (.int (1 : Int32)), .val (.int (0 : Int32)), .unset] [(.int (0 : Int32))])) _
          refine XS.istore X1.here hx rfl (hb hby at_69) rfl (l' := #[.val (.long q0), .second, .val (.int p1), .val (.int p2), .val (.int (p1 &&& (2147483647 : Int32))), .val (.int (p2 &&& (65535 : Int32))), .val (.long (f1 q0 (p1 &&& (2147483647 : Int32)) (p2 &&& (65535 : Int32)))), .second, .val (.int (1 : Int32)), .val (.int (0 : Int32)), .val (.int (0 : Int32))]) rfl ?_
          show Steps p.tables e below (T1.setTop (mkF m 71 #[.val (.long q0), .second, .val (.int p1), .val (.int p2), .val (.int (p1 &&& (2147483647 : Int32))), .val (.int (p2 &&& (65535 : Int32))), .val (.long (f1 q0 (p1 &&& (2147483647 : Int32)) (p2 &&& (65535 : Int32)))), .second, .val (.int (1 : Int32)), .val (.int (0 : Int32)), .val (.int (0 : Int32))] [])) _
          refine XS.iload X1.here hx rfl (hb hby at_71) rfl ?_
          show Steps p.tables e below (T1.setTop (mkF m 73 #[.val (.long q0), .second, .val (.int p1), .val (.int p2), .val (.int (p1 &&& (2147483647 : Int32))), .val (.int (p2 &&& (65535 : Int32))), .val (.long (f1 q0 (p1 &&& (2147483647 : Int32)) (p2 &&& (65535 : Int32)))), .second, .val (.int (1 : Int32)), .val (.int (0 : Int32)), .val (.int (0 : Int32))] [(.int (0 : Int32))])) _
          refine XS.ifYes X1.here hx rfl (pc0 := 73) (pc' := 99) rfl (hb hby at_73) rfl ((if0 _ _).trans (teq (rfl : (0 : Int32) = (0 : Int32))).1) (by decide) (by decide) ?_
          show Steps p.tables e below (T1.setTop (mkF m 99 #[.val (.long q0), .second, .val (.int p1), .val (.int p2), .val (.int (p1 &&& (2147483647 : Int32))), .val (.int (p2 &&& (65535 : Int32))), .val (.long (f1 q0 (p1 &&& (2147483647 : Int32)) (p2 &&& (65535 : Int32)))), .second, .val (.int (1 : Int32)), .val (.int (0 : Int32)), .val (.int (0 : Int32))] [])) _
          refine XS.iload X1.here hx rfl (hb hby at_99) rfl ?_
          show Steps p.tables e below (T1.setTop (mkF m 101 #[.val (.long q0), .second, .val (.int p1), .val (.int p2), .val (.int (p1 &&& (2147483647 : Int32))), .val (.int (p2 &&& (65535 : Int32))), .val (.long (f1 q0 (p1 &&& (2147483647 : Int32)) (p2 &&& (65535 : Int32)))), .second, .val (.int (1 : Int32)), .val (.int (0 : Int32)), .val (.int (0 : Int32))] [(.int (0 : Int32))])) _
          refine XS.ifYes X1.here hx rfl (pc0 := 101) (pc' := 115) rfl (hb hby at_101) rfl ((if0 _ _).trans (teq (rfl : (0 : Int32) = (0 : Int32))).1) (by decide) (by decide) ?_
          show Steps p.tables e below (T1.setTop (mkF m 115 #[.val (.long q0), .second, .val (.int p1), .val (.int p2), .val (.int (p1 &&& (2147483647 : Int32))), .val (.int (p2 &&& (65535 : Int32))), .val (.long (f1 q0 (p1 &&& (2147483647 : Int32)) (p2 &&& (65535 : Int32)))), .second, .val (.int (1 : Int32)), .val (.int (0 : Int32)), .val (.int (0 : Int32))] [])) _
          refine XS.iconst X1.here hx rfl (hb hby at_115) ?_
          exact kt
        have hv : f0 q0 p1 p2 = (0 : Int32) := by simp only [f0, if_pos hc3, if_neg hc5, if_neg hc14]
        obtain ⟨fs, hr, hrun, hended, hW, hsame⟩ := X1.leave (v := some (.int (0 : Int32))) (fun h => by rw [Bd.returns] at h; cases h)
        refine ⟨_, _, pre0 _ (K19 _ ?_), hrun, hended, _, _, rfl, ?_, ⟨_, rfl⟩, hW, hsame.mono (by decide) (by decide)⟩
        · show Steps p.tables e below (T1.setTop (mkF m 116 #[.val (.long q0), .second, .val (.int p1), .val (.int p2), .val (.int (p1 &&& (2147483647 : Int32))), .val (.int (p2 &&& (65535 : Int32))), .val (.long (f1 q0 (p1 &&& (2147483647 : Int32)) (p2 &&& (65535 : Int32)))), .second, .val (.int (1 : Int32)), .val (.int (0 : Int32)), .val (.int (0 : Int32))] [(.int (0 : Int32))])) _
          exact retN X1 hx (t := .boolean) Bd.returns (by simp) (hb hby at_116) hr
        · show Q0 Z q0 p1 p2  h0 _ T1.heap _
          rw [e1]
          exact ⟨by rw [hv], rfl, rfl⟩
  · skip
    have K20 : ∀ t, Steps p.tables e below (T1.setTop (mkF m 41 #[.val (.long q0), .second, .val (.int p1), .val (.int p2), .val (.int (p1 &&& (2147483647 : Int32))), .val (.int (p2 &&& (65535 : Int32))), .val (.long (f1 q0 (p1 &&& (2147483647 : Int32)) (p2 &&& (65535 : Int32)))), .second, .val (.int (0 : Int32)), .unset, .unset] [(.int (10 : Int32)), (.int (p1 &&& (2147483647 : Int32)))])) t → Steps p.tables e below (s₁.setTop (mkF m 0 #[.val (.long q0), .second, .val (.int p1), .val (.int p2), .unset, .unset, .unset, .unset, .unset, .unset, .unset] [])) t := by
      intro t kt
      refine K2 _ ?_
      show Steps p.tables e below (T1.setTop (mkF m 27 #[.val (.long q0), .second, .val (.int p1), .val (.int p2), .val (.int (p1 &&& (2147483647 : Int32))), .val (.int (p2 &&& (65535 : Int32))), .val (.long (f1 q0 (p1 &&& (2147483647 : Int32)) (p2 &&& (65535 : Int32)))), .second, .unset, .unset, .unset] [(.int ((p2 &&& (65535 : Int32)) &&& (65408 : Int32)))])) _
      refine XS.ifYes X1.here hx rfl (pc0 := 27) (pc' := 34) rfl (hb hby at_27) rfl ((if0 _ _).trans (feq hc3).2) (by decide) (by decide) ?_
      show Steps p.tables e below (T1.setTop (mkF m 34 #[.val (.long q0), .second, .val (.int p1), .val (.int p2), .val (.int (p1 &&& (2147483647 : Int32))), .val (.int (p2 &&& (65535 : Int32))), .val (.long (f1 q0 (p1 &&& (2147483647 : Int32)) (p2 &&& (65535 : Int32)))), .second, .unset, .unset, .unset] [])) _
      refine XS.iconst X1.here hx rfl (hb hby at_34) ?_
      show Steps p.tables e below (T1.setTop (mkF m 35 #[.val (.long q0), .second, .val (.int p1), .val (.int p2), .val (.int (p1 &&& (2147483647 : Int32))), .val (.int (p2 &&& (65535 : Int32))), .val (.long (f1 q0 (p1 &&& (2147483647 : Int32)) (p2 &&& (65535 : Int32)))), .second, .unset, .unset, .unset] [(.int (0 : Int32))])) _
      refine XS.istore X1.here hx rfl (hb hby at_35) rfl (l' := #[.val (.long q0), .second, .val (.int p1), .val (.int p2), .val (.int (p1 &&& (2147483647 : Int32))), .val (.int (p2 &&& (65535 : Int32))), .val (.long (f1 q0 (p1 &&& (2147483647 : Int32)) (p2 &&& (65535 : Int32)))), .second, .val (.int (0 : Int32)), .unset, .unset]) rfl ?_
      show Steps p.tables e below (T1.setTop (mkF m 37 #[.val (.long q0), .second, .val (.int p1), .val (.int p2), .val (.int (p1 &&& (2147483647 : Int32))), .val (.int (p2 &&& (65535 : Int32))), .val (.long (f1 q0 (p1 &&& (2147483647 : Int32)) (p2 &&& (65535 : Int32)))), .second, .val (.int (0 : Int32)), .unset, .unset] [])) _
      refine XS.iload X1.here hx rfl (hb hby at_37) rfl ?_
      show Steps p.tables e below (T1.setTop (mkF m 39 #[.val (.long q0), .second, .val (.int p1), .val (.int p2), .val (.int (p1 &&& (2147483647 : Int32))), .val (.int (p2 &&& (65535 : Int32))), .val (.long (f1 q0 (p1 &&& (2147483647 : Int32)) (p2 &&& (65535 : Int32)))), .second, .val (.int (0 : Int32)), .unset, .unset] [(.int (p1 &&& (2147483647 : Int32)))])) _
      refine XS.bipush X1.here hx rfl (hb hby at_39) ?_
      exact kt
    by_cases hc21 : (p1 &&& (2147483647 : Int32)) < (10 : Int32)
    · skip
      have K22 : ∀ t, Steps p.tables e below (T1.setTop (mkF m 61 #[.val (.long q0), .second, .val (.int p1), .val (.int p2), .val (.int (p1 &&& (2147483647 : Int32))), .val (.int (p2 &&& (65535 : Int32))), .val (.long (f1 q0 (p1 &&& (2147483647 : Int32)) (p2 &&& (65535 : Int32)))), .second, .val (.int (0 : Int32)), .val (.int (1 : Int32)), .unset] [(.int (lcmpW (((f1 q0 (p1 &&& (2147483647 : Int32)) (p2 &&& (65535 : Int32))) ^^^ q0) &&& (9223372036854775807 : Int64)) (0 : Int64)))])) t → Steps p.tables e below (s₁.setTop (mkF m 0 #[.val (.long q0), .second, .val (.int p1), .val (.int p2), .unset, .unset, .unset, .unset, .unset, .unset, .unset] [])) t := by
        intro t kt
        refine K20 _ ?_
        show Steps p.tables e below (T1.setTop (mkF m 41 #[.val (.long q0), .second, .val (.int p1), .val (.int p2), .val (.int (p1 &&& (2147483647 : Int32))), .val (.int (p2 &&& (65535 : Int32))), .val (.long (f1 q0 (p1 &&& (2147483647 : Int32)) (p2 &&& (65535 : Int32)))), .second, .val (.int (0 : Int32)), .unset, .unset] [(.int (10 : Int32)), (.int (p1 &&& (2147483647 : Int32)))])) _
        refine XS.icmpNo X1.here hx rfl (hb hby at_41) rfl (tlt hc21).2.1 ?_
        show Steps p.tables e below (T1.setTop (mkF m 44 #[.val (.long q0), .second, .val (.int p1), .val (.int p2), .val (.int (p1 &&& (2147483647 : Int32))), .val (.int (p2 &&& (65535 : Int32))), .val (.long (f1 q0 (p1 &&& (2147483647 : Int32)) (p2 &&& (65535 : Int32)))), .second, .val (.int (0 : Int32)), .unset, .unset] [])) _
        refine XS.iconst X1.here hx rfl (hb hby at_44) ?_
        show Steps p.tables e below (T1.setTop (mkF m 45 #[.val (.long q0), .second, .val (.int p1), .val (.int p2), .val (.int (p1 &&& (2147483647 : Int32))), .val (.int (p2 &&& (65535 : Int32))), .val (.long (f1 q0 (p1 &&& (2147483647 : Int32)) (p2 &&& (65535 : Int32)))), .second, .val (.int (0 : Int32)), .unset, .unset] [(.int (1 : Int32))])) _
        refine XS.goto X1.here hx rfl (pc0 := 45) (pc' := 49) rfl (hb hby at_45) (by decide) (by decide) ?_
        show Steps p.tables e below (T1.setTop (mkF m 49 #[.val (.long q0), .second, .val (.int p1), .val (.int p2), .val (.int (p1 &&& (2147483647 : Int32))), .val (.int (p2 &&& (65535 : Int32))), .val (.long (f1 q0 (p1 &&& (2147483647 : Int32)) (p2 &&& (65535 : Int32)))), .second, .val (.int (0 : Int32)), .unset, .unset] [(.int (1 : Int32))])) _
        refine XS.istore X1.here hx rfl (hb hby at_49) rfl (l' := #[.val (.long q0), .second, .val (.int p1), .val (.int p2), .val (.int (p1 &&& (2147483647 : Int32))), .val (.int (p2 &&& (65535 : Int32))), .val (.long (f1 q0 (p1 &&& (2147483647 : Int32)) (p2 &&& (65535 : Int32)))), .second, .val (.int (0 : Int32)), .val (.int (1 : Int32)), .unset]) rfl ?_
        show Steps p.tables e below (T1.setTop (mkF m 51 #[.val (.long q0), .second, .val (.int p1), .val (.int p2), .val (.int (p1 &&& (2147483647 : Int32))), .val (.int (p2 &&& (65535 : Int32))), .val (.long (f1 q0 (p1 &&& (2147483647 : Int32)) (p2 &&& (65535 : Int32)))), .second, .val (.int (0 : Int32)), .val (.int (1 : Int32)), .unset] [])) _
        refine XS.lload X1.here hx rfl (hb hby at_51) rfl ?_
        show Steps p.tables e below (T1.setTop (mkF m 53 #[.val (.long q0), .second, .val (.int p1), .val (.int p2), .val (.int (p1 &&& (2147483647 : Int32))), .val (.int (p2 &&& (65535 : Int32))), .val (.long (f1 q0 (p1 &&& (2147483647 : Int32)) (p2 &&& (65535 : Int32)))), .second, .val (.int (0 : Int32)), .val (.int (1 : Int32)), .unset] [(.long (f1 q0 (p1 &&& (2147483647 : Int32)) (p2 &&& (65535 : Int32))))])) _
        refine XS.lloadN X1.here hx rfl (hb hby at_53) rfl ?_
        show Steps p.tables e below (T1.setTop (mkF m 54 #[.val (.long q0), .second, .val (.int p1), .val (.int p2), .val (.int (p1 &&& (2147483647 : Int32))), .val (.int (p2 &&& (65535 : Int32))), .val (.long (f1 q0 (p1 &&& (2147483647 : Int32)) (p2 &&& (65535 : Int32)))), .second, .val (.int (0 : Int32)), .val (.int (1 : Int32)), .unset] [(.long q0), (.long (f1 q0 (p1 &&& (2147483647 : Int32)) (p2 &&& (65535 : Int32))))])) _
        refine XS.lxor X1.here hx rfl (hb hby at_54) rfl ?_
        show Steps p.tables e below (T1.setTop (mkF m 55 #[.val (.long q0), .second, .val (.int p1), .val (.int p2), .val (.int (p1 &&& (2147483647 : Int32))), .val (.int (p2 &&& (65535 : Int32))), .val (.long (f1 q0 (p1 &&& (2147483647 : Int32)) (p2 &&& (65535 : Int32)))), .second, .val (.int (0 : Int32)), .val (.int (1 : Int32)), .unset] [(.long ((f1 q0 (p1 &&& (2147483647 : Int32)) (p2 &&& (65535 : Int32))) ^^^ q0))])) _
        refine X1.ldc2Long hx hown (mvT hZ (hw _ (List.mem_of_getElem? (i := 7) rfl))) (g := (mkF m 55 #[.val (.long q0), .second, .val (.int p1), .val (.int p2), .val (.int (p1 &&& (2147483647 : Int32))), .val (.int (p2 &&& (65535 : Int32))), .val (.long (f1 q0 (p1 &&& (2147483647 : Int32)) (p2 &&& (65535 : Int32)))), .second, .val (.int (0 : Int32)), .val (.int (1 : Int32)), .unset] [(.long ((f1 q0 (p1 &&& (2147483647 : Int32)) (p2 &&& (65535 : Int32))) ^^^ q0))])) rfl (hb hby at_55) _ ?_
        show Steps p.tables e below (T1.setTop (mkF m 58 #[.val (.long q0), .second, .val (.int p1), .val (.int p2), .val (.int (p1 &&& (2147483647 : Int32))), .val (.int (p2 &&& (65535 : Int32))), .val (.long (f1 q0 (p1 &&& (2147483647 : Int32)) (p2 &&& (65535 : Int32)))), .second, .val (.int (0 : Int32)), .val (.int (1 : Int32)), .unset] [(.long (9223372036854775807 : Int64)), (.long ((f1 q0 (p1 &&& (2147483647 : Int32)) (p2 &&& (65535 : Int32))) ^^^ q0))])) _
        refine XS.land X1.here hx rfl (hb hby at_58) rfl ?_
        show Steps p.tables e below (T1.setTop (mkF m 59 #[.val (.long q0), .second, .val (.int p1), .val (.int p2), .val (.int (p1 &&& (2147483647 : Int32))), .val (.int (p2 &&& (65535 : Int32))), .val (.long (f1 q0 (p1 &&& (2147483647 : Int32)) (p2 &&& (65535 : Int32)))), .second, .val (.int (0 : Int32)), .val (.int (1 : Int32)), .unset] [(.long (((f1 q0 (p1 &&& (2147483647 : Int32)) (p2 &&& (65535 : Int32))) ^^^ q0) &&& (9223372036854775807 : Int64)))])) _
        refine XS.lconst X1.here hx rfl (hb hby at_59) ?_
        show Steps p.tables e below (T1.setTop (mkF m 60 #[.val (.long q0), .second, .val (.int p1), .val (.int p2), .val (.int (p1 &&& (2147483647 : Int32))), .val (.int (p2 &&& (65535 : Int32))), .val (.long (f1 q0 (p1 &&& (2147483647 : Int32)) (p2 &&& (65535 : Int32)))), .second, .val (.int (0 : Int32)), .val (.int (1 : Int32)), .unset] [(.long (0 : Int64)), (.long (((f1 q0 (p1 &&& (2147483647 : Int32)) (p2 &&& (65535 : Int32))) ^^^ q0) &&& (9223372036854775807 : Int64)))])) _
        refine XS.lcmp X1.here hx rfl (hb hby at_60) rfl ?_
        exact kt
      by_cases hc23 : (((f1 q0 (p1 &&& (2147483647 : Int32)) (p2 &&& (65535 : Int32))) ^^^ q0) &&& (9223372036854775807 : Int64)) = (0 : Int64)
      · skip
        have K24 : ∀ t, Steps p.tables e below (T1.setTop (mkF m 108 #[.val (.long q0), .second, .val (.int p1), .val (.int p2), .val (.int (p1 &&& (2147483647 : Int32))), .val (.int (p2 &&& (65535 : Int32))), .val (.long (f1 q0 (p1 &&& (2147483647 : Int32)) (p2 &&& (65535 : Int32)))), .second, .val (.int (0 : Int32)), .val (.int (1 : Int32)), .val (.int (1 : Int32))] [(.int (lcmpW (f1 q0 (p1 &&& (2147483647 : Int32)) (p2 &&& (65535 : Int32))) (0 : Int64)))])) t → Steps p.tables e below (s₁.setTop (mkF m 0 #[.val (.long q0), .second, .val (.int p1), .val (.int p2), .unset, .unset, .unset, .unset, .unset, .unset, .unset] [])) t := by
          intro t kt
          refine K22 _ ?_
          show Steps p.tables e below (T1.setTop (mkF m 61 #[.val (.long q0), .second, .val (.int p1), .val (.int p2), .val (.int (p1 &&& (2147483647 : Int32))), .val (.int (p2 &&& (65535 : Int32))), .val (.long (f1 q0 (p1 &&& (2147483647 : Int32)) (p2 &&& (65535 : Int32)))), .second, .val (.int (0 : Int32)), .val (.int (1 : Int32)), .unset] [(.int (lcmpW (((f1 q0 (p1 &&& (2147483647 : Int32)) (p2 &&& (65535 : Int32))) ^^^ q0) &&& (9223372036854775807 : Int64)) (0 : Int64)))])) _
          refine XS.ifNo X1.here hx rfl (hb hby at_61) rfl ((if0 _ _).trans (teq ((lw_eq _ _).mpr hc23)).2) ?_
          show Steps p.tables e below (T1.setTop (mkF m 64 #[.val (.long q0), .second, .val (.int p1), .val (.int p2), .val (.int (p1 &&& (2147483647 : Int32))), .val (.int (p2 &&& (65535 : Int32))), .val (.long (f1 q0 (p1 &&& (2147483647 : Int32)) (p2 &&& (65535 : Int32)))), .second, .val (.int (0 : Int32)), .val (.int (1 : Int32)), .unset] [])) _
          refine XS.iconst X1.here hx rfl (hb hby at_64) ?_
          show Steps p.tables e below (T1.setTop (mkF m 65 #[.val (.long q0), .second, .val (.int p1), .val (.int p2), .val (.int (p1 &&& (2147483647 : Int32))), .val (.int (p2 &&& (65535 : Int32))), .val (.long (f1 q0 (p1 &&& (2147483647 : Int32)) (p2 &&& (65535 : Int32)))), .second, .val (.int (0 : Int32)), .val (.int (1 : Int32)), .unset] [(.int (1 : Int32))])) _
          refine XS.goto X1.here hx rfl (pc0 := 65) (pc' := 69) rfl (hb hby at_65) (by decide) (by decide) ?_
          show Steps p.tables e below (T1.setTop (mkF m 69 #[.val (.long q0), .second, .val (.int p1), .val (.int p2), .val (.int (p1 &&& (2147483647 : Int32))), .val (.int (p2 &&& (65535 : Int32))), .val (.long (f1 q0 (p1 &&& (2147483647 : Int32)) (p2 &&& (65535 : Int32)))), .second, .val (.int (0 : Int32)), .val (.int (1 : Int32)), .unset] [(.int (1 : Int32))])) _
          refine XS.istore X1.here hx rfl (hb hby at_69) rfl (l' := #[.val (.long q0), .second, .val (.int p1), .val (.int p2), .val (.int (p1 &&& (2147483647 : Int32))), .val (.int (p2 &&& (65535 : Int32))), .val (.long (f1 q0 (p1 &&& (2147483647 : Int32)) (p2 &&& (65535 : Int32)))), .second, .val (.int (0 : Int32)), .val (.int (1 : Int32)), .val (.int (1 : Int32))]) rfl ?_
          show Steps p.tables e below (T1.setTop (mkF m 71 #[.val (.long q0), .second, .val (.int p1), .val (.int p2), .val (.int (p1 &&& (2147483647 : Int32))), .val (.int (p2 &&& (65535 : Int32))), .val (.long (f1 q0 (p1 &&& (2147483647 : Int32)) (p2 &&& (65535 : Int32)))), .second, .val (.int (0 : Int32)), .val (.int (1 : Int32)), .val (.int (1 : Int32))] [])) _
          refine XS.iload X1.here hx rfl (hb hby at_71) rfl ?_
          show Steps p.tables e below (T1.setTop (mkF m 73 #[.val (.long q0), .second, .val (.int p1), .val (.int p2), .val (.int (p1 &&& (2147483647 : Int32))), .val (.int (p2 &&& (65535 : Int32))), .val (.long (f1 q0 (p1 &&& (2147483647 : Int32)) (p2 &&& (65535 : Int32)))), .second, .val (.int (0 : Int32)), .val (.int (1 : Int32)), .val (.int (1 : Int32))] [(.int (1 : Int32))])) _
          refine XS.ifNo X1.here hx rfl (hb hby at_73) rfl ((if0 _ _).trans (feq (by decide : ¬ ((1 : Int32) = (0 : Int32)))).1) ?_
          show Steps p.tables e below (T1.setTop (mkF m 76 #[.val (.long q0), .second, .val (.int p1), .val (.int p2), .val (.int (p1 &&& (2147483647 : Int32))), .val (.int (p2 &&& (65535 : Int32))), .val (.long (f1 q0 (p1 &&& (2147483647 : Int32)) (p2 &&& (65535 : Int32)))), .second, .val (.int (0 : Int32)), .val (.int (1 : Int32)), .val (.int (1 : Int32))] [])) _
          refine XS.iload X1.here hx rfl (hb hby at_76) rfl ?_
          show Steps p.tables e below (T1.setTop (mkF m 78 #[.val (.long q0), .second, .val (.int p1), .val (.int p2), .val (.int (p1 &&& (2147483647 : Int32))), .val (.int (p2 &&& (65535 : Int32))), .val (.long (f1 q0 (p1 &&& (2147483647 : Int32)) (p2 &&& (65535 : Int32)))), .second, .val (.int (0 : Int32)), .val (.int (1 : Int32)), .val (.int (1 : Int32))] [(.int (0 : Int32))])) _
          refine XS.ifYes X1.here hx rfl (pc0 := 78) (pc' := 99) rfl (hb hby at_78) rfl ((if0 _ _).trans (teq (rfl : (0 : Int32) = (0 : Int32))).1) (by decide) (by decide) ?_
          show Steps p.tables e below (T1.setTop (mkF m 99 #[.val (.long q0), .second, .val (.int p1), .val (.int p2), .val (.int (p1 &&& (2147483647 : Int32))), .val (.int (p2 &&& (65535 : Int32))), .val (.long (f1 q0 (p1 &&& (2147483647 : Int32)) (p2 &&& (65535 : Int32)))), .second, .val (.int (0 : Int32)), .val (.int (1 : Int32)), .val (.int (1 : Int32))] [])) _
          refine XS.iload X1.here hx rfl (hb hby at_99) rfl ?_
          show Steps p.tables e below (T1.setTop (mkF m 101 #[.val (.long q0), .second, .val (.int p1), .val (.int p2), .val (.int (p1 &&& (2147483647 : Int32))), .val (.int (p2 &&& (65535 : Int32))), .val (.long (f1 q0 (p1 &&& (2147483647 : Int32)) (p2 &&& (65535 : Int32)))), .second, .val (.int (0 : Int32)), .val (.int (1 : Int32)), .val (.int (1 : Int32))] [(.int (1 : Int32))])) _
          refine XS.ifNo X1.here hx rfl (hb hby at_101) rfl ((if0 _ _).trans (feq (by decide : ¬ ((1 : Int32) = (0 : Int32)))).1) ?_
          show Steps p.tables e below (T1.setTop (mkF m 104 #[.val (.long q0), .second, .val (.int p1), .val (.int p2), .val (.int (p1 &&& (2147483647 : Int32))), .val (.int (p2 &&& (65535 : Int32))), .val (.long (f1 q0 (p1 &&& (2147483647 : Int32)) (p2 &&& (65535 : Int32)))), .second, .val (.int (0 : Int32)), .val (.int (1 : Int32)), .val (.int (1 : Int32))] [])) _
          refine XS.lload X1.here hx rfl (hb hby at_104) rfl ?_
          show Steps p.tables e below (T1.setTop (mkF m 106 #[.val (.long q0), .second, .val (.int p1), .val (.int p2), .val (.int (p1 &&& (2147483647 : Int32))), .val (.int (p2 &&& (65535 : Int32))), .val (.long (f1 q0 (p1 &&& (2147483647 : Int32)) (p2 &&& (65535 : Int32)))), .second, .val (.int (0 : Int32)), .val (.int (1 : Int32)), .val (.int (1 : Int32))] [(.long (f1 q0 (p1 &&& (2147483647 : Int32)) (p2 &&& (65535 : Int32))))])) _
          refine XS.lconst X1.here hx rfl (hb hby at_106) ?_
          show Steps p.tables e below (T1.setTop (mkF m 107 #[.val (.long q0), .second, .val (.int p1), .val (.int p2), .val (.int (p1 &&& (2147483647 : Int32))), .val (.int (p2 &&& (65535 : Int32))), .val (.long (f1 q0 (p1 &&& (2147483647 : Int32)) (p2 &&& (65535 : Int32)))), .second, .val (.int (0 : Int32)), .val (.int (1 : Int32)), .val (.int (1 : Int32))] [(.long (0 : Int64)), (.long (f1 q0 (p1 &&& (2147483647 : Int32)) (p2 &&& (65535 : Int32))))])) _
          refine XS.lcmp X1.here hx rfl (hb hby at_107) rfl ?_
          exact kt
        by_cases hc25 : (f1 q0 (p1 &&& (2147483647 : Int32)) (p2 &&& (65535 : Int32))) < (0 : Int64)
        · skip
          have K26 : ∀ t, Steps p.tables e below (T1.setTop (mkF m 116 #[.val (.long q0), .second, .val (.int p1), .val (.int p2), .val (.int (p1 &&& (2147483647 : Int32))), .val (.int (p2 &&& (65535 : Int32))), .val (.long (f1 q0 (p1 &&& (2147483647 : Int32)) (p2 &&& (65535 : Int32)))), .second, .val (.int (0 : Int32)), .val (.int (1 : Int32)), .val (.int (1 : Int32))] [(.int (1 : Int32))])) t → Steps p.tables e below (s₁.setTop (mkF m 0 #[.val (.long q0), .second, .val (.int p1), .val (.int p2), .unset, .unset, .unset, .unset, .unset, .unset, .unset] [])) t := by
            intro t kt
            refine K24 _ ?_
            show Steps p.tables e below (T1.setTop (mkF m 108 #[.val (.long q0), .second, .val (.int p1), .val (.int p2), .val (.int (p1 &&& (2147483647 : Int32))), .val (.int (p2 &&& (65535 : Int32))), .val (.long (f1 q0 (p1 &&& (2147483647 : Int32)) (p2 &&& (65535 : Int32)))), .second, .val (.int (0 : Int32)), .val (.int (1 : Int32)), .val (.int (1 : Int32))] [(.int (lcmpW (f1 q0 (p1 &&& (2147483647 : Int32)) (p2 &&& (65535 : Int32))) (0 : Int64)))])) _
            refine XS.ifNo X1.here hx rfl (hb hby at_108) rfl ((if0 _ _).trans (tlt ((lw_lt _ _).mpr hc25)).2.1) ?_
            show Steps p.tables e below (T1.setTop (mkF m 111 #[.val (.long q0), .second, .val (.int p1), .val (.int p2), .val (.int (p1 &&& (2147483647 : Int32))), .val (.int (p2 &&& (65535 : Int32))), .val (.long (f1 q0 (p1 &&& (2147483647 : Int32)) (p2 &&& (65535 : Int32)))), .second, .val (.int (0 : Int32)), .val (.int (1 : Int32)), .val (.int (1 : Int32))] [])) _
            refine XS.iconst X1.here hx rfl (hb hby at_111) ?_
            show Steps p.tables e below (T1.setTop (mkF m 112 #[.val (.long q0), .second, .val (.int p1), .val (.int p2), .val (.int (p1 &&& (2147483647 : Int32))), .val (.int (p2 &&& (65535 : Int32))), .val (.long (f1 q0 (p1 &&& (2147483647 : Int32)) (p2 &&& (65535 : Int32)))), .second, .val (.int (0 : Int32)), .val (.int (1 : Int32)), .val (.int (1 : Int32))] [(.int (1 : Int32))])) _
            refine XS.goto X1.here hx rfl (pc0 := 112) (pc' := 116) rfl (hb hby at_112) (by decide) (by decide) ?_
            exact kt
          have hv : f0 q0 p1 p2 = (1 : Int32) := by simp only [f0, if_neg hc3, if_pos hc21, if_pos hc23, if_pos hc25]
          obtain ⟨fs, hr, hrun, hended, hW, hsame⟩ := X1.leave (v := some (.int (1 : Int32))) (fun h => by rw [Bd.returns] at h; cases h)
          refine ⟨_, _, pre0 _ (K26 _ ?_), hrun, hended, _, _, rfl, ?_, ⟨_, rfl⟩, hW, hsame.mono (by decide) (by decide)⟩
          · show Steps p.tables e below (T1.setTop (mkF m 116 #[.val (.long q0), .second, .val (.int p1), .val (.int p2), .val (.int (p1 &&& (2147483647 : Int32))), .val (.int (p2 &&& (65535 : Int32))), .val (.long (f1 q0 (p1 &&& (2147483647 : Int32)) (p2 &&& (65535 : Int32)))), .second, .val (.int (0 : Int32)), .val (.int (1 : Int32)), .val (.int (1 : Int32))] [(.int (1 : Int32))])) _
            exact retN X1 hx (t := .boolean) Bd.returns (by simp) (hb hby at_116) hr
          · show Q0 Z q0 p1 p2  h0 _ T1.heap _
            rw [e1]
            exact ⟨by rw [hv], rfl, rfl⟩
        · skip
          have K27 : ∀ t, Steps p.tables e below (T1.setTop (mkF m 116 #[.val (.long q0), .second, .val (.int p1), .val (.int p2), .val (.int (p1 &&& (2147483647 : Int32))), .val (.int (p2 &&& (65535 : Int32))), .val (.long (f1 q0 (p1 &&& (2147483647 : Int32)) (p2 &&& (65535 : Int32)))), .second, .val (.int (0 : Int32)), .val (.int (1 : Int32)), .val (.int (1 : Int32))] [(.int (0 : Int32))])) t → Steps p.tables e below (s₁.setTop (mkF m 0 #[.val (.long q0), .second, .val (.int p1), .val (.int p2), .unset, .unset, .unset, .unset, .unset, .unset, .unset] [])) t := by
            intro t kt
            refine K24 _ ?_
            show Steps p.tables e below (T1.setTop (mkF m 108 #[.val (.long q0), .second, .val (.int p1), .val (.int p2), .val (.int (p1 &&& (2147483647 : Int32))), .val (.int (p2 &&& (65535 : Int32))), .val (.long (f1 q0 (p1 &&& (2147483647 : Int32)) (p2 &&& (65535 : Int32)))), .second, .val (.int (0 : Int32)), .val (.int (1 : Int32)), .val (.int (1 : Int32))] [(.int (lcmpW (f1 q0 (p1 &&& (2147483647 : Int32)) (p2 &&& (65535 : Int32))) (0 : Int64)))])) _
            refine XS.ifYes X1.here hx rfl (pc0 := 108) (pc' := 115) rfl (hb hby at_108) rfl ((if0 _ _).trans (flt (mt (lw_lt _ _).mp hc25)).2.1) (by decide) (by decide) ?_
            show Steps p.tables e below (T1.setTop (mkF m 115 #[.val (.long q0), .second, .val (.int p1), .val (.int p2), .val (.int (p1 &&& (2147483647 : Int32))), .val (.int (p2 &&& (65535 : Int32))), .val (.long (f1 q0 (p1 &&& (2147483647 : Int32)) (p2 &&& (65535 : Int32)))), .second, .val (.int (0 : Int32)), .val (.int (1 : Int32)), .val (.int (1 : Int32))] [])) _
            refine XS.iconst X1.here hx rfl (hb hby at_115) ?_
            exact kt
          have hv : f0 q0 p1 p2 = (0 : Int32) := by simp only [f0, if_neg hc3, if_pos hc21, if_pos hc23, if_neg hc25]
          obtain ⟨fs, hr, hrun, hended, hW, hsame⟩ := X1.leave (v := some (.int (0 : Int32))) (fun h => by rw [Bd.returns] at h; cases h)
          refine ⟨_, _, pre0 _ (K27 _ ?_), hrun, hended, _, _, rfl, ?_, ⟨_, rfl⟩, hW, hsame.mono (by decide) (by decide)⟩
          · show Steps p.tables e below (T1.setTop (mkF m 116 #[.val (.long q0), .second, .val (.int p1), .val (.int p2), .val (.int (p1 &&& (2147483647 : Int32))), .val (.int (p2 &&& (65535 : Int32))), .val (.long (f1 q0 (p1 &&& (2147483647 : Int32)) (p2 &&& (65535 : Int32)))), .second, .val (.int (0 : Int32)), .val (.int (1 : Int32)), .val (.int (1 : Int32))] [(.int (0 : Int32))])) _
            exact retN X1 hx (t := .boolean) Bd.returns (by simp) (hb hby at_116) hr
          · show Q0 Z q0 p1 p2  h0 _ T1.heap _
            rw [e1]
            exact ⟨by rw [hv], rfl, rfl⟩
      · skip
        have K28 : ∀ t, Steps p.tables e below (T1.setTop (mkF m 116 #[.val (.long q0), .second, .val (.int p1), .val (.int p2), .val (.int (p1 &&& (2147483647 : Int32))), .val (.int (p2 &&& (65535 : Int32))), .val (.long (f1 q0 (p1 &&& (2147483647 : Int32)) (p2 &&& (65535 : Int32)))), .second, .val (.int (0 : Int32)), .val (.int (1 : Int32)), .val (.int (0 : Int32))] [(.int (0 : Int32))])) t → Steps p.tables e below (s₁.setTop (mkF m 0 #[.val (.long q0), .second, .val (.int p1), .val (.int p2), .unset, .unset, .unset, .unset, .unset, .unset, .unset] [])) t := by
          intro t kt
          refine K22 _ ?_
          show Steps p.tables e below (T1.setTop (mkF m 61 #[.val (.long q0), .second, .val (.int p1), .val (.int p2), .val (.int (p1 &&& (2147483647 : Int32))), .val (.int (p2 &&& (65535 : Int32))), .val (.long (f1 q0 (p1 &&& (2147483647 : Int32)) (p2 &&& (65535 : Int32)))), .second, .val (.int (0 : Int32)), .val (.int (1 : Int32)), .unset] [(.int (lcmpW (((f1 q0 (p1 &&& (2147483647 : Int32)) (p2 &&& (65535 : Int32))) ^^^ q0) &&& (9223372036854775807 : Int64)) (0 : Int64)))])) _
          refine XS.ifYes X1.here hx rfl (pc0 := 61) (pc' := 68) rfl (hb hby at_61) rfl ((if0 _ _).trans (feq (mt (lw_eq _ _).mp hc23)).2) (by decide) (by decide) ?_
          show Steps p.tables e below (T1.setTop (mkF m 68 #[.val (.long q0), .second, .val (.int p1), .val (.int p2), .val (.int (p1 &&& (2147483647 : Int32))), .val (.int (p2 &&& (65535 : Int32))), .val (.long (f1 q0 (p1 &&& (2147483647 : Int32)) (p2 &&& (65535 : Int32)))), .second, .val (.int (0 : Int32)), .val (.int (1 : Int32)), .unset] [])) _
          refine XS.iconst X1.here hx rfl (hb hby at_68) ?_
          show Steps p.tables e below (T1.setTop (mkF m 69 #[.val (.long q0), .second, .val (.int p1), .val (.int p2), .val (.int (p1 &&& (2147483647 : Int32))), .val (.int (p2 &&& (65535 : Int32))), .val (.long (f1 q0 (p1 &&& (2147483647 : Int32)) (p2 &&& (65535 : Int32)))), .second, .val (.int (0 : Int32)), .val (.int (1 : Int32)), .unset] [(.int (0 : Int32))])) _
          refine XS.istore X1.here hx rfl (hb hby at_69) rfl (l' := #[.val (.long q0), .second, .val (.int p1), .val (.int p2), .val (.int (p1 &&& (2147483647 : Int32))), .val (.int (p2 &&& (65535 : Int32))), .val (.long (f1 q0 (p1 &&& (2147483647 : Int32)) (p2 &&& (65535 : Int32)))), .second, .val (.int (0 : Int32)), .val (.int (1 : Int32)), .val (.int (0 : Int32))]) rfl ?_
          show Steps p.tables e below (T1.setTop (mkF m 71 #[.val (.long q0), .second, .val (.int p1), .val (.int p2), .val (.int (p1 &&& (2147483647 : Int32))), .val (.int (p2 &&& (65535 : Int32))), .val (.long (f1 q0 (p1 &&& (2147483647 : Int32)) (p2 &&& (65535 : Int32)))), .second, .val (.int (0 : Int32)), .val (.int (1 : Int32)), .val (.int (0 : Int32))] [])) _
          refine XS.iload X1.here hx rfl (hb hby at_71) rfl ?_
          show Steps p.tables e below (T1.setTop (mkF m 73 #[.val (.long q0), .second, .val (.int p1), .val (.int p2), .val (.int (p1 &&& (2147483647 : Int32))), .val (.int (p2 &&& (65535 : Int32))), .val (.long (f1 q0 (p1 &&& (2147483647 : Int32)) (p2 &&& (65535 : Int32)))), .second, .val (.int (0 : Int32)), .val (.int (1 : Int32)), .val (.int (0 : Int32))] [(.int (1 : Int32))])) _
          refine XS.ifNo X1.here hx rfl (hb hby at_73) rfl ((if0 _ _).trans (feq (by decide : ¬ ((1 : Int32) = (0 : Int32)))).1) ?_
          show Steps p.tables e below (T1.setTop (mkF m 76 #[.val (.long q0), .second, .val (.int p1), .val (.int p2), .val (.int (p1 &&& (2147483647 : Int32))), .val (.int (p2 &&& (65535 : Int32))), .val (.long (f1 q0 (p1 &&& (2147483647 : Int32)) (p2 &&& (65535 : Int32)))), .second, .val (.int (0 : Int32)), .val (.int (1 : Int32)), .val (.int (0 : Int32))] [])) _
          refine XS.iload X1.here hx rfl (hb hby at_76) rfl ?_
          show Steps p.tables e below (T1.setTop (mkF m 78 #[.val (.long q0), .second, .val (.int p1), .val (.int p2), .val (.int (p1 &&& (2147483647 : Int32))), .val (.int (p2 &&& (65535 : Int32))), .val (.long (f1 q0 (p1 &&& (2147483647 : Int32)) (p2 &&& (65535 : Int32)))), .second, .val (.int (0 : Int32)), .val (.int (1 : Int32)), .val (.int (0 : Int32))] [(.int (0 : Int32))])) _
          refine XS.ifYes X1.here hx rfl (pc0 := 78) (pc' := 99) rfl (hb hby at_78) rfl ((if0 _ _).trans (teq (rfl : (0 : Int32) = (0 : Int32))).1) (by decide) (by decide) ?_
          show Steps p.tables e below (T1.setTop (mkF m 99 #[.val (.long q0), .second, .val (.int p1), .val (.int p2), .val (.int (p1 &&& (2147483647 : Int32))), .val (.int (p2 &&& (65535 : Int32))), .val (.long (f1 q0 (p1 &&& (2147483647 : Int32)) (p2 &&& (65535 : Int32)))), .second, .val (.int (0 : Int32)), .val (.int (1 : Int32)), .val (.int (0 : Int32))] [])) _
          refine XS.iload X1.here hx rfl (hb hby at_99) rfl ?_
          show Steps p.tables e below (T1.setTop (mkF m 101 #[.val (.long q0), .second, .val (.int p1), .val (.int p2), .val (.int (p1 &&& (2147483647 : Int32))), .val (.int (p2 &&& (65535 : Int32))), .val (.long (f1 q0 (p1 &&& (2147483647 : Int32)) (p2 &&& (65535 : Int32)))), .second, .val (.int (0 : Int32)), .val (.int (1 : Int32)), .val (.int (0 : Int32))] [(.int (0 : Int32))])) _
          refine XS.ifYes X1.here hx rfl (pc0 := 101) (pc' := 115) rfl (hb hby at_101) rfl ((if0 _ _).trans (teq (rfl : (0 : Int32) = (0 : Int32))).1) (by decide) (by decide) ?_
          show Steps p.tables e below (T1.setTop (mkF m 115 #[.val (.long q0), .second, .val (.int p1), .val (.int p2), .val (.int (p1 &&& (2147483647 : Int32))), .val (.int (p2 &&& (65535 : Int32))), .val (.long (f1 q0 (p1 &&& (2147483647 : Int32)) (p2 &&& (65535 : Int32)))), .second, .val (.int (0 : Int32)), .val (.int (1 : Int32)), .val (.int (0 : Int32))] [])) _
          refine XS.iconst X1.here hx rfl (hb hby at_115) ?_
          exact kt
        have hv : f0 q0 p1 p2 = (0 : Int32) := by simp only [f0, if_neg hc3, if_pos hc21, if_neg hc23]
        obtain ⟨fs, hr, hrun, hended, hW, hsame⟩ := X1.leave (v := some (.int (0 : Int32))) (fun h => by rw [Bd.returns] at h; cases h)
        refine ⟨_, _, pre0 _ (K28 _ ?_), hrun, hended, _, _, rfl, ?_, ⟨_, rfl⟩, hW, hsame.mono (by decide) (by decide)⟩
        · show Steps p.tables e below (T1.setTop (mkF m 116 #[.val (.long q0), .second, .val (.int p1), .val (.int p2), .val (.int (p1 &&& (2147483647 : Int32))), .val (.int (p2 &&& (65535 : Int32))), .val (.long (f1 q0 (p1 &&& (2147483647 : Int32)) (p2 &&& (65535 : Int32)))), .second, .val (.int (0 : Int32)), .val (.int (1 : Int32)), .val (.int (0 : Int32))] [(.int (0 : Int32))])) _
          exact retN X1 hx (t := .boolean) Bd.returns (by simp) (hb hby at_116) hr
        · show Q0 Z q0 p1 p2  h0 _ T1.heap _
          rw [e1]
          exact ⟨by rw [hv], rfl, rfl⟩
    · skip
      have K29 : ∀ t, Steps p.tables e below (T1.setTop (mkF m 61 #[.val (.long q0), .second, .val (.int p1), .val (.int p2), .val (.int (p1 &&& (2147483647 : Int32))), .val (.int (p2 &&& (65535 : Int32))), .val (.long (f1 q0 (p1 &&& (2147483647 : Int32)) (p2 &&& (65535 : Int32)))), .second, .val (.int (0 : Int32)), .val (.int (0 : Int32)), .unset] [(.int (lcmpW (((f1 q0 (p1 &&& (2147483647 : Int32)) (p2 &&& (65535 : Int32))) ^^^ q0) &&& (9223372036854775807 : Int64)) (0 : Int64)))])) t → Steps p.tables e below (s₁.setTop (mkF m 0 #[.val (.long q0), .second, .val (.int p1), .val (.int p2), .unset, .unset, .unset, .unset, .unset, .unset, .unset] [])) t := by
        intro t kt
        refine K20 _ ?_
        show Steps p.tables e below (T1.setTop (mkF m 41 #[.val (.long q0), .second, .val (.int p1), .val (.int p2), .val (.int (p1 &&& (2147483647 : Int32))), .val (.int (p2 &&& (65535 : Int32))), .val (.long (f1 q0 (p1 &&& (2147483647 : Int32)) (p2 &&& (65535 : Int32)))), .second, .val (.int (0 : Int32)), .unset, .unset] [(.int (10 : Int32)), (.int (p1 &&& (2147483647 : Int32)))])) _
        refine XS.icmpYes X1.here hx rfl (pc0 := 41) (pc' := 48) rfl (hb hby at_41) rfl (flt hc21).2.1 (by decide) (by decide) ?_
        show Steps p.tables e below (T1.setTop (mkF m 48 #[.val (.long q0), .second, .val (.int p1), .val (.int p2), .val (.int (p1 &&& (2147483647 : Int32))), .val (.int (p2 &&& (65535 : Int32))), .val (.long (f1 q0 (p1 &&& (2147483647 : Int32)) (p2 &&& (65535 : Int32)))), .second, .val (.int (0 : Int32)), .unset, .unset] [])) _
        refine XS.iconst X1.here hx rfl (hb hby at_48) ?_
        show Steps p.tables e below (T1.setTop (mkF m 49 #[.val (.long q0), .second, .val (.int p1), .val (.int p2), .val (.int (p1 &&& (2147483647 : Int32))), .val (.int (p2 &&& (65535 : Int32))), .val (.long (f1 q0 (p1 &&& (2147483647 : Int32)) (p2 &&& (65535 : Int32)))), .second, .val (.int (0 : Int32)), .unset, .unset] [(.int (0 : Int32))])) _
        refine XS.istore X1.here hx rfl (hb hby at_49) rfl (l' := #[.val (.long q0), .second, .val (.int p1), .val (.int p2), .val (.int (p1 &&& (2147483647 : Int32))), .val (.int (p2 &&& (65535 : Int32))), .val (.long (f1 q0 (p1 &&& (2147483647 : Int32)) (p2 &&& (65535 : Int32)))), .second, .val (.int (0 : Int32)), .val (.int (0 : Int32)), .unset]) rfl ?_
        show Steps p.tables e below (T1.setTop (mkF m 51 #[.val (.long q0), .second, .val (.int p1), .val (.int p2), .val (.int (p1 &&& (2147483647 : Int32))), .val (.int (p2 &&& (65535 : Int32))), .val (.long (f1 q0 (p1 &&& (2147483647 : Int32)) (p2 &&& (65535 : Int32)))), .second, .val (.int (0 : Int32)), .val (.int (0 : Int32)), .unset] [])) _
        refine XS.lload X1.here hx rfl (hb hby at_51) rfl ?_
        show Steps p.tables e below (T1.setTop (mkF m 53 #[.val (.long q0), .second, .val (.int p1), .val (.int p2), .val (.int (p1 &&& (2147483647 : Int32))), .val (.int (p2 &&& (65535 : Int32))), .val (.long (f1 q0 (p1 &&& (2147483647 : Int32)) (p2 &&& (65535 : Int32)))), .second, .val (.int (0 : Int32)), .val (.int (0 : Int32)), .unset] [(.long (f1 q0 (p1 &&& (2147483647 : Int32)) (p2 &&& (65535 : Int32))))])) _
        refine XS.lloadN X1.here hx rfl (hb hby at_53) rfl ?_
        show Steps p.tables e below (T1.setTop (mkF m 54 #[.val (.long q0), .second, .val (.int p1), .val (.int p2), .val (.int (p1 &&& (2147483647 : Int32))), .val (.int (p2 &&& (65535 : Int32))), .val (.long (f1 q0 (p1 &&& (2147483647 : Int32)) (p2 &&& (65535 : Int32)))), .second, .val (.int (0 : Int32)), .val (.int (0 : Int32)), .unset] [(.long q0), (.long (f1 q0 (p1 &&& (2147483647 : Int32)) (p2 &&& (65535 : Int32))))])) _
        refine XS.lxor X1.here hx rfl (hb hby at_54) rfl ?_
        show Steps p.tables e below (T1.setTop (mkF m 55 #[.val (.long q0), .second, .val (.int p1), .val (.int p2), .val (.int (p1 &&& (2147483647 : Int32))), .val (.int (p2 &&& (65535 : Int32))), .val (.long (f1 q0 (p1 &&& (2147483647 : Int32)) (p2 &&& (65535 : Int32)))), .second, .val (.int (0 : Int32)), .val (.int (0 : Int32)), .unset] [(.long ((f1 q0 (p1 &&& (2147483647 : Int32)) (p2 &&& (65535 : Int32))) ^^^ q0))])) _
        refine X1.ldc2Long hx hown (mvT hZ (hw _ (List.mem_of_getElem? (i := 7) rfl))) (g := (mkF m 55 #[.val (.long q0), .second, .val (.int p1), .val (.int p2), .val (.int (p1 &&& (2147483647 : Int32))), .val (.int (p2 &&& (65535 : Int32))), .val (.long (f1 q0 (p1 &&& (2147483647 : Int32)) (p2 &&& (65535 : Int32)))), .second, .val (.int (0 : Int32)), .val (.int (0 : Int32)), .unset] [(.long ((f1 q0 (p1 &&& (2147483647 : Int32)) (p2 &&& (65535 : Int32))) ^^^ q0))])) rfl (hb hby at_55) _ ?_
        show Steps p.tables e below (T1.setTop (mkF m 58 #[.val (.long q0), .second, .val (.int p1), .val (.int p2), .val (.int (p1 &&& (2147483647 : Int32))), .val (.int (p2 &&& (65535 : Int32))), .val (.long (f1 q0 (p1 &&& (2147483647 : Int32)) (p2 &&& (65535 : Int32)))), .second, .val (.int (0 : Int32)), .val (.int (0 : Int32)), .unset] [(.long (9223372036854775807 : Int64)), (.long ((f1 q0 (p1 &&& (2147483647 : Int32)) (p2 &&& (65535 : Int32))) ^^^ q0))])) _
        refine XS.land X1.here hx rfl (hb hby at_58) rfl ?_
        show Steps p.tables e below (T1.setTop (mkF m 59 #[.val (.long q0), .second, .val (.int p1), .val (.int p2), .val (.int (p1 &&& (2147483647 : Int32))), .val (.int (p2 &&& (65535 : Int32))), .val (.long (f1 q0 (p1 &&& (2147483647 : Int32)) (p2 &&& (65535 : Int32)))), .second, .val (.int (0 : Int32)), .val (.int (0 : Int32)), .unset] [(.long (((f1 q0 (p1 &&& (2147483647 : Int32)) (p2 &&& (65535 : Int32))) ^^^ q0) &&& (9223372036854775807 : Int64)))])) _
        refine XS.lconst X1.here hx rfl (hb hby at_59) ?_
        show Steps p.tables e below (T1.setTop (mkF m 60 #[.val (.long q0), .second, .val (.int p1), .val (.int p2), .val (.int (p1 &&& (2147483647 : Int32))), .val (.int (p2 &&& (65535 : Int32))), .val (.long (f1 q0 (p1 &&& (2147483647 : Int32)) (p2 &&& (65535 : Int32)))), .second, .val (.int (0 : Int32)), .val (.int (0 : Int32)), .unset] [(.long (0 : Int64)), (.long (((f1 q0 (p1 &&& (2147483647 : Int32)) (p2 &&& (65535 : Int32))) ^^^ q0) &&& (9223372036854775807 : Int64)))])) _
        refine XS.lcmp X1.here hx rfl (hb hby at_60) rfl ?_
        exact kt
      by_cases hc30 : (((f1 q0 (p1 &&& (2147483647 : Int32)) (p2 &&& (65535 : Int32))) ^^^ q0) &&& (9223372036854775807 : Int64)) = (0 : Int64)
      · skip
        have K31 : ∀ t, Steps p.tables e below (T1.setTop (mkF m 108 #[.val (.long q0), .second, .val (.int p1), .val (.int p2), .val (.int (p1 &&& (2147483647 : Int32))), .val (.int (p2 &&& (65535 : Int32))), .val (.long (f1 q0 (p1 &&& (2147483647 : Int32)) (p2 &&& (65535 : Int32)))), .second, .val (.int (0 : Int32)), .val (.int (0 : Int32)), .val (.int (1 : Int32))] [(.int (lcmpW (f1 q0 (p1 &&& (2147483647 : Int32)) (p2 &&& (65535 : Int32))) (0 : Int64)))])) t → Steps p.tables e below (s₁.setTop (mkF m 0 #[.val (.long q0), .second, .val (.int p1), .val (.int p2), .unset, .unset, .unset, .unset, .unset, .unset, .unset] [])) t := by
          intro t kt
          refine K29 _ ?_
          show Steps p.tables e below (T1.setTop (mkF m 61 #[.val (.long q0), .second, .val (.int p1), .val (.int p2), .val (.int (p1 &&& (2147483647 : Int32))), .val (.int (p2 &&& (65535 : Int32))), .val (.long (f1 q0 (p1 &&& (2147483647 : Int32)) (p2 &&& (65535 : Int32)))), .second, .val (.int (0 : Int32)), .val (.int (0 : Int32)), .unset] [(.int (lcmpW (((f1 q0 (p1 &&& (2147483647 : Int32)) (p2 &&& (65535 : Int32))) ^^^ q0) &&& (9223372036854775807 : Int64)) (0 : Int64)))])) _
          refine XS.ifNo X1.here hx rfl (hb hby at_61) rfl ((if0 _ _).trans (teq ((lw_eq _ _).mpr hc30)).2) ?_
          show Steps p.tables e below (T1.setTop (mkF m 64 #[.val (.long q0), .second, .val (.int p1), .val (.int p2), .val (.int (p1 &&& (2147483647 : Int32))), .val (.int (p2 &&& (65535 : Int32))), .val (.long (f1 q0 (p1 &&& (2147483647 : Int32)) (p2 &&& (65535 : Int32)))), .second, .val (.int (0 : Int32)), .val (.int (0 : Int32)), .unset] [])) _
          refine XS.iconst X1.here hx rfl (hb hby at_64) ?_
          show Steps p.tables e below (T1.setTop (mkF m 65 #[.val (.long q0), .second, .val (.int p1), .val (.int p2), .val (.int (p1 &&& (2147483647 : Int32))), .val (.int (p2 &&& (65535 : Int32))), .val (.long (f1 q0 (p1 &&& (2147483647 : Int32)) (p2 &&& (65535 : Int32)))), .second, .val (.int (0 : Int32)), .val (.int (0 : Int32)), .unset] [(.int (1 : Int32))])) _
          refine XS.goto X1.here hx rfl (pc0 := 65) (pc' := 69) rfl (hb hby at_65) (by decide) (by decide) ?_
          show Steps p.tables e below (T1.setTop (mkF m 69 #[.val (.long q0), .second, .val (.int p1), .val (.int p2), .val (.int (p1 &&& (2147483647 : Int32))), .val (.int (p2 &&& (65535 : Int32))), .val (.long (f1 q0 (p1 &&& (2147483647 : Int32)) (p2 &&& (65535 : Int32)))), .second, .val (.int (0 : Int32)), .val (.int (0 : Int32)), .unset] [(.int (1 : Int32))])) _
          refine XS.istore X1.here hx rfl (hb hby at_69) rfl (l' := #[.val (.long q0), .second, .val (.int p1), .val (.int p2), .val (.int (p1 &&& (2147483647 : Int32))), .val (.int (p2 &&& (65535 : Int32))), .val (.long (f1 q0 (p1 &&& (2147483647 : Int32)) (p2 &&& (65535 : Int32)))), .second, .val (.int (0 : Int32)), .val (.int (0 : Int32)), .val (.int (1 : Int32))]) rfl ?_
          show Steps p.tables e below (T1.setTop (mkF m 71 #[.val (.long q0), .second, .val (.int p1), .val (.int p2), .val (.int (p1 &&& (2147483647 : Int32))), .val (.int (p2 &&& (65535 : Int32))), .val (.long (f1 q0 (p1 &&& (2147483647 : Int32)) (p2 &&& (65535 : Int32)))), .second, .val (.int (0 : Int32)), .val (.int (0 : Int32)), .val (.int (1 : Int32))] [])) _
          refine XS.iload X1.here hx rfl (hb hby at_71) rfl ?_
          show Steps p.tables e below (T1.setTop (mkF m 73 #[.val (.long q0), .second, .val (.int p1), .val (.int p2), .val (.int (p1 &&& (2147483647 : Int32))), .val (.int (p2 &&& (65535 : Int32))), .val (.long (f1 q0 (p1 &&& (2147483647 : Int32)) (p2 &&& (65535 : Int32)))), .second, .val (.int (0 : Int32)), .val (.int (0 : Int32)), .val (.int (1 : Int32))] [(.int (0 : Int32))])) _
          refine XS.ifYes X1.here hx rfl (pc0 := 73) (pc' := 99) rfl (hb hby at_73) rfl ((if0 _ _).trans (teq (rfl : (0 : Int32) = (0 : Int32))).1) (by decide) (by decide) ?_
          show Steps p.tables e below (T1.setTop (mkF m 99 #[.val (.long q0), .second, .val (.int p1), .val (.int p2), .val (.int (p1 &&& (2147483647 : Int32))), .val (.int (p2 &&& (65535 : Int32))), .val (.long (f1 q0 (p1 &&& (2147483647 : Int32)) (p2 &&& (65535 : Int32)))), .second, .val (.int (0 : Int32)), .val (.int (0 : Int32)), .val (.int (1 : Int32))] [])) _
          refine XS.iload X1.here hx rfl (hb hby at_99) rfl ?_
          show Steps p.tables e below (T1.setTop (mkF m 101 #[.val (.long q0), .second, .val (.int p1), .val (.int p2), .val (.int (p1 &&& (2147483647 : Int32))), .val (.int (p2 &&& (65535 : Int32))), .val (.long (f1 q0 (p1 &&& (2147483647 : Int32)) (p2 &&& (65535 : Int32)))), .second, .val (.int (0 : Int32)), .val (.int (0 : Int32)), .val (.int (1 : Int32))] [(.int (1 : Int32))])) _
          refine XS.ifNo X1.here hx rfl (hb hby at_101) rfl ((if0 _ _).trans (feq (by decide : ¬ ((1 : Int32) = (0 : Int32)))).1) ?_
          show Steps p.tables e below (T1.setTop (mkF m 104 #[.val (.long q0), .second, .val (.int p1), .val (.int p2), .val (.int (p1 &&& (2147483647 : Int32))), .val (.int (p2 &&& (65535 : Int32))), .val (.long (f1 q0 (p1 &&& (2147483647 : Int32)) (p2 &&& (65535 : Int32)))), .second, .val (.int (0 : Int32)), .val (.int (0 : Int32)), .val (.int (1 : Int32))] [])) _
          refine XS.lload X1.here hx rfl (hb hby at_104) rfl ?_
          show Steps p.tables e below (T1.setTop (mkF m 106 #[.val (.long q0), .second, .val (.int p1), .val (.int p2), .val (.int (p1 &&& (2147483647 : Int32))), .val (.int (p2 &&& (65535 : Int32))), .val (.long (f1 q0 (p1 &&& (2147483647 : Int32)) (p2 &&& (65535 : Int32)))), .second, .val (.int (0 : Int32)), .val (.int (0 : Int32)), .val (.int (1 : Int32))] [(.long (f1 q0 (p1 &&& (2147483647 : Int32)) (p2 &&& (65535 : Int32))))])) _
          refine XS.lconst X1.here hx rfl (hb hby at_106) ?_
          show Steps p.tables e below (T1.setTop (mkF m 107 #[.val (.long q0), .second, .val (.int p1), .val (.int p2), .val (.int (p1 &&& (2147483647 : Int32))), .val (.int (p2 &&& (65535 : Int32))), .val (.long (f1 q0 (p1 &&& (2147483647 : Int32)) (p2 &&& (65535 : Int32)))), .second, .val (.int (0 : Int32)), .val (.int (0 : Int32)), .val (.int (1 : Int32))] [(.long (0 : Int64)), (.long (f1 q0 (p1 &&& (2147483647 : Int32)) (p2 &&& (65535 : Int32))))])) _
          refine XS.lcmp X1.here hx rfl (hb hby at_107) rfl ?_
          exact kt
        by_cases hc32 : (f1 q0 (p1 &&& (2147483647 : Int32)) (p2 &&& (65535 : Int32))) < (0 : Int64)
        · skip
          have K33 : ∀ t, Steps p.tables e below (T1.setTop (mkF m 116 #[.val (.long q0), .second, .val (.int p1), .val (.int p2), .val (.int (p1 &&& (2147483647 : Int32))), .val (.int (p2 &&& (65535 : Int32))), .val (.long (f1 q0 (p1 &&& (2147483647 : Int32)) (p2 &&& (65535 : Int32)))), .second, .val (.int (0 : Int32)), .val (.int (0 : Int32)), .val (.int (1 : Int32))] [(.int (1 : Int32))])) t → Steps p.tables e below (s₁.setTop (mkF m 0 #[.val (.long q0), .second, .val (.int p1), .val (.int p2), .unset, .unset, .unset, .unset, .unset, .unset, .unset] [])) t := by
            intro t kt
            refine K31 _ ?_
            show Steps p.tables e below (T1.setTop (mkF m 108 #[.val (.long q0), .second, .val (.int p1), .val (.int p2), .val (.int (p1 &&& (2147483647 : Int32))), .val (.int (p2 &&& (65535 : Int32))), .val (.long (f1 q0 (p1 &&& (2147483647 : Int32)) (p2 &&& (65535 : Int32)))), .second, .val (.int (0 : Int32)), .val (.int (0 : Int32)), .val (.int (1 : Int32))] [(.int (lcmpW (f1 q0 (p1 &&& (2147483647 : Int32)) (p2 &&& (65535 : Int32))) (0 : Int64)))])) _
            refine XS.ifNo X1.here hx rfl (hb hby at_108) rfl ((if0 _ _).trans (tlt ((lw_lt _ _).mpr hc32)).2.1) ?_
            show Steps p.tables e below (T1.setTop (mkF m 111 #[.val (.long q0), .second, .val (.int p1), .val (.int p2), .val (.int (p1 &&& (2147483647 : Int32))), .val (.int (p2 &&& (65535 : Int32))), .val (.long (f1 q0 (p1 &&& (2147483647 : Int32)) (p2 &&& (65535 : Int32)))), .second, .val (.int (0 : Int32)), .val (.int (0 : Int32)), .val (.int (1 : Int32))] [])) _
            refine XS.iconst X1.here hx rfl (hb hby at_111) ?_
            show Steps p.tables e below (T1.setTop (mkF m 112 #[.val (.long q0), .second, .val (.int p1), .val (.int p2), .val (.int (p1 &&& (2147483647 : Int32))), .val (.int (p2 &&& (65535 : Int32))), .val (.long (f1 q0 (p1 &&& (2147483647 : Int32)) (p2 &&& (65535 : Int32)))), .second, .val (.int (0 : Int32)), .val (.int (0 : Int32)), .val (.int (1 : Int32))] [(.int (1 : Int32))])) _
            refine XS.goto X1.here hx rfl (pc0 := 112) (pc' := 116) rfl (hb hby at_112) (by decide) (by decide) ?_
            exact kt
          have hv : f0 q0 p1 p2 = (1 : Int32) := by simp only [f0, if_neg hc3, if_neg hc21, if_pos hc30, if_pos hc32]
          obtain ⟨fs, hr, hrun, hended, hW, hsame⟩ := X1.leave (v := some (.int (1 : Int32))) (fun h => by rw [Bd.returns] at h; cases h)
          refine ⟨_, _, pre0 _ (K33 _ ?_), hrun, hended, _, _, rfl, ?_, ⟨_, rfl⟩, hW, hsame.mono (by decide) (by decide)⟩
          · show Steps p.tables e below (T1.setTop (mkF m 116 #[.val (.long q0), .second, .val (.int p1), .val (.int p2), .val (.int (p1 &&& (2147483647 : Int32))), .val (.int (p2 &&& (65535 : Int32))), .val (.long (f1 q0 (p1 &&& (2147483647 : Int32)) (p2 &&& (65535 : Int32)))), .second, .val (.int (0 : Int32)), .val (.int (0 : Int32)), .val (.int (1 : Int32))] [(.int (1 : Int32))])) _
            exact retN X1 hx (t := .boolean) Bd.returns (by simp) (hb hby at_116) hr
          · show Q0 Z q0 p1 p2  h0 _ T1.heap _
            rw [e1]
            exact ⟨by rw [hv], rfl, rfl⟩
        · skip
          have K34 : ∀ t, Steps p.tables e below (T1.setTop (mkF m 116 #[.val (.long q0), .second, .val (.int p1), .val (.int p2), .val (.int (p1 &&& (2147483647 : Int32))), .val (.int (p2 &&& (65535 : Int32))), .val (.long (f1 q0 (p1 &&& (2147483647 : Int32)) (p2 &&& (65535 : Int32)))), .second, .val (.int (0 : Int32)), .val (.int (0 : Int32)), .val (.int (1 : Int32))] [(.int (0 : Int32))])) t → Steps p.tables e below (s₁.setTop (mkF m 0 #[.val (.long q0), .second, .val (.int p1), .val (.int p2), .unset, .unset, .unset, .unset, .unset, .unset, .unset] [])) t := by
            intro t kt
            refine K31 _ ?_
            show Steps p.tables e below (T1.setTop (mkF m 108 #[.val (.long q0), .second, .val (.int p1), .val (.int p2), .val (.int (p1 &&& (2147483647 : Int32))), .val (.int (p2 &&& (65535 : Int32))), .val (.long (f1 q0 (p1 &&& (2147483647 : Int32)) (p2 &&& (65535 : Int32)))), .second, .val (.int (0 : Int32)), .val (.int (0 : Int32)), .val (.int (1 : Int32))] [(.int (lcmpW (f1 q0 (p1 &&& (2147483647 : Int32)) (p2 &&& (65535 : Int32))) (0 : Int64)))])) _
            refine XS.ifYes X1.here hx rfl (pc0 := 108) (pc' := 115) rfl (hb hby at_108) rfl ((if0 _ _).trans (flt (mt (lw_lt _ _).mp hc32)).2.1) (by decide) (by decide) ?_
            show Steps p.tables e below (T1.setTop (mkF m 115 #[.val (.long q0), .second, .val (.int p1), .val (.int p2), .val (.int (p1 &&& (2147483647 : Int32))), .val (.int (p2 &&& (65535 : Int32))), .val (.long (f1 q0 (p1 &&& (2147483647 : Int32)) (p2 &&& (65535 : Int32)))), .second, .val (.int (0 : Int32)), .val (.int (0 : Int32)), .val (.int (1 : Int32))] [])) _
            refine XS.iconst X1.here hx rfl (hb hby at_115) ?_
            exact kt
          have hv : f0 q0 p1 p2 = (0 : Int32) := by simp only [f0, if_neg hc3, if_neg hc21, if_pos hc30, if_neg hc32]
          obtain ⟨fs, hr, hrun, hended, hW, hsame⟩ := X1.leave (v := some (.int (0 : Int32))) (fun h => by rw [Bd.returns] at h; cases h)
          refine ⟨_, _, pre0 _ (K34 _ ?_), hrun, hended, _, _, rfl, ?_, ⟨_, rfl⟩, hW, hsame.mono (by decide) (by decide)⟩
          · show Steps p.tables e below (T1.setTop (mkF m 116 #[.val (.long q0), .second, .val (.int p1), .val (.int p2), .val (.int (p1 &&& (2147483647 : Int32))), .val (.int (p2 &&& (65535 : Int32))), .val (.long (f1 q0 (p1 &&& (2147483647 : Int32)) (p2 &&& (65535 : Int32)))), .second, .val (.int (0 : Int32)), .val (.int (0 : Int32)), .val (.int (1 : Int32))] [(.int (0 : Int32))])) _
            exact retN X1 hx (t := .boolean) Bd.returns (by simp) (hb hby at_116) hr
          · show Q0 Z q0 p1 p2  h0 _ T1.heap _
            rw [e1]
            exact ⟨by rw [hv], rfl, rfl⟩
      · skip
        have K35 : ∀ t, Steps p.tables e below (T1.setTop (mkF m 116 #[.val (.long q0), .second, .val (.int p1), .val (.int p2), .val (.int (p1 &&& (2147483647 : Int32))), .val (.int (p2 &&& (65535 : Int32))), .val (.long (f1 q0 (p1 &&& (2147483647 : Int32)) (p2 &&& (65535 : Int32)))), .second, .val (.int (0 : Int32)), .val (.int (0 : Int32)), .val (.int (0 : Int32))] [(.int (0 : Int32))])) t → Steps p.tables e below (s₁.setTop (mkF m 0 #[.val (.long q0), .second, .val (.int p1), .val (.int p2), .unset, .unset, .unset, .unset, .unset, .unset, .unset] [])) t := by
          intro t kt
          refine K29 _ ?_
          show Steps p.tables e below (T1.setTop (mkF m 61 #[.val (.long q0), .second, .val (.int p1), .val (.int p2), .val (.int (p1 &&& (2147483647 : Int32))), .val (.int (p2 &&& (65535 : Int32))), .val (.long (f1 q0 (p1 &&& (2147483647 : Int32)) (p2 &&& (65535 : Int32)))), .second, .val (.int (0 : Int32)), .val (.int (0 : Int32)), .unset] [(.int (lcmpW (((f1 q0 (p1 &&& (2147483647 : Int32)) (p2 &&& (65535 : Int32))) ^^^ q0) &&& (9223372036854775807 : Int64)) (0 : Int64)))])) _
          refine XS.ifYes X1.here hx rfl (pc0 := 61) (pc' := 68) rfl (hb hby at_61) rfl ((if0 _ _).trans (feq (mt (lw_eq _ _).mp hc30)).2) (by decide) (by decide) ?_
          show Steps p.tables e below (T1.setTop (mkF m 68 #[.val (.long q0), .second, .val (.int p1), .val (.int p2), .val (.int (p1 &&& (2147483647 : Int32))), .val (.int (p2 &&& (65535 : Int32))), .val (.long (f1 q0 (p1 &&& (2147483647 : Int32)) (p2 &&& (65535 : Int32)))), .second, .val (.int (0 : Int32)), .val (.int (0 : Int32)), .unset] [])) _
          refine XS.iconst X1.here hx rfl (hb hby at_68) ?_
          show Steps p.tables e below (T1.setTop (mkF m 69 #[.val (.long q0), .second, .val (.int p1), .val (.int p2), .val (.int (p1 &&& (2147483647 : Int32))), .val (.int (p2 &&& (65535 : Int32))), .val (.long (f1 q0 (p1 &&& (2147483647 : Int32)) (p2 &&& (65535 : Int32)))), .second, .val (.int (0 : Int32)), .val (.int (0 : Int32)), .unset] [(.int (0 : Int32))])) _
          refine XS.istore X1.here hx rfl (hb hby at_69) rfl (l' := #[.val (.long q0), .second, .val (.int p1), .val (.int p2), .val (.int (p1 &&& (2147483647 : Int32))), .val (.int (p2 &&& (65535 : Int32))), .val (.long (f1 q0 (p1 &&& (2147483647 : Int32)) (p2 &&& (65535 : Int32)))), .second, .val (.int (0 : Int32)), .val (.int (0 : Int32)), .val (.int (0 : Int32))]) rfl ?_
          show Steps p.tables e below (T1.setTop (mkF m 71 #[.val (.long q0), .second, .val (.int p1), .val (.int p2), .val (.int (p1 &&& (2147483647 : Int32))), .val (.int (p2 &&& (65535 : Int32))), .val (.long (f1 q0 (p1 &&& (2147483647 : Int32)) (p2 &&& (65535 : Int32)))), .second, .val (.int (0 : Int32)), .val (.int (0 : Int32)), .val (.int (0 : Int32))] [])) _
          refine XS.iload X1.here hx rfl (hb hby at_71) rfl ?_
          show Steps p.tables e below (T1.setTop (mkF m 73 #[.val (.long q0), .second, .val (.int p1), .val (.int p2), .val (.int (p1 &&& (2147483647 : Int32))), .val (.int (p2 &&& (65535 : Int32))), .val (.long (f1 q0 (p1 &&& (2147483647 : Int32)) (p2 &&& (65535 : Int32)))), .second, .val (.int (0 : Int32)), .val (.int (0 : Int32)), .val (.int (0 : Int32))] [(.int (0 : Int32))])) _
          refine XS.ifYes X1.here hx rfl (pc0 := 73) (pc' := 99) rfl (hb hby at_73) rfl ((if0 _ _).trans (teq (rfl : (0 : Int32) = (0 : Int32))).1) (by decide) (by decide) ?_
          show Steps p.tables e below (T1.setTop (mkF m 99 #[.val (.long q0), .second, .val (.int p1), .val (.int p2), .val (.int (p1 &&& (2147483647 : Int32))), .val (.int (p2 &&& (65535 : Int32))), .val (.long (f1 q0 (p1 &&& (2147483647 : Int32)) (p2 &&& (65535 : Int32)))), .second, .val (.int (0 : Int32)), .val (.int (0 : Int32)), .val (.int (0 : Int32))] [])) _
          refine XS.iload X1.here hx rfl (hb hby at_99) rfl ?_
          show Steps p.tables e below (T1.setTop (mkF m 101 #[.val (.long q0), .second, .val (.int p1), .val (.int p2), .val (.int (p1 &&& (2147483647 : Int32))), .val (.int (p2 &&& (65535 : Int32))), .val (.long (f1 q0 (p1 &&& (2147483647 : Int32)) (p2 &&& (65535 : Int32)))), .second, .val (.int (0 : Int32)), .val (.int (0 : Int32)), .val (.int (0 : Int32))] [(.int (0 : Int32))])) _
          refine XS.ifYes X1.here hx rfl (pc0 := 101) (pc' := 115) rfl (hb hby at_101) rfl ((if0 _ _).trans (teq (rfl : (0 : Int32) = (0 : Int32))).1) (by decide) (by decide) ?_
          show Steps p.tables e below (T1.setTop (mkF m 115 #[.val (.long q0), .second, .val (.int p1), .val (.int p2), .val (.int (p1 &&& (2147483647 : Int32))), .val (.int (p2 &&& (65535 : Int32))), .val (.long (f1 q0 (p1 &&& (2147483647 : Int32)) (p2 &&& (65535 : Int32)))), .second, .val (.int (0 : Int32)), .val (.int (0 : Int32)), .val (.int (0 : Int32))] [])) _
          refine XS.iconst X1.here hx rfl (hb hby at_115) ?_
          exact kt
        have hv : f0 q0 p1 p2 = (0 : Int32) := by simp only [f0, if_neg hc3, if_neg hc21, if_neg hc30]
        obtain ⟨fs, hr, hrun, hended, hW, hsame⟩ := X1.leave (v := some (.int (0 : Int32))) (fun h => by rw [Bd.returns] at h; cases h)
        refine ⟨_, _, pre0 _ (K35 _ ?_), hrun, hended, _, _, rfl, ?_, ⟨_, rfl⟩, hW, hsame.mono (by decide) (by decide)⟩
        · show Steps p.tables e below (T1.setTop (mkF m 116 #[.val (.long q0), .second, .val (.int p1), .val (.int p2), .val (.int (p1 &&& (2147483647 : Int32))), .val (.int (p2 &&& (65535 : Int32))), .val (.long (f1 q0 (p1 &&& (2147483647 : Int32)) (p2 &&& (65535 : Int32)))), .second, .val (.int (0 : Int32)), .val (.int (0 : Int32)), .val (.int (0 : Int32))] [(.int (0 : Int32))])) _
          exact retN X1 hx (t := .boolean) Bd.returns (by simp) (hb hby at_116) hr
        · show Q0 Z q0 p1 p2  h0 _ T1.heap _
          rw [e1]
          exact ⟨by rw [hv], rfl, rfl⟩
theorem own_or1 (q : Int64) : (((q ||| (-9223372036854775808 : Int64)) ^^^ q) &&& (9223372036854775807 : Int64)) = 0 := by
  apply Int64.toBitVec_inj.mp
  rw [Int64.toBitVec_and, Int64.toBitVec_xor, Int64.toBitVec_or]
  apply BitVec.eq_of_getLsbD_eq
  intro i hi
  have h1 : ∀ i : Fin 64, (-9223372036854775808 : Int64).toBitVec.getLsbD i.val = decide (i.val = 63) := by decide +kernel
  have h2 : ∀ i : Fin 64, (9223372036854775807 : Int64).toBitVec.getLsbD i.val = decide (i.val ≠ 63) := by decide +kernel
  have h3 : ∀ i : Fin 64, (0 : Int64).toBitVec.getLsbD i.val = false := by decide +kernel
  rw [BitVec.getLsbD_and, BitVec.getLsbD_xor, BitVec.getLsbD_or, h1 ⟨i, hi⟩, h2 ⟨i, hi⟩, h3 ⟨i, hi⟩]
  by_cases h : i = 63 <;> simp [h]
theorem own_xx (q : Int64) : ((q ^^^ q) &&& (9223372036854775807 : Int64)) = 0 := by
  apply Int64.toBitVec_inj.mp
  rw [Int64.toBitVec_and, Int64.toBitVec_xor, BitVec.xor_self]
  exact BitVec.zero_and
theorem own_or2 (q : Int64) : (q ||| (-9223372036854775808 : Int64)) < 0 := by
  rw [Int64.lt_iff_toInt_lt]
  exact (c_orSL q _).2.2 (by decide)
theorem own_asc (p : Int32) : ((p &&& (65535 : Int32)) &&& (65408 : Int32)) = 0 ↔ (p &&& (65535 : Int32)) < 128 := by
  have e : (p &&& (65535 : Int32)).toInt = p.toInt % (2 ^ 16 : Nat) := c_mask p _ 16 (by decide) (by decide)
  have hn : (p &&& (65535 : Int32)).toBitVec.toNat = p.toBitVec.toNat % 65536 := by
    rw [Int32.toBitVec_and, BitVec.toNat_and, show (65535 : Int32).toBitVec.toNat = 2 ^ 16 - 1 from rfl, Nat.and_two_pow_sub_one_eq_mod]
  have hi : (p &&& (65535 : Int32)).toInt = ((p &&& (65535 : Int32)).toBitVec.toNat : Int) := by
    rw [hn, e]
    show p.toBitVec.toInt % _ = _
    rw [BitVec.toInt_eq_toNat_cond]
    have := p.toBitVec.isLt
    split <;> omega
  have hlt : (p &&& (65535 : Int32)).toBitVec.toNat < 65536 := by omega
  have h2 : ((p &&& (65535 : Int32)) &&& (65408 : Int32)) = 0 ↔ (p &&& (65535 : Int32)).toBitVec.toNat &&& 65408 = 0 := by
    rw [← Int32.toBitVec_inj, ← BitVec.toNat_inj, Int32.toBitVec_and, BitVec.toNat_and]
    exact Iff.rfl
  rw [h2, Int32.lt_iff_toInt_lt, hi, show (128 : Int32).toInt = 128 from rfl]
  generalize (p &&& (65535 : Int32)).toBitVec.toNat = N at hlt
  constructor
  · intro h
    have h3 : (N &&& 65408) / 2 ^ 7 = N / 2 ^ 7 &&& 65408 / 2 ^ 7 := Nat.and_div_two_pow
    rw [h, show 65408 / 2 ^ 7 = 2 ^ 9 - 1 from rfl, Nat.and_two_pow_sub_one_eq_mod] at h3
    omega
  · intro h
    have : ∀ n : Fin 128, n.val &&& 65408 = 0 := by decide +kernel
    exact this ⟨N, by omega⟩
theorem own_law (q : Int64) (n b : Int32) : f0 q n b = 1 := by
  have hab := own_asc b
  unfold f0 f1
  generalize (b &&& (65535 : Int32)) = B at *
  generalize (n &&& (2147483647 : Int32)) = N
  by_cases hn : N < 10
  · have h9 : ¬ (9 : Int32) < N := by rw [Int32.lt_iff_toInt_lt] at hn ⊢; have : (9 : Int32).toInt = 9 := rfl; have : (10 : Int32).toInt = 10 := rfl; omega
    by_cases hb : B < 128
    · simp only [hab.mpr hb, hn, h9, hb, own_xx, if_true, if_false]
    · have hz : ¬ (B &&& (65408 : Int32)) = 0 := fun h => hb (hab.mp h)
      simp only [hz, hn, h9, hb, own_or1, own_or2, if_true, if_false]
  · have h9 : (9 : Int32) < N := by rw [Int32.lt_iff_toInt_lt] at hn ⊢; have : (9 : Int32).toInt = 9 := rfl; have : (10 : Int32).toInt = 10 := rfl; omega
    by_cases hz : (B &&& (65408 : Int32)) = 0
    · simp only [hz, hn, h9, own_or1, own_or2, if_true, if_false]
    · simp only [hz, hn, h9, own_or1, own_or2, if_true, if_false]
set_option maxRecDepth 65536 in
set_option maxHeartbeats 40000000 in
theorem comes_1 {Post : Tables → Env → Array Value → State → Outcome → State → Prop} (hpost : ∀ tb e args s v u, (limb_1_1.after args s (.returned v) u = true ∧ limb_1_2.after args s (.returned v) u = true ∧ True) → FrameEnd s (.returned v) u (Jvm.fieldLocs frame_1_writes args s ++ Jvm.arrayLocs frame_1_arrays args s ++ Jvm.staticLocs frame_1_statics s) 0 0 → Post tb e args s (.returned v) u) :
    ArmFor flags0 classFile x code maxLocals ret World_1 tables_1 room_1 Calls_1 rest_1 Pre_1 Post := by
  intro l hfl _ _ p e ha hc hk s m args below hf hA hF happ hP
  obtain ⟨hcalls, hrest, hpre⟩ := hP
  obtain ⟨-, -, -, hnamed, -, -, -, hat⟩ := (Spec.applies_iff hf).mp happ
  obtain ⟨hg, hn⟩ := and_e (Cond.before_iff.mp (show (Jvm.Cond.and given_1 narrow_1).before args s = true from hpre))
  obtain ⟨hcount, hk0⟩ := and_e hg
  obtain ⟨hi0, hk1⟩ := and_e hk0
  obtain ⟨hi1, hk2⟩ := and_e hk1
  have hi2 := hk2
  obtain ⟨w0, w1, w2, rfl⟩ : ∃ w0 w1 w2 : Value, args = #[w0, w1, w2] := by
    have hs : args.size = 3 := by simpa [Cond.value, given_1] using hcount
    obtain ⟨L⟩ := args
    match L, hs with
    | [w0, w1, w2], _ => exact ⟨w0, w1, w2, rfl⟩
  have hw := fun d (hd : d ∈ tables_1) => atoms_spec (ws := Jvm.Cond.code x code maxLocals ret :: tables_1) hat d (List.mem_cons_of_mem _ hd)
  obtain ⟨i0, ei0⟩ := isL_v hi0
  obtain rfl : w0 = (.long i0) := Option.some.inj ei0
  obtain ⟨i1, ei1⟩ := is_v hi1
  obtain rfl : w1 = (.int i1) := Option.some.inj ei1
  obtain ⟨i2, ei2⟩ := is_v hi2
  obtain rfl : w2 = (.int i2) := Option.some.inj ei2
  obtain ⟨n, o, h1, h2, h3, v, L, rfl, hQ, hq⟩ := rm0 l s _ hw tables_1 i0 i1 i2 s.heap p e ha hc hk s m _ below hf ((Spec.applies_iff_loose hf).mp happ).1 ⟨rfl, State.Warmed39.refl s, rfl⟩ trivial
  obtain ⟨rfl, N⟩ : v = some (.int 1) ∧ Fr s.heap.size L := by
    obtain ⟨q1, q2, -⟩ := hQ
    subst q2
    rw [own_law i0 i1 i2] at q1
    exact ⟨q1, Fr.nil _⟩
  refine ⟨n, _, h1, h2, h3, hpost _ _ _ _ _ _ ⟨Cond.after_iff.mpr rfl, Cond.after_iff.mpr (eq_i res_at (Term.int_eval (1)) rfl), trivial⟩ ⟨hq.1, hq.2.1, (hq.2.2.sift fun y hy => Or.inr (N y hy)).mono (by decide) (by decide)⟩⟩
theorem main_1_1 : Claimed_1_1 := comes_1 fun _ _ _ _ _ _ h hF => ⟨h.1, hF⟩
theorem main_1_2 : Claimed_1_2 := comes_1 fun _ _ _ _ _ _ h hF => ⟨h.2.1, hF⟩
end Jvm.Pilot.@@N@@
namespace Jvm.Pilot.@@N@@
open Jvm Jvm.ClassFile Sem Op Lib Jvm.Free Jvm.Stand Jvm.Pilot.@@N@@.Jvm.D
/-! MADE BY PROGRAM (witnessworld.py) out of the Statement's table words and the real class files: 10 classes; the members and pool entries that the words name. The judged class is class 1, her method 1. -/
namespace start1
open Jvm.ClassFile
def u (s : String) : CpInfo := .utf8 (stringToUtf16 s)
/-- a pool by its gaps: so many unusable entries, then the entry; so many at the end -/
def gap : Nat → List CpInfo → List CpInfo
  | 0, r => r
  | n + 1, r => .unusable :: gap n r
def poolList (es : List (Nat × CpInfo)) (last : Nat) : List CpInfo := es.foldr (fun e r => gap e.1 (e.2 :: r)) (gap last [])
def pool (es : List (Nat × CpInfo)) (last : Nat) : Array CpInfo := ⟨poolList es last⟩
def fileOf (pool : Array CpInfo) (this : Nat) (attrs : Array Attribute := #[]) (ms : Array MethodInfo := #[]) (fl : Nat := 33) (sup : Nat := 0) (ifs : Array Nat := #[]) (fds : Array FieldInfo := #[]) : ClassFile where
  minorVersion := 0
  majorVersion := 65
  constantPool := pool
  accessFlags := fl
  thisClass := this
  superClass := sup
  interfaces := ifs
  fields := fds
  methods := ms
  attributes := attrs
def plain (name : String) (sup : Option ClassId) : Class where
  name := name
  kind := .ordinary
  loader := none
  accessFlags := 33
  super := sup
  interfaces := #[]
  cf := none
  fields := #[]
  methods := #[]
  instanceTypes := #[]
  staticTypes := #[]
  resolved := #[]
  callSites := []
  init := .initialized
  statics := none
  mirror := none

def pool0 : Array CpInfo := pool [(5, u "<init>"), (0, u "()V"), (1, .class_ 10), (1, u "java/lang/Object")] 113

def k0m0 : Method := { name := "<init>", desc := "()V", sig := { parameters := [], returnType := none }, accessFlags := 1, code := none }
/-- java/lang/Object -/
def k0 : Class := { plain "java/lang/Object" none with
  accessFlags := 33
  interfaces := #[]
  cf := some (fileOf pool0 8 #[] #[{ accessFlags := 1, nameIndex := 5, descriptorIndex := 6, attributes := #[] }] 33 0 #[] #[])
  fields := #[]
  methods := #[k0m0]
  instanceTypes := #[]
  staticTypes := #[]
  resolved := Array.replicate 124 none
  statics := none }

def pool1 : Array CpInfo := pool [(2, .class_ 4), (1, u "java/lang/Object"), (0, u "<init>"), (0, u "()V"), (0, .integer 2147483647), (0, .integer 65535), (0, .methodref 10 11), (0, .class_ 12), (0, .nameAndType 13 14), (0, u "operand/Spelling"), (0, u "key"), (0, u "(JII)J"), (0, .integer 65408), (2, .long 9223372036854775807), (1, .class_ 21), (0, u "operand/SpellingKeyPinLaw"), (2, u "law"), (0, u "(JII)Z")] 3

def k1m0 : Method := { name := "<init>", desc := "()V", sig := { parameters := [], returnType := none }, accessFlags := 1, code := none }
def k1c1 : Code := { maxStack := 4, maxLocals := 11, code := code, exceptionTable := #[], attributes := #[] }
def k1m1 : Method := { name := "law", desc := "(JII)Z", sig := { parameters := [.long, .int, .int], returnType := some .boolean }, accessFlags := 9, code := some k1c1 }
/-- operand/SpellingKeyPinLaw -/
def k1 : Class := { plain "operand/SpellingKeyPinLaw" (some 0) with
  accessFlags := 49
  interfaces := #[]
  cf := some (fileOf pool1 20 #[] #[{ accessFlags := 1, nameIndex := 5, descriptorIndex := 6, attributes := #[] }, { accessFlags := 9, nameIndex := 24, descriptorIndex := 25, attributes := #[] }] 49 2 #[] #[])
  fields := #[]
  methods := #[k1m0, k1m1]
  instanceTypes := #[]
  staticTypes := #[]
  resolved := Array.replicate 29 none
  statics := none }

def pool2 : Array CpInfo := pool [(2, .class_ 4), (1, u "java/lang/Object"), (0, u "<init>"), (0, u "()V"), (0, .class_ 8), (0, u "java/lang/Record")] 13

def k2m0 : Method := { name := "<init>", desc := "()V", sig := { parameters := [], returnType := none }, accessFlags := 4, code := none }
/-- java/lang/Record -/
def k2 : Class := { plain "java/lang/Record" (some 0) with
  accessFlags := 1057
  interfaces := #[]
  cf := some (fileOf pool2 7 #[] #[{ accessFlags := 4, nameIndex := 5, descriptorIndex := 6, attributes := #[] }] 1057 2 #[] #[])
  fields := #[]
  methods := #[k2m0]
  instanceTypes := #[]
  staticTypes := #[]
  resolved := Array.replicate 22 none
  statics := none }

def pool3 : Array CpInfo := pool [(4, .class_ 6), (1, u "java/lang/Record"), (3, .class_ 12), (1, u "operand/Spelling"), (0, u "text"), (0, u "Ljava/lang/String;"), (2, u "characters"), (0, u "[C"), (2, u "key"), (0, u "J"), (2, u "binary"), (0, u "Loperand/Operator;"), (2, u "prefix"), (0, u "Loperand/PrefixOperator;"), (2, u "reserved"), (0, u "Z"), (20, u "(JII)J"), (13, u "RESERVED"), (0, u "Ljava/util/Set;"), (11, .long 9223372036854775808), (5, u "WORDS"), (0, u "[Loperand/Spelling;"), (64, u "KEYED_LENGTH"), (0, u "I"), (2, u "INEXACT"), (0, u "SLOT_BITS"), (1, u "SPREAD")] 36

def k3c0 : Code := { maxStack := 4, maxLocals := 4, code := prog_66_method_4_code, exceptionTable := #[], attributes := #[] }
def k3m0 : Method := { name := "key", desc := "(JII)J", sig := { parameters := [.long, .int, .int], returnType := some .long }, accessFlags := 8, code := some k3c0 }
/-- operand/Spelling -/
def k3 : Class := { plain "operand/Spelling" (some 2) with
  accessFlags := 48
  interfaces := #[]
  cf := some (fileOf pool3 10 #[] #[{ accessFlags := 8, nameIndex := 21, descriptorIndex := 55, attributes := #[] }] 48 4 #[] #[{ accessFlags := 18, nameIndex := 13, descriptorIndex := 14, attributes := #[] }, { accessFlags := 18, nameIndex := 17, descriptorIndex := 18, attributes := #[] }, { accessFlags := 18, nameIndex := 21, descriptorIndex := 22, attributes := #[] }, { accessFlags := 18, nameIndex := 25, descriptorIndex := 26, attributes := #[] }, { accessFlags := 18, nameIndex := 29, descriptorIndex := 30, attributes := #[] }, { accessFlags := 18, nameIndex := 33, descriptorIndex := 34, attributes := #[] }, { accessFlags := 24, nameIndex := 69, descriptorIndex := 70, attributes := #[] }, { accessFlags := 24, nameIndex := 154, descriptorIndex := 155, attributes := #[] }, { accessFlags := 26, nameIndex := 158, descriptorIndex := 22, attributes := #[] }, { accessFlags := 26, nameIndex := 159, descriptorIndex := 155, attributes := #[] }, { accessFlags := 26, nameIndex := 161, descriptorIndex := 22, attributes := #[] }, { accessFlags := 26, nameIndex := 88, descriptorIndex := 89, attributes := #[] }])
  fields := #[{ name := "text", type := (.object "java/lang/String"), accessFlags := 18, slot := 0, constantValue := 0 }, { name := "characters", type := (.array .char), accessFlags := 18, slot := 1, constantValue := 0 }, { name := "key", type := .long, accessFlags := 18, slot := 2, constantValue := 0 }, { name := "binary", type := (.object "operand/Operator"), accessFlags := 18, slot := 3, constantValue := 0 }, { name := "prefix", type := (.object "operand/PrefixOperator"), accessFlags := 18, slot := 4, constantValue := 0 }, { name := "reserved", type := .boolean, accessFlags := 18, slot := 5, constantValue := 0 }, { name := "RESERVED", type := (.object "java/util/Set"), accessFlags := 24, slot := 0, constantValue := 0 }, { name := "KEYED_LENGTH", type := .int, accessFlags := 24, slot := 1, constantValue := 0 }, { name := "INEXACT", type := .long, accessFlags := 26, slot := 2, constantValue := 0 }, { name := "SLOT_BITS", type := .int, accessFlags := 26, slot := 3, constantValue := 0 }, { name := "SPREAD", type := .long, accessFlags := 26, slot := 4, constantValue := 0 }, { name := "WORDS", type := (.array (.object "operand/Spelling")), accessFlags := 26, slot := 5, constantValue := 0 }]
  methods := #[k3m0]
  instanceTypes := #[(.object "java/lang/String"), (.array .char), .long, (.object "operand/Operator"), (.object "operand/PrefixOperator"), .boolean]
  staticTypes := #[(.object "java/util/Set"), .int, .long, .int, .long, (.array (.object "operand/Spelling"))]
  resolved := Array.replicate 198 none
  statics := none }

def pool4 : Array CpInfo := pool [(1, u "java/lang/Cloneable"), (0, .class_ 1), (0, u "java/lang/Object"), (0, .class_ 3)] 3

/-- java/lang/Cloneable -/
def k4 : Class := { plain "java/lang/Cloneable" (some 0) with
  accessFlags := 1537
  interfaces := #[]
  cf := some (fileOf pool4 2 #[] #[] 1537 4 #[] #[])
  fields := #[]
  methods := #[]
  instanceTypes := #[]
  staticTypes := #[]
  resolved := Array.replicate 8 none
  statics := none }

def pool5 : Array CpInfo := pool [(1, u "java/io/Serializable"), (0, .class_ 1), (0, u "java/lang/Object"), (0, .class_ 3)] 3

/-- java/io/Serializable -/
def k5 : Class := { plain "java/io/Serializable" (some 0) with
  accessFlags := 1537
  interfaces := #[]
  cf := some (fileOf pool5 2 #[] #[] 1537 4 #[] #[])
  fields := #[]
  methods := #[]
  instanceTypes := #[]
  staticTypes := #[]
  resolved := Array.replicate 8 none
  statics := none }

/-- the primitive byte -/
def k6 : Class := { plain "byte" none with kind := .primitive 'B', accessFlags := 0x411 }
/-- [B -/
def k7 : Class := { plain "[B" (some 0) with kind := .array 6 .byte, interfaces := #[4, 5], accessFlags := 1041 }

/-- the primitive int -/
def k8 : Class := { plain "int" none with kind := .primitive 'I', accessFlags := 0x411 }
/-- [I -/
def k9 : Class := { plain "[I" (some 0) with kind := .array 8 .int, interfaces := #[4, 5], accessFlags := 1041 }

def heap : Heap := #[]
def classes : Array Class := #[k0, k1, k2, k3, k4, k5, k6, k7, k8, k9]
def interned : List (Array UInt16 × Addr) := []
def slotsUsed : Nat := 0
def theMethod : MethodId := ⟨1, 1⟩
def args0 : Array Value := #[.long 5, .int 5, .int 5]
def aboutOver (below : List Frame) : State where
  vm := { classes := classes, interned := interned.toArray }
  heap := heap
  slotsUsed := slotsUsed
  threads := #[{ frames := .invoking theMethod args0 :: below }]
def below0 : List Frame := [.native { method := ⟨0, 0⟩, args := #[] }]
def about1 : State := aboutOver below0
def p0 : Program := .bare "" "" ""
def e0 : Env := launch0.env 0 0 0
theorem w_frames : about1.frames = Frame.invoking theMethod args0 :: below0 := rfl
set_option maxRecDepth 65536 in
theorem w_args : argsFit about1.vm theMethod args0 = true := by decide +kernel
set_option maxRecDepth 65536 in
theorem w_heap : heapFits about1 = true := by decide +kernel
set_option maxRecDepth 65536 in
theorem w_runnable : about1.curStatus? = some .runnable := by decide +kernel
set_option maxRecDepth 65536 in
theorem w_alone : about1.alone = true := by decide +kernel
set_option maxRecDepth 65536 in
theorem w_named : about1.methodNamed? x = some theMethod := by decide +kernel
set_option maxRecDepth 65536 in
theorem w_hears : about1.hears theMethod below0 = true := by decide +kernel
set_option maxRecDepth 65536 in
theorem w_ripe : about1.ripe theMethod args0 below0 = true := by decide +kernel
theorem w_running : about1.status = .running := rfl
set_option maxRecDepth 65536 in
theorem w_room : about1.hasRoom e0.platform room_1 = true :=
  launch0.hasRoom_least _ room_1 (by decide +kernel) (by decide +kernel) (by decide +kernel) (by decide +kernel) (by decide +kernel) (by decide +kernel)
theorem allAtoms_all (ts : List Jvm.Cond) (a : Array Jvm.Value) (st : Jvm.State) : (allAtoms ts).before a st = ts.all (fun c => c.before a st) := by
  induction ts with
  | nil => rfl
  | cons c t ih =>
    show (Jvm.Cond.and c (allAtoms t)).before a st = _
    rw [Jvm.Cond.before_and, ih, List.all_cons]
def words1 : List Jvm.Cond := Jvm.Cond.code x code maxLocals ret :: tables_1
/-- a 'code' word, met by the world's own term for the bytes: nothing is compared byte by byte -/
theorem code_word {y : MethodName} {bytes : ByteArray} {mx : Nat} {rt : Option FieldType} {a : Array Value} {s : State} {m : MethodId} {meth : Method} {c : Code} (h1 : s.methodNamed? y = some m) (h2 : s.vm.method? m = some meth) (h3 : meth.code = some c) (h4 : c.code = bytes)
    (h5 : (c.maxLocals == mx && c.exceptionTable.isEmpty && decide (c.maxStack ≤ mostOperands) && decide (meth.sig.returnType = rt) && !meth.locks && decide (parseMethodDescriptor y.desc = some meth.sig)) = true) : (Jvm.Cond.code y bytes mx rt).before a s = true := by
  simp only [Bool.and_eq_true, beq_iff_eq, Bool.not_eq_true', decide_eq_true_eq] at h5
  obtain ⟨⟨⟨⟨⟨g1, g2⟩, g3⟩, g4⟩, g5⟩, g6⟩ := h5
  simp [Cond.before, Cond.holds, Cond.value, h1, h2, h3, h4, g1, g2, g3, g4, g5, g6]
def isCode : Jvm.Cond → Bool
  | .code _ _ _ _ => true
  | _ => false
theorem all_split {L : List Jvm.Cond} {P : Jvm.Cond → Bool} (h1 : L.all (fun c => isCode c || P c) = true) (h2 : ∀ c ∈ L.filter isCode, P c = true) : L.all P = true := by
  refine List.all_eq_true.mpr fun c hc => ?_
  have h := List.all_eq_true.mp h1 c hc
  rcases Bool.eq_false_or_eq_true (isCode c) with hi | hi
  · exact h2 c (List.mem_filter.mpr ⟨hc, hi⟩)
  · simpa [hi] using h
set_option maxRecDepth 65536 in
theorem w_c0 : (Jvm.Cond.code x code maxLocals ret).before args0 about1 = true := code_word (m := ⟨1, 1⟩) (meth := k1m1) (c := k1c1) (by decide +kernel) rfl rfl rfl (by decide +kernel)
set_option maxRecDepth 65536 in
theorem w_c1 : (Jvm.Cond.code ({ cls := "operand/Spelling", name := "key", desc := "(JII)J" } : Jvm.MethodName) prog_66_method_4_code (4 : Nat) (Option.some Jvm.ClassFile.FieldType.long)).before args0 about1 = true := code_word (m := ⟨3, 0⟩) (meth := k3m0) (c := k3c0) (by decide +kernel) rfl rfl rfl (by decide +kernel)
def codes1 : List Jvm.Cond := [Jvm.Cond.code x code maxLocals ret, Jvm.Cond.code ({ cls := "operand/Spelling", name := "key", desc := "(JII)J" } : Jvm.MethodName) prog_66_method_4_code (4 : Nat) (Option.some Jvm.ClassFile.FieldType.long)]
set_option maxRecDepth 65536 in
theorem codes_eq : words1.filter isCode = codes1 := rfl
theorem w_codes : ∀ c ∈ words1.filter isCode, c.before args0 about1 = true := by
  rw [codes_eq]
  intro c hc
  simp only [codes1, List.mem_cons, List.not_mem_nil, or_false] at hc
  rcases hc with rfl | rfl
  · exact w_c0
  · exact w_c1
set_option maxRecDepth 65536 in
theorem w_t1 : words1.all (fun c => isCode c || c.before args0 about1) = true := by decide +kernel
theorem w_tables : (allAtoms (Jvm.Cond.code x code maxLocals ret :: tables_1)).before args0 about1 = true := by
  rw [allAtoms_all]
  show words1.all (fun c => c.before args0 about1) = true
  refine all_split ?_ w_codes
  rw [w_t1]
set_option maxRecDepth 65536 in
theorem w_case : (Jvm.Cond.and given_1 narrow_1).before args0 about1 = true := by decide +kernel
theorem w_applies : (headSpec (Jvm.Cond.code x code maxLocals ret :: tables_1) room_1).applies x e0.platform about1 = true :=
  (Spec.applies_iff w_frames).mpr ⟨w_running, w_runnable, w_alone, w_named, w_hears, w_ripe, w_room, w_tables⟩
theorem atStart : AtStart classFile x code maxLocals ret World_1 tables_1 room_1 Calls_1 rest_1 Pre_1 launch0 p0 e0 about1 theMethod args0 below0 :=
  ⟨lists_1, trivial, launch0.admits_env _ _ _, launch0.least_env, fairChoices_fair.cas, fairChoices_fair.clock, w_frames, w_args, w_heap, w_applies, trivial, trivial, w_case⟩
end start1
theorem witness_1 : WitnessClaimed_1 := ⟨start1.p0, start1.e0, start1.about1, start1.theMethod, start1.args0, start1.below0, start1.atStart⟩
end Jvm.Pilot.@@N@@
