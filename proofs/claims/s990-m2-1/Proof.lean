import JvmDerived
import JvmDerived.Pilot.@@N@@Statement
import JvmDerived.Pilot.@@N@@Code
set_option linter.unusedVariables false
set_option linter.unusedSimpArgs false
namespace Jvm.Pilot.@@N@@
open Jvm Jvm.ClassFile Sem Op Lib Jvm.Free Jvm.Stand Jvm.LawKit Jvm.RoadKit Bundle Jvm.Pilot.@@N@@.Jvm.D
theorem ef_1 (m : MethodId) (x0 : Addr) : entryFrame m #[(.ref x0)] 1 = mkF m 0 #[.val (.ref x0)] [] := by first | (simp [entryFrame, mkF, argsToLocals, Value.category]; done) | rfl
theorem pn_0 : plainName "com/example/seriestrace/seriestrace/cli/Summary" = true := by first | (simp [plainName, overriddenIn]; done) | decide +kernel
theorem d1_0 : decode prog_29_method_1_code 0 = .ok (.aload_n 0, 1) := by decide +kernel
theorem d1_1 : decode prog_29_method_1_code 1 = .ok (.invokespecial 1, 3) := by decide +kernel
theorem d1_4 : decode prog_29_method_1_code 4 = .ok (.return_, 1) := by decide +kernel
def Q1 (Z : State) (o0 : Addr)  (h0 : Heap) (v : Option Value) (h : Heap) (L : List Loc) : Prop := v = none ∧ L = [] ∧ h = h0
set_option maxRecDepth 65536 in
set_option maxHeartbeats 40000000 in
theorem rm1 (l : Launch) (Z : State) (a0 : Array Value) (hw : ∀ d ∈ tables_1, d.before a0 Z = true) (ws : List Jvm.Cond) (o0 : Addr)  (h0 : Heap)  :
    MetFree l (⟨"com/example/seriestrace/seriestrace/cli/Summary", "<init>", "()V"⟩ : MethodName) (head1 (Jvm.Cond.code (⟨"com/example/seriestrace/seriestrace/cli/Summary", "<init>", "()V"⟩ : MethodName) prog_29_method_1_code 1 none :: ws) ({ frames := 1, cells := 0, slots := 0, locals := 12 } : Room)) (fun a U => a = #[(.ref o0)] ∧ Z.Warmed39 U.vm ∧ U.heap = h0) (fun _ _ _ _ _ => True) (fun _ U o U' => ∃ v L, o = .returned v ∧ Q1 Z o0  h0 v U'.heap L ∧ FrameEnd U o U' L ({ frames := 1, cells := 0, slots := 0, locals := 12 } : Room).cells ({ frames := 1, cells := 0, slots := 0, locals := 12 } : Room).slots) := by
  refine MetFree.of_bodySF (plainFor_of_name pn_0) hisR ?_
  intro p e s m args below meth c s₁ Bd hml0 hP hK
  obtain ⟨rfl, hZ, hh⟩ := hP
  have hx := Bd.exec
  have hby := Bd.bytes
  have hml : c.maxLocals = 1 := hml0
  have hown : s.vm.findClass "com/example/seriestrace/seriestrace/cli/Summary" = some m.cls := findClass_of_methodNamed Bd.named
  have hnm := (name_of_methodNamed Bd.named Bd.method).1
  have X0 : Stand p l e ({ frames := 1, cells := 0, slots := 0, locals := 12 } : Room) s m #[(.ref o0)] below meth c s₁ [] 0 0 := Stand.of_body Bd
  have e0 : s₁.heap = h0 := by rw [← hh, Bd.state]; rfl
  have pre0 : ∀ t, Steps p.tables e below (s₁.setTop (mkF m 0 #[.val (.ref o0)] [])) t → Steps p.tables e below (s₁.setTop (entryFrame m #[(.ref o0)] 1)) t := fun t k => castTop (ef_1 m o0) k
  obtain ⟨T1, X1, e1, st1⟩ := initO X0 hx hZ hown (hw _ (List.mem_of_getElem? (i := 7) rfl)) (hw _ (List.mem_of_getElem? (i := 8) rfl)) (hw _ (List.mem_of_getElem? (i := 9) rfl)) e0 (g := (mkF m 1 #[.val (.ref o0)] [(.ref o0)])) rfl (by rw [hml]; rfl) rfl (hb hby d1_1) (by decide) (W := 0) (by show 2 * 0 + _ ≤ _; exact Nat.le_of_eq rfl) (by decide)
  have K2 : ∀ t, Steps p.tables e below (T1.setTop (mkF m 4 #[.val (.ref o0)] [])) t → Steps p.tables e below (s₁.setTop (mkF m 0 #[.val (.ref o0)] [])) t := by
    intro t kt
    show Steps p.tables e below (s₁.setTop (mkF m 0 #[.val (.ref o0)] [])) _
    refine XS.aloadN X0.here hx rfl (hb hby d1_0) rfl rfl ?_
    show Steps p.tables e below (s₁.setTop (mkF m 1 #[.val (.ref o0)] [(.ref o0)])) _
    refine st1 _ ?_
    exact kt
  obtain ⟨fsQ, hr, hrun, hended, hW, hsame⟩ := X1.leave (v := none) (fun _ => rfl)
  refine ⟨_, _, pre0 _ (K2 _ ?_), hrun, hended, _, _, rfl, ?_, ⟨_, rfl⟩, hW, hsame.mono (by decide) (by decide)⟩
  · show Steps p.tables e below (T1.setTop (mkF m 4 #[.val (.ref o0)] [])) _
    exact X1.returnOut hx Bd.returns (hb hby d1_4) hr
  · show Q1 Z o0  h0 _ T1.heap _
    rw [e1]
    exact ⟨rfl, rfl, rfl⟩
theorem ef_5 (m : MethodId) (x0 : Addr) : entryFrame m #[(.ref x0)] 1 = mkF m 0 #[.val (.ref x0)] [] := by first | (simp [entryFrame, mkF, argsToLocals, Value.category]; done) | rfl
theorem pn_1 : plainName "java/lang/Record" = true := by first | (simp [plainName, overriddenIn]; done) | decide +kernel
theorem d5_0 : decode jdk_30_method_1_code 0 = .ok (.aload_n 0, 1) := by decide +kernel
theorem d5_1 : decode jdk_30_method_1_code 1 = .ok (.invokespecial 1, 3) := by decide +kernel
theorem d5_4 : decode jdk_30_method_1_code 4 = .ok (.return_, 1) := by decide +kernel
def Q5 (Z : State) (o0 : Addr)  (h0 : Heap) (v : Option Value) (h : Heap) (L : List Loc) : Prop := v = none ∧ L = [] ∧ h = h0
set_option maxRecDepth 65536 in
set_option maxHeartbeats 40000000 in
theorem rm5 (l : Launch) (Z : State) (a0 : Array Value) (hw : ∀ d ∈ tables_1, d.before a0 Z = true) (ws : List Jvm.Cond) (o0 : Addr)  (h0 : Heap)  :
    MetFree l (⟨"java/lang/Record", "<init>", "()V"⟩ : MethodName) (head1 (Jvm.Cond.code (⟨"java/lang/Record", "<init>", "()V"⟩ : MethodName) jdk_30_method_1_code 1 none :: ws) ({ frames := 1, cells := 0, slots := 0, locals := 12 } : Room)) (fun a U => a = #[(.ref o0)] ∧ Z.Warmed39 U.vm ∧ U.heap = h0) (fun _ _ _ _ _ => True) (fun _ U o U' => ∃ v L, o = .returned v ∧ Q5 Z o0  h0 v U'.heap L ∧ FrameEnd U o U' L ({ frames := 1, cells := 0, slots := 0, locals := 12 } : Room).cells ({ frames := 1, cells := 0, slots := 0, locals := 12 } : Room).slots) := by
  refine MetFree.of_bodySF (plainFor_of_name pn_1) hisR ?_
  intro p e s m args below meth c s₁ Bd hml0 hP hK
  obtain ⟨rfl, hZ, hh⟩ := hP
  have hx := Bd.exec
  have hby := Bd.bytes
  have hml : c.maxLocals = 1 := hml0
  have hown : s.vm.findClass "java/lang/Record" = some m.cls := findClass_of_methodNamed Bd.named
  have hnm := (name_of_methodNamed Bd.named Bd.method).1
  have X0 : Stand p l e ({ frames := 1, cells := 0, slots := 0, locals := 12 } : Room) s m #[(.ref o0)] below meth c s₁ [] 0 0 := Stand.of_body Bd
  have e0 : s₁.heap = h0 := by rw [← hh, Bd.state]; rfl
  have pre0 : ∀ t, Steps p.tables e below (s₁.setTop (mkF m 0 #[.val (.ref o0)] [])) t → Steps p.tables e below (s₁.setTop (entryFrame m #[(.ref o0)] 1)) t := fun t k => castTop (ef_5 m o0) k
  obtain ⟨T1, X1, e1, st1⟩ := initO X0 hx hZ hown (hw _ (List.mem_of_getElem? (i := 35) rfl)) (hw _ (List.mem_of_getElem? (i := 8) rfl)) (hw _ (List.mem_of_getElem? (i := 9) rfl)) e0 (g := (mkF m 1 #[.val (.ref o0)] [(.ref o0)])) rfl (by rw [hml]; rfl) rfl (hb hby d5_1) (by decide) (W := 0) (by show 2 * 0 + _ ≤ _; exact Nat.le_of_eq rfl) (by decide)
  have K2 : ∀ t, Steps p.tables e below (T1.setTop (mkF m 4 #[.val (.ref o0)] [])) t → Steps p.tables e below (s₁.setTop (mkF m 0 #[.val (.ref o0)] [])) t := by
    intro t kt
    show Steps p.tables e below (s₁.setTop (mkF m 0 #[.val (.ref o0)] [])) _
    refine XS.aloadN X0.here hx rfl (hb hby d5_0) rfl rfl ?_
    show Steps p.tables e below (s₁.setTop (mkF m 1 #[.val (.ref o0)] [(.ref o0)])) _
    refine st1 _ ?_
    exact kt
  obtain ⟨fsQ, hr, hrun, hended, hW, hsame⟩ := X1.leave (v := none) (fun _ => rfl)
  refine ⟨_, _, pre0 _ (K2 _ ?_), hrun, hended, _, _, rfl, ?_, ⟨_, rfl⟩, hW, hsame.mono (by decide) (by decide)⟩
  · show Steps p.tables e below (T1.setTop (mkF m 4 #[.val (.ref o0)] [])) _
    exact X1.returnOut hx Bd.returns (hb hby d5_4) hr
  · show Q5 Z o0  h0 _ T1.heap _
    rw [e1]
    exact ⟨rfl, rfl, rfl⟩
theorem ef_6 (m : MethodId) (x0 : Addr) (x1 : Addr) : entryFrame m #[(.ref x0), (.ref x1)] 2 = mkF m 0 #[.val (.ref x0), .val (.ref x1)] [] := by first | (simp [entryFrame, mkF, argsToLocals, Value.category]; done) | rfl
theorem pn_2 : plainName "java/util/Objects" = true := by first | (simp [plainName, overriddenIn]; done) | decide +kernel
theorem d6_0 : decode jdk_31_method_11_code 0 = .ok (.aload_n 0, 1) := by decide +kernel
theorem d6_1 : decode jdk_31_method_11_code 1 = .ok (.ifnonnull 12, 3) := by decide +kernel
theorem d6_13 : decode jdk_31_method_11_code 13 = .ok (.aload_n 0, 1) := by decide +kernel
theorem d6_14 : decode jdk_31_method_11_code 14 = .ok (.areturn, 1) := by decide +kernel
def Q6 (Z : State) (o0 : Addr) (o1 : Addr)  (h0 : Heap) (n0 : Nat) (v : Option Value) (h : Heap) (L : List Loc) : Prop := v = some (.ref o0) ∧ L = [] ∧ h = h0
set_option maxRecDepth 65536 in
set_option maxHeartbeats 40000000 in
theorem rm6 (l : Launch) (Z : State) (a0 : Array Value) (hw : ∀ d ∈ tables_1, d.before a0 Z = true) (ws : List Jvm.Cond) (o0 : Addr) (o1 : Addr)  (h0 : Heap) (n0 : Nat) (Z0 : n0 ≤ h0.size)  :
    MetFree l (⟨"java/util/Objects", "requireNonNull", "(Ljava/lang/Object;Ljava/lang/String;)Ljava/lang/Object;"⟩ : MethodName) (head1 (Jvm.Cond.code (⟨"java/util/Objects", "requireNonNull", "(Ljava/lang/Object;Ljava/lang/String;)Ljava/lang/Object;"⟩ : MethodName) jdk_31_method_11_code 2 (some (.object "java/lang/Object")) :: ws) ({ frames := 0, cells := 0, slots := 0, locals := 0 } : Room)) (fun a U => a = #[(.ref o0), (.ref o1)] ∧ Z.Warmed39 U.vm ∧ U.heap = h0) (fun _ _ _ _ _ => True) (fun _ U o U' => ∃ v L, o = .returned v ∧ Q6 Z o0 o1  h0 n0 v U'.heap L ∧ FrameEnd U o U' L ({ frames := 0, cells := 0, slots := 0, locals := 0 } : Room).cells ({ frames := 0, cells := 0, slots := 0, locals := 0 } : Room).slots) := by
  refine MetFree.of_bodySF (plainFor_of_name pn_2) hisR ?_
  intro p e s m args below meth c s₁ Bd hml0 hP hK
  obtain ⟨rfl, hZ, hh⟩ := hP
  have hx := Bd.exec
  have hby := Bd.bytes
  have hml : c.maxLocals = 2 := hml0
  have hown : s.vm.findClass "java/util/Objects" = some m.cls := findClass_of_methodNamed Bd.named
  have hnm := (name_of_methodNamed Bd.named Bd.method).1
  have X0 : Stand p l e ({ frames := 0, cells := 0, slots := 0, locals := 0 } : Room) s m #[(.ref o0), (.ref o1)] below meth c s₁ [] 0 0 := Stand.of_body Bd
  have e0 : s₁.heap = h0 := by rw [← hh, Bd.state]; rfl
  have pre0 : ∀ t, Steps p.tables e below (s₁.setTop (mkF m 0 #[.val (.ref o0), .val (.ref o1)] [])) t → Steps p.tables e below (s₁.setTop (entryFrame m #[(.ref o0), (.ref o1)] 2)) t := fun t k => castTop (ef_6 m o0 o1) k
  have N0 := Fr.nil n0
  have K1 : ∀ t, Steps p.tables e below (s₁.setTop (mkF m 14 #[.val (.ref o0), .val (.ref o1)] [(.ref o0)])) t → Steps p.tables e below (s₁.setTop (mkF m 0 #[.val (.ref o0), .val (.ref o1)] [])) t := by
    intro t kt
    show Steps p.tables e below (s₁.setTop (mkF m 0 #[.val (.ref o0), .val (.ref o1)] [])) _
    refine XS.aloadN X0.here hx rfl (hb hby d6_0) rfl rfl ?_
    show Steps p.tables e below (s₁.setTop (mkF m 1 #[.val (.ref o0), .val (.ref o1)] [(.ref o0)])) _
    refine XS.ifnonnullYes X0.here hx rfl (pc0 := 1) (pc' := 13) rfl (hb hby d6_1) rfl (by decide) (by decide) ?_
    show Steps p.tables e below (s₁.setTop (mkF m 13 #[.val (.ref o0), .val (.ref o1)] [])) _
    refine XS.aloadN X0.here hx rfl (hb hby d6_13) rfl rfl ?_
    exact kt
  obtain ⟨fsQ, hr, hrun, hended, hW, hsame⟩ := X0.leave (v := some (.ref o0)) (fun h => by rw [Bd.returns] at h; cases h)
  refine ⟨_, _, pre0 _ (K1 _ ?_), hrun, hended, _, _, rfl, ?_, ⟨_, rfl⟩, hW, hsame.mono (by decide) (by decide)⟩
  · show Steps p.tables e below (s₁.setTop (mkF m 14 #[.val (.ref o0), .val (.ref o1)] [(.ref o0)])) _
    exact retOut X0 hx Bd.returns rfl (Or.inr (Or.inr (Or.inr (Or.inr ⟨rfl, rfl, rfl⟩)))) (hb hby d6_14) hr
  · show Q6 Z o0 o1  h0 n0 _ s₁.heap _
    rw [e0]
    exact ⟨rfl, rfl, rfl⟩
theorem ef_4 (m : MethodId) (x0 : Addr) (x1 : Addr) (x3 : Addr) : entryFrame m #[(.ref x0), (.ref x1), .null, (.ref x3), .null] 5 = mkF m 0 #[.val (.ref x0), .val (.ref x1), .val .null, .val (.ref x3), .val .null] [] := by first | (simp [entryFrame, mkF, argsToLocals, Value.category]; done) | rfl
theorem pn_3 : plainName "com/example/seriestrace/seriestrace/check/Finding" = true := by first | (simp [plainName, overriddenIn]; done) | decide +kernel
theorem d4_0 : decode prog_12_method_1_code 0 = .ok (.aload_n 0, 1) := by decide +kernel
theorem d4_1 : decode prog_12_method_1_code 1 = .ok (.invokespecial 1, 3) := by decide +kernel
theorem pd_0 : parseMethodDescriptor "()V" = some ⟨[], none⟩ := by decide +kernel
theorem d4_4 : decode prog_12_method_1_code 4 = .ok (.aload_n 1, 1) := by decide +kernel
theorem d4_5 : decode prog_12_method_1_code 5 = .ok (.ldc 7, 2) := by decide +kernel
theorem d4_7 : decode prog_12_method_1_code 7 = .ok (.invokestatic 9, 3) := by decide +kernel
theorem pd_1 : parseMethodDescriptor "(Ljava/lang/Object;Ljava/lang/String;)Ljava/lang/Object;" = some ⟨[(.object "java/lang/Object"), (.object "java/lang/String")], some (.object "java/lang/Object")⟩ := by decide +kernel
theorem d4_10 : decode prog_12_method_1_code 10 = .ok (.pop, 1) := by decide +kernel
theorem d4_11 : decode prog_12_method_1_code 11 = .ok (.aload_n 3, 1) := by decide +kernel
theorem d4_12 : decode prog_12_method_1_code 12 = .ok (.ldc 15, 2) := by decide +kernel
theorem d4_14 : decode prog_12_method_1_code 14 = .ok (.invokestatic 9, 3) := by decide +kernel
theorem d4_17 : decode prog_12_method_1_code 17 = .ok (.pop, 1) := by decide +kernel
theorem d4_18 : decode prog_12_method_1_code 18 = .ok (.aload_n 0, 1) := by decide +kernel
theorem d4_19 : decode prog_12_method_1_code 19 = .ok (.aload_n 1, 1) := by decide +kernel
theorem d4_20 : decode prog_12_method_1_code 20 = .ok (.putfield 17, 3) := by decide +kernel
theorem d4_23 : decode prog_12_method_1_code 23 = .ok (.aload_n 0, 1) := by decide +kernel
theorem d4_24 : decode prog_12_method_1_code 24 = .ok (.aload_n 2, 1) := by decide +kernel
theorem d4_25 : decode prog_12_method_1_code 25 = .ok (.putfield 22, 3) := by decide +kernel
theorem d4_28 : decode prog_12_method_1_code 28 = .ok (.aload_n 0, 1) := by decide +kernel
theorem d4_29 : decode prog_12_method_1_code 29 = .ok (.aload_n 3, 1) := by decide +kernel
theorem d4_30 : decode prog_12_method_1_code 30 = .ok (.putfield 26, 3) := by decide +kernel
theorem d4_33 : decode prog_12_method_1_code 33 = .ok (.aload_n 0, 1) := by decide +kernel
theorem d4_34 : decode prog_12_method_1_code 34 = .ok (.aload 4, 2) := by decide +kernel
theorem d4_36 : decode prog_12_method_1_code 36 = .ok (.putfield 29, 3) := by decide +kernel
theorem d4_39 : decode prog_12_method_1_code 39 = .ok (.return_, 1) := by decide +kernel
def Q4 (Z : State) (o0 : Addr) (o1 : Addr) (o3 : Addr) (u0 : Value) (u1 : Value) (u2 : Value) (u3 : Value) (h0 : Heap) (n0 : Nat) (v : Option Value) (h : Heap) (L : List Loc) : Prop := v = none ∧ Fr n0 L ∧ Keep h0 h [o0] ∧ Fld Z h o0 "com/example/seriestrace/seriestrace/check/Finding" "rule" "Lcom/example/seriestrace/seriestrace/check/Rule;" (.ref o1)
set_option maxRecDepth 65536 in
set_option maxHeartbeats 40000000 in
theorem rm4 (l : Launch) (Z : State) (a0 : Array Value) (hw : ∀ d ∈ tables_1, d.before a0 Z = true) (ws : List Jvm.Cond) (o0 : Addr) (o1 : Addr) (o3 : Addr) (u0 : Value) (u1 : Value) (u2 : Value) (u3 : Value) (h0 : Heap) (n0 : Nat) (Z0 : n0 ≤ h0.size) (F0 : Fld Z h0 o0 "com/example/seriestrace/seriestrace/check/Finding" "rule" "Lcom/example/seriestrace/seriestrace/check/Rule;" u0) (F1 : Fld Z h0 o0 "com/example/seriestrace/seriestrace/check/Finding" "field" "Lcom/example/seriestrace/seriestrace/check/FieldRef;" u1) (F2 : Fld Z h0 o0 "com/example/seriestrace/seriestrace/check/Finding" "message" "Ljava/lang/String;" u2) (F3 : Fld Z h0 o0 "com/example/seriestrace/seriestrace/check/Finding" "proposal" "Lcom/example/seriestrace/seriestrace/marc/DataField;" u3) (E1 : Exa Z h0 o0 "com/example/seriestrace/seriestrace/check/Finding") (g1 : n0 ≤ o0) :
    MetFree l (⟨"com/example/seriestrace/seriestrace/check/Finding", "<init>", "(Lcom/example/seriestrace/seriestrace/check/Rule;Lcom/example/seriestrace/seriestrace/check/FieldRef;Ljava/lang/String;Lcom/example/seriestrace/seriestrace/marc/DataField;)V"⟩ : MethodName) (head1 (Jvm.Cond.code (⟨"com/example/seriestrace/seriestrace/check/Finding", "<init>", "(Lcom/example/seriestrace/seriestrace/check/Rule;Lcom/example/seriestrace/seriestrace/check/FieldRef;Ljava/lang/String;Lcom/example/seriestrace/seriestrace/marc/DataField;)V"⟩ : MethodName) prog_12_method_1_code 5 none :: ws) ({ frames := 2, cells := 4, slots := 52, locals := 24 } : Room)) (fun a U => a = #[(.ref o0), (.ref o1), .null, (.ref o3), .null] ∧ Z.Warmed39 U.vm ∧ U.heap = h0) (fun _ _ _ _ _ => True) (fun _ U o U' => ∃ v L, o = .returned v ∧ Q4 Z o0 o1 o3 u0 u1 u2 u3 h0 n0 v U'.heap L ∧ ReturnedEndW U o U' L ({ frames := 2, cells := 4, slots := 52, locals := 24 } : Room).cells ({ frames := 2, cells := 4, slots := 52, locals := 24 } : Room).slots) := by
  refine MetFree.of_bodySF (plainFor_of_name pn_3) hisR ?_
  intro p e s m args below meth c s₁ Bd hml0 hP hK
  obtain ⟨rfl, hZ, hh⟩ := hP
  have hx := Bd.exec
  have hby := Bd.bytes
  have hml : c.maxLocals = 5 := hml0
  have hown : s.vm.findClass "com/example/seriestrace/seriestrace/check/Finding" = some m.cls := findClass_of_methodNamed Bd.named
  have hnm := (name_of_methodNamed Bd.named Bd.method).1
  have X0 : Stand p l e ({ frames := 2, cells := 4, slots := 52, locals := 24 } : Room) s m #[(.ref o0), (.ref o1), .null, (.ref o3), .null] below meth c s₁ [] 0 0 := Stand.of_body Bd
  have e0 : s₁.heap = h0 := by rw [← hh, Bd.state]; rfl
  have pre0 : ∀ t, Steps p.tables e below (s₁.setTop (mkF m 0 #[.val (.ref o0), .val (.ref o1), .val .null, .val (.ref o3), .val .null] [])) t → Steps p.tables e below (s₁.setTop (entryFrame m #[(.ref o0), (.ref o1), .null, (.ref o3), .null] 5)) t := fun t k => castTop (ef_4 m o0 o1 o3) k
  have wS : ∀ d ∈ Bundle.stringAtoms, d.before a0 Z = true := by
    intro d hd
    simp only [Bundle.stringAtoms, List.mem_cons, List.not_mem_nil, or_false] at hd
    rcases hd with rfl | rfl | rfl | rfl | rfl | rfl | rfl
    · exact (hw _ (List.mem_of_getElem? (i := 17) rfl))
    · exact (hw _ (List.mem_of_getElem? (i := 18) rfl))
    · exact (hw _ (List.mem_of_getElem? (i := 19) rfl))
    · exact (hw _ (List.mem_of_getElem? (i := 20) rfl))
    · exact (hw _ (List.mem_of_getElem? (i := 21) rfl))
    · exact (hw _ (List.mem_of_getElem? (i := 22) rfl))
    · exact (hw _ (List.mem_of_getElem? (i := 23) rfl))
  have N0 := Fr.nil n0
  have KP0 : Keep h0 h0 [o0] := Keep.refl _ _
  obtain ⟨_, _, ⟨T1, L1, k1, n1⟩, -, X1, ⟨Lc1, hQ1, l1, y1, z1⟩, st1⟩ := X0.specialBack hx (y := (⟨"java/lang/Record", "<init>", "()V"⟩ : MethodName)) rfl hown (mvT hZ (hw _ (List.mem_of_getElem? (i := 30) rfl))) (mvT hZ (hw _ (List.mem_of_getElem? (i := 31) rfl))) (mvT hZ (hw _ (List.mem_of_getElem? (i := 34) rfl))) (by decide) (backOf (W := 0) (rm5 l Z a0 hw [] o0  h0 ) hZ (hw _ (List.mem_of_getElem? (i := 34) rfl)) (hw _ (List.mem_of_getElem? (i := 33) rfl)) (by decide) (by decide)) (g := (mkF m 1 #[.val (.ref o0), .val (.ref o1), .val .null, .val (.ref o3), .val .null] [(.ref o0)])) rfl (by rw [hml]; rfl) (Steps.refl _) (a := o0) (argsL := []) (rest := []) (lenOf pd_0 rfl) rfl (by show 2 * 0 + _ ≤ _; exact Nat.le_of_eq rfl) (hb hby d4_1) (fun _ _ => ⟨rfl, e0, (by decide : 0 + 0 ≤ _), (by decide : 0 + 0 ≤ _)⟩)
  dsimp only [Pt.U, Pt.locs, Pt.cells, Pt.slots] at X1 l1 y1 z1 st1 hQ1
  subst l1 y1 z1
  obtain ⟨rfl, rfl, e1⟩ := hQ1
  try rw [List.append_nil] at X1
  have K2 : ∀ t, Steps p.tables e below (T1.setTop (mkF m 5 #[.val (.ref o0), .val (.ref o1), .val .null, .val (.ref o3), .val .null] [(.ref o1)])) t → Steps p.tables e below (s₁.setTop (mkF m 0 #[.val (.ref o0), .val (.ref o1), .val .null, .val (.ref o3), .val .null] [])) t := by
    intro t kt
    show Steps p.tables e below (s₁.setTop (mkF m 0 #[.val (.ref o0), .val (.ref o1), .val .null, .val (.ref o3), .val .null] [])) _
    refine XS.aloadN X0.here hx rfl (hb hby d4_0) rfl rfl ?_
    show Steps p.tables e below (s₁.setTop (mkF m 1 #[.val (.ref o0), .val (.ref o1), .val .null, .val (.ref o3), .val .null] [(.ref o0)])) _
    refine st1.trans ?_
    show Steps p.tables e below (T1.setTop (mkF m 4 #[.val (.ref o0), .val (.ref o1), .val .null, .val (.ref o3), .val .null] [])) _
    refine XS.aloadN X1.here hx rfl (hb hby d4_4) rfl rfl ?_
    exact kt
  obtain ⟨a3, T3, h3, k3, X3, e3, E3, hS3, hk3, hZ, hown, st3⟩ := ldcS (s := s) (vm0 := s.vm) X1 hx hZ hown (hw _ (List.mem_of_getElem? (i := 36) rfl)) wS e1 ((State.WarmedH.refl s).since 0) (Nat.zero_le _) (g := (mkF m 5 #[.val (.ref o0), .val (.ref o1), .val .null, .val (.ref o3), .val .null] [(.ref o1)])) rfl (hb hby d4_5) (n := 16) (by decide) (by decide) (by decide) (by decide)
  have Z3 : n0 ≤ h3.size := Nat.le_trans Z0 E3.1
  have G4 : Exa Z h3 o0 "com/example/seriestrace/seriestrace/check/Finding" := E1.ext E3
  have G5 : Fld Z h3 o0 "com/example/seriestrace/seriestrace/check/Finding" "rule" "Lcom/example/seriestrace/seriestrace/check/Rule;" u0 := F0.ext E3
  have G6 : Fld Z h3 o0 "com/example/seriestrace/seriestrace/check/Finding" "field" "Lcom/example/seriestrace/seriestrace/check/FieldRef;" u1 := F1.ext E3
  have G7 : Fld Z h3 o0 "com/example/seriestrace/seriestrace/check/Finding" "message" "Ljava/lang/String;" u2 := F2.ext E3
  have G8 : Fld Z h3 o0 "com/example/seriestrace/seriestrace/check/Finding" "proposal" "Lcom/example/seriestrace/seriestrace/marc/DataField;" u3 := F3.ext E3
  have KP3 : Keep h0 h3 [o0] := KP0.ext E3
  obtain ⟨_, _, ⟨T9, L9, k9, n9⟩, -, X9, ⟨Lc9, hQ9, l9, y9, z9⟩, st9⟩ := Jvm.LawKit.callS X3 hx (y := (⟨"java/util/Objects", "requireNonNull", "(Ljava/lang/Object;Ljava/lang/String;)Ljava/lang/Object;"⟩ : MethodName)) hown (mvT hZ (hw _ (List.mem_of_getElem? (i := 37) rfl))) (mvT hZ (hw _ (List.mem_of_getElem? (i := 38) rfl))) (mvT hZ (hw _ (List.mem_of_getElem? (i := 39) rfl))) (mvT hZ (hw _ (List.mem_of_getElem? (i := 40) rfl))) (by decide) (backOf (W := 0) (rm6 l Z a0 hw [] o1 a3  h3 n0 Z3 ) hZ (hw _ (List.mem_of_getElem? (i := 40) rfl)) (hw _ (List.mem_of_getElem? (i := 39) rfl)) (by decide) (by decide)) (g := (mkF m 7 #[.val (.ref o0), .val (.ref o1), .val .null, .val (.ref o3), .val .null] [(.ref a3), (.ref o1)])) rfl (by rw [hml]; rfl) (argsL := [(.ref o1), (.ref a3)]) (rest := []) (lenOf pd_1 rfl) rfl (by show 2 * 0 + _ ≤ _; exact Nat.le_of_eq rfl) (hb hby d4_7) (fun _ _ => ⟨rfl, e3, (by decide : 2 + 0 ≤ _), (by decide : 20 + 0 ≤ _)⟩)
  dsimp only [Pt.U, Pt.locs, Pt.cells, Pt.slots] at X9 l9 y9 z9 st9 hQ9
  subst l9 y9 z9
  obtain ⟨rfl, rfl, e9⟩ := hQ9
  try rw [List.append_nil] at X9
  have K10 : ∀ t, Steps p.tables e below (T9.setTop (mkF m 12 #[.val (.ref o0), .val (.ref o1), .val .null, .val (.ref o3), .val .null] [(.ref o3)])) t → Steps p.tables e below (s₁.setTop (mkF m 0 #[.val (.ref o0), .val (.ref o1), .val .null, .val (.ref o3), .val .null] [])) t := by
    intro t kt
    refine K2 _ ?_
    show Steps p.tables e below (T1.setTop (mkF m 5 #[.val (.ref o0), .val (.ref o1), .val .null, .val (.ref o3), .val .null] [(.ref o1)])) _
    refine st3 _ ?_
    show Steps p.tables e below (T3.setTop (mkF m 7 #[.val (.ref o0), .val (.ref o1), .val .null, .val (.ref o3), .val .null] [(.ref a3), (.ref o1)])) _
    refine st9 _ ?_
    show Steps p.tables e below (T9.setTop (mkF m 10 #[.val (.ref o0), .val (.ref o1), .val .null, .val (.ref o3), .val .null] [(.ref o1)])) _
    refine XS.pop X9.here hx rfl (hb hby d4_10) rfl rfl ?_
    show Steps p.tables e below (T9.setTop (mkF m 11 #[.val (.ref o0), .val (.ref o1), .val .null, .val (.ref o3), .val .null] [])) _
    refine XS.aloadN X9.here hx rfl (hb hby d4_11) rfl rfl ?_
    exact kt
  obtain ⟨a11, T11, h11, k11, X11, e11, E11, hS11, hk11, hZ, hown, st11⟩ := ldcS (s := s) (vm0 := T3.vm) X9 hx hZ hown (hw _ (List.mem_of_getElem? (i := 41) rfl)) wS e9 hS3 hk3 (g := (mkF m 12 #[.val (.ref o0), .val (.ref o1), .val .null, .val (.ref o3), .val .null] [(.ref o3)])) rfl (hb hby d4_12) (n := 28) (by decide) (by decide) (by decide) (by decide)
  have Z11 : n0 ≤ h11.size := Nat.le_trans Z3 E11.1
  have G12 : Exa Z h11 o0 "com/example/seriestrace/seriestrace/check/Finding" := G4.ext E11
  have G13 : Fld Z h11 o0 "com/example/seriestrace/seriestrace/check/Finding" "rule" "Lcom/example/seriestrace/seriestrace/check/Rule;" u0 := G5.ext E11
  have G14 : Fld Z h11 o0 "com/example/seriestrace/seriestrace/check/Finding" "field" "Lcom/example/seriestrace/seriestrace/check/FieldRef;" u1 := G6.ext E11
  have G15 : Fld Z h11 o0 "com/example/seriestrace/seriestrace/check/Finding" "message" "Ljava/lang/String;" u2 := G7.ext E11
  have G16 : Fld Z h11 o0 "com/example/seriestrace/seriestrace/check/Finding" "proposal" "Lcom/example/seriestrace/seriestrace/marc/DataField;" u3 := G8.ext E11
  have KP11 : Keep h0 h11 [o0] := KP3.ext E11
  obtain ⟨_, _, ⟨T17, L17, k17, n17⟩, -, X17, ⟨Lc17, hQ17, l17, y17, z17⟩, st17⟩ := Jvm.LawKit.callS X11 hx (y := (⟨"java/util/Objects", "requireNonNull", "(Ljava/lang/Object;Ljava/lang/String;)Ljava/lang/Object;"⟩ : MethodName)) hown (mvT hZ (hw _ (List.mem_of_getElem? (i := 37) rfl))) (mvT hZ (hw _ (List.mem_of_getElem? (i := 38) rfl))) (mvT hZ (hw _ (List.mem_of_getElem? (i := 39) rfl))) (mvT hZ (hw _ (List.mem_of_getElem? (i := 40) rfl))) (by decide) (backOf (W := 0) (rm6 l Z a0 hw [] o3 a11  h11 n0 Z11 ) hZ (hw _ (List.mem_of_getElem? (i := 40) rfl)) (hw _ (List.mem_of_getElem? (i := 39) rfl)) (by decide) (by decide)) (g := (mkF m 14 #[.val (.ref o0), .val (.ref o1), .val .null, .val (.ref o3), .val .null] [(.ref a11), (.ref o3)])) rfl (by rw [hml]; rfl) (argsL := [(.ref o3), (.ref a11)]) (rest := []) (lenOf pd_1 rfl) rfl (by show 2 * 0 + _ ≤ _; exact Nat.le_of_eq rfl) (hb hby d4_14) (fun _ _ => ⟨rfl, e11, (by decide : 4 + 0 ≤ _), (by decide : 52 + 0 ≤ _)⟩)
  dsimp only [Pt.U, Pt.locs, Pt.cells, Pt.slots] at X17 l17 y17 z17 st17 hQ17
  subst l17 y17 z17
  obtain ⟨rfl, rfl, e17⟩ := hQ17
  try rw [List.append_nil] at X17
  obtain ⟨T18, h18, X18, e18, W18, st18⟩ := putF X17 hx hZ hown (host := "") (Or.inl (hw _ (List.mem_of_getElem? (i := 42) rfl))) Via.refl e17 G13 G12 (Or.inr ⟨(hw _ (List.mem_of_getElem? (i := 43) rfl)), rfl, hnm⟩) (hw _ (List.mem_of_getElem? (i := 11) rfl)) (ty := (.object "com/example/seriestrace/seriestrace/check/Rule")) (by decide) rfl rfl (g := (mkF m 20 #[.val (.ref o0), .val (.ref o1), .val .null, .val (.ref o3), .val .null] [(.ref o1), (.ref o0)])) rfl rfl (hb hby d4_20)
  have G19 : Exa Z h18 o0 "com/example/seriestrace/seriestrace/check/Finding" := G12.wr W18
  have G20 : Fld Z h18 o0 "com/example/seriestrace/seriestrace/check/Finding" "rule" "Lcom/example/seriestrace/seriestrace/check/Rule;" (.ref o1) := G13.same W18
  have G21 : Fld Z h18 o0 "com/example/seriestrace/seriestrace/check/Finding" "field" "Lcom/example/seriestrace/seriestrace/check/FieldRef;" u1 := G14.other W18 (Or.inr (slot_ne (Or.inr (hw _ (List.mem_of_getElem? (i := 45) rfl))) (Or.inr (hw _ (List.mem_of_getElem? (i := 43) rfl))) (by decide) (t := (.object "com/example/seriestrace/seriestrace/check/FieldRef")) (t' := (.object "com/example/seriestrace/seriestrace/check/Rule")) (by decide) (by decide)))
  have G22 : Fld Z h18 o0 "com/example/seriestrace/seriestrace/check/Finding" "message" "Ljava/lang/String;" u2 := G15.other W18 (Or.inr (slot_ne (Or.inr (hw _ (List.mem_of_getElem? (i := 47) rfl))) (Or.inr (hw _ (List.mem_of_getElem? (i := 43) rfl))) (by decide) (t := (.object "java/lang/String")) (t' := (.object "com/example/seriestrace/seriestrace/check/Rule")) (by decide) (by decide)))
  have G23 : Fld Z h18 o0 "com/example/seriestrace/seriestrace/check/Finding" "proposal" "Lcom/example/seriestrace/seriestrace/marc/DataField;" u3 := G16.other W18 (Or.inr (slot_ne (Or.inr (hw _ (List.mem_of_getElem? (i := 49) rfl))) (Or.inr (hw _ (List.mem_of_getElem? (i := 43) rfl))) (by decide) (t := (.object "com/example/seriestrace/seriestrace/marc/DataField")) (t' := (.object "com/example/seriestrace/seriestrace/check/Rule")) (by decide) (by decide)))
  have KS18 := Nat.le_trans hk11 (Keep.of_wr W18).1
  have Z18 : n0 ≤ h18.size := Nat.le_trans Z11 (Keep.of_wr W18).1
  have N18 := Fr.snoc X18 N0 g1
  have KP18 : Keep h0 h18 [o0] := KP11.wr W18 (Or.inl (List.mem_of_getElem? (i := 0) rfl))
  obtain ⟨T24, h24, X24, e24, W24, st24⟩ := putF X18 hx hZ hown (host := "") (Or.inl (hw _ (List.mem_of_getElem? (i := 44) rfl))) Via.refl e18 G21 G19 (Or.inr ⟨(hw _ (List.mem_of_getElem? (i := 45) rfl)), rfl, hnm⟩) (hw _ (List.mem_of_getElem? (i := 11) rfl)) (ty := (.object "com/example/seriestrace/seriestrace/check/FieldRef")) (by decide) rfl rfl (g := (mkF m 25 #[.val (.ref o0), .val (.ref o1), .val .null, .val (.ref o3), .val .null] [.null, (.ref o0)])) rfl rfl (hb hby d4_25)
  have G25 : Exa Z h24 o0 "com/example/seriestrace/seriestrace/check/Finding" := G19.wr W24
  have G26 : Fld Z h24 o0 "com/example/seriestrace/seriestrace/check/Finding" "rule" "Lcom/example/seriestrace/seriestrace/check/Rule;" (.ref o1) := G20.other W24 (Or.inr (slot_ne (Or.inr (hw _ (List.mem_of_getElem? (i := 43) rfl))) (Or.inr (hw _ (List.mem_of_getElem? (i := 45) rfl))) (by decide) (t := (.object "com/example/seriestrace/seriestrace/check/Rule")) (t' := (.object "com/example/seriestrace/seriestrace/check/FieldRef")) (by decide) (by decide)))
  have G27 : Fld Z h24 o0 "com/example/seriestrace/seriestrace/check/Finding" "field" "Lcom/example/seriestrace/seriestrace/check/FieldRef;" .null := G21.same W24
  have G28 : Fld Z h24 o0 "com/example/seriestrace/seriestrace/check/Finding" "message" "Ljava/lang/String;" u2 := G22.other W24 (Or.inr (slot_ne (Or.inr (hw _ (List.mem_of_getElem? (i := 47) rfl))) (Or.inr (hw _ (List.mem_of_getElem? (i := 45) rfl))) (by decide) (t := (.object "java/lang/String")) (t' := (.object "com/example/seriestrace/seriestrace/check/FieldRef")) (by decide) (by decide)))
  have G29 : Fld Z h24 o0 "com/example/seriestrace/seriestrace/check/Finding" "proposal" "Lcom/example/seriestrace/seriestrace/marc/DataField;" u3 := G23.other W24 (Or.inr (slot_ne (Or.inr (hw _ (List.mem_of_getElem? (i := 49) rfl))) (Or.inr (hw _ (List.mem_of_getElem? (i := 45) rfl))) (by decide) (t := (.object "com/example/seriestrace/seriestrace/marc/DataField")) (t' := (.object "com/example/seriestrace/seriestrace/check/FieldRef")) (by decide) (by decide)))
  have KS24 := Nat.le_trans KS18 (Keep.of_wr W24).1
  have Z24 : n0 ≤ h24.size := Nat.le_trans Z18 (Keep.of_wr W24).1
  have N24 := Fr.snoc X24 N18 g1
  have KP24 : Keep h0 h24 [o0] := KP18.wr W24 (Or.inl (List.mem_of_getElem? (i := 0) rfl))
  obtain ⟨T30, h30, X30, e30, W30, st30⟩ := putF X24 hx hZ hown (host := "") (Or.inl (hw _ (List.mem_of_getElem? (i := 46) rfl))) Via.refl e24 G28 G25 (Or.inr ⟨(hw _ (List.mem_of_getElem? (i := 47) rfl)), rfl, hnm⟩) (hw _ (List.mem_of_getElem? (i := 11) rfl)) (ty := (.object "java/lang/String")) (by decide) rfl rfl (g := (mkF m 30 #[.val (.ref o0), .val (.ref o1), .val .null, .val (.ref o3), .val .null] [(.ref o3), (.ref o0)])) rfl rfl (hb hby d4_30)
  have G31 : Exa Z h30 o0 "com/example/seriestrace/seriestrace/check/Finding" := G25.wr W30
  have G32 : Fld Z h30 o0 "com/example/seriestrace/seriestrace/check/Finding" "rule" "Lcom/example/seriestrace/seriestrace/check/Rule;" (.ref o1) := G26.other W30 (Or.inr (slot_ne (Or.inr (hw _ (List.mem_of_getElem? (i := 43) rfl))) (Or.inr (hw _ (List.mem_of_getElem? (i := 47) rfl))) (by decide) (t := (.object "com/example/seriestrace/seriestrace/check/Rule")) (t' := (.object "java/lang/String")) (by decide) (by decide)))
  have G33 : Fld Z h30 o0 "com/example/seriestrace/seriestrace/check/Finding" "field" "Lcom/example/seriestrace/seriestrace/check/FieldRef;" .null := G27.other W30 (Or.inr (slot_ne (Or.inr (hw _ (List.mem_of_getElem? (i := 45) rfl))) (Or.inr (hw _ (List.mem_of_getElem? (i := 47) rfl))) (by decide) (t := (.object "com/example/seriestrace/seriestrace/check/FieldRef")) (t' := (.object "java/lang/String")) (by decide) (by decide)))
  have G34 : Fld Z h30 o0 "com/example/seriestrace/seriestrace/check/Finding" "message" "Ljava/lang/String;" (.ref o3) := G28.same W30
  have G35 : Fld Z h30 o0 "com/example/seriestrace/seriestrace/check/Finding" "proposal" "Lcom/example/seriestrace/seriestrace/marc/DataField;" u3 := G29.other W30 (Or.inr (slot_ne (Or.inr (hw _ (List.mem_of_getElem? (i := 49) rfl))) (Or.inr (hw _ (List.mem_of_getElem? (i := 47) rfl))) (by decide) (t := (.object "com/example/seriestrace/seriestrace/marc/DataField")) (t' := (.object "java/lang/String")) (by decide) (by decide)))
  have KS30 := Nat.le_trans KS24 (Keep.of_wr W30).1
  have Z30 : n0 ≤ h30.size := Nat.le_trans Z24 (Keep.of_wr W30).1
  have N30 := Fr.snoc X30 N24 g1
  have KP30 : Keep h0 h30 [o0] := KP24.wr W30 (Or.inl (List.mem_of_getElem? (i := 0) rfl))
  obtain ⟨T36, h36, X36, e36, W36, st36⟩ := putF X30 hx hZ hown (host := "") (Or.inl (hw _ (List.mem_of_getElem? (i := 48) rfl))) Via.refl e30 G35 G31 (Or.inr ⟨(hw _ (List.mem_of_getElem? (i := 49) rfl)), rfl, hnm⟩) (hw _ (List.mem_of_getElem? (i := 11) rfl)) (ty := (.object "com/example/seriestrace/seriestrace/marc/DataField")) (by decide) rfl rfl (g := (mkF m 36 #[.val (.ref o0), .val (.ref o1), .val .null, .val (.ref o3), .val .null] [.null, (.ref o0)])) rfl rfl (hb hby d4_36)
  have G37 : Exa Z h36 o0 "com/example/seriestrace/seriestrace/check/Finding" := G31.wr W36
  have G38 : Fld Z h36 o0 "com/example/seriestrace/seriestrace/check/Finding" "rule" "Lcom/example/seriestrace/seriestrace/check/Rule;" (.ref o1) := G32.other W36 (Or.inr (slot_ne (Or.inr (hw _ (List.mem_of_getElem? (i := 43) rfl))) (Or.inr (hw _ (List.mem_of_getElem? (i := 49) rfl))) (by decide) (t := (.object "com/example/seriestrace/seriestrace/check/Rule")) (t' := (.object "com/example/seriestrace/seriestrace/marc/DataField")) (by decide) (by decide)))
  have G39 : Fld Z h36 o0 "com/example/seriestrace/seriestrace/check/Finding" "field" "Lcom/example/seriestrace/seriestrace/check/FieldRef;" .null := G33.other W36 (Or.inr (slot_ne (Or.inr (hw _ (List.mem_of_getElem? (i := 45) rfl))) (Or.inr (hw _ (List.mem_of_getElem? (i := 49) rfl))) (by decide) (t := (.object "com/example/seriestrace/seriestrace/check/FieldRef")) (t' := (.object "com/example/seriestrace/seriestrace/marc/DataField")) (by decide) (by decide)))
  have G40 : Fld Z h36 o0 "com/example/seriestrace/seriestrace/check/Finding" "message" "Ljava/lang/String;" (.ref o3) := G34.other W36 (Or.inr (slot_ne (Or.inr (hw _ (List.mem_of_getElem? (i := 47) rfl))) (Or.inr (hw _ (List.mem_of_getElem? (i := 49) rfl))) (by decide) (t := (.object "java/lang/String")) (t' := (.object "com/example/seriestrace/seriestrace/marc/DataField")) (by decide) (by decide)))
  have G41 : Fld Z h36 o0 "com/example/seriestrace/seriestrace/check/Finding" "proposal" "Lcom/example/seriestrace/seriestrace/marc/DataField;" .null := G35.same W36
  have KS36 := Nat.le_trans KS30 (Keep.of_wr W36).1
  have Z36 : n0 ≤ h36.size := Nat.le_trans Z30 (Keep.of_wr W36).1
  have N36 := Fr.snoc X36 N30 g1
  have KP36 : Keep h0 h36 [o0] := KP30.wr W36 (Or.inl (List.mem_of_getElem? (i := 0) rfl))
  have K42 : ∀ t, Steps p.tables e below (T36.setTop (mkF m 39 #[.val (.ref o0), .val (.ref o1), .val .null, .val (.ref o3), .val .null] [])) t → Steps p.tables e below (s₁.setTop (mkF m 0 #[.val (.ref o0), .val (.ref o1), .val .null, .val (.ref o3), .val .null] [])) t := by
    intro t kt
    refine K10 _ ?_
    show Steps p.tables e below (T9.setTop (mkF m 12 #[.val (.ref o0), .val (.ref o1), .val .null, .val (.ref o3), .val .null] [(.ref o3)])) _
    refine st11 _ ?_
    show Steps p.tables e below (T11.setTop (mkF m 14 #[.val (.ref o0), .val (.ref o1), .val .null, .val (.ref o3), .val .null] [(.ref a11), (.ref o3)])) _
    refine st17 _ ?_
    show Steps p.tables e below (T17.setTop (mkF m 17 #[.val (.ref o0), .val (.ref o1), .val .null, .val (.ref o3), .val .null] [(.ref o3)])) _
    refine XS.pop X17.here hx rfl (hb hby d4_17) rfl rfl ?_
    show Steps p.tables e below (T17.setTop (mkF m 18 #[.val (.ref o0), .val (.ref o1), .val .null, .val (.ref o3), .val .null] [])) _
    refine XS.aloadN X17.here hx rfl (hb hby d4_18) rfl rfl ?_
    show Steps p.tables e below (T17.setTop (mkF m 19 #[.val (.ref o0), .val (.ref o1), .val .null, .val (.ref o3), .val .null] [(.ref o0)])) _
    refine XS.aloadN X17.here hx rfl (hb hby d4_19) rfl rfl ?_
    show Steps p.tables e below (T17.setTop (mkF m 20 #[.val (.ref o0), .val (.ref o1), .val .null, .val (.ref o3), .val .null] [(.ref o1), (.ref o0)])) _
    refine st18 _ ?_
    show Steps p.tables e below (T18.setTop (mkF m 23 #[.val (.ref o0), .val (.ref o1), .val .null, .val (.ref o3), .val .null] [])) _
    refine XS.aloadN X18.here hx rfl (hb hby d4_23) rfl rfl ?_
    show Steps p.tables e below (T18.setTop (mkF m 24 #[.val (.ref o0), .val (.ref o1), .val .null, .val (.ref o3), .val .null] [(.ref o0)])) _
    refine XS.aloadN X18.here hx rfl (hb hby d4_24) rfl rfl ?_
    show Steps p.tables e below (T18.setTop (mkF m 25 #[.val (.ref o0), .val (.ref o1), .val .null, .val (.ref o3), .val .null] [.null, (.ref o0)])) _
    refine st24 _ ?_
    show Steps p.tables e below (T24.setTop (mkF m 28 #[.val (.ref o0), .val (.ref o1), .val .null, .val (.ref o3), .val .null] [])) _
    refine XS.aloadN X24.here hx rfl (hb hby d4_28) rfl rfl ?_
    show Steps p.tables e below (T24.setTop (mkF m 29 #[.val (.ref o0), .val (.ref o1), .val .null, .val (.ref o3), .val .null] [(.ref o0)])) _
    refine XS.aloadN X24.here hx rfl (hb hby d4_29) rfl rfl ?_
    show Steps p.tables e below (T24.setTop (mkF m 30 #[.val (.ref o0), .val (.ref o1), .val .null, .val (.ref o3), .val .null] [(.ref o3), (.ref o0)])) _
    refine st30 _ ?_
    show Steps p.tables e below (T30.setTop (mkF m 33 #[.val (.ref o0), .val (.ref o1), .val .null, .val (.ref o3), .val .null] [])) _
    refine XS.aloadN X30.here hx rfl (hb hby d4_33) rfl rfl ?_
    show Steps p.tables e below (T30.setTop (mkF m 34 #[.val (.ref o0), .val (.ref o1), .val .null, .val (.ref o3), .val .null] [(.ref o0)])) _
    refine XS.aload X30.here hx rfl (hb hby d4_34) rfl rfl ?_
    show Steps p.tables e below (T30.setTop (mkF m 36 #[.val (.ref o0), .val (.ref o1), .val .null, .val (.ref o3), .val .null] [.null, (.ref o0)])) _
    refine st36 _ ?_
    exact kt
  obtain ⟨fsQ, hr, hrun, hended, hRW⟩ := X36.leaveW (s := s) hS11 (by rw [e36]; exact KS36) (v := none) (fun _ => rfl)
  refine ⟨_, _, pre0 _ (K42 _ ?_), hrun, hended, _, _, rfl, ?_, hRW.1, hRW.2.1, hRW.2.2.1, hRW.2.2.2.mono (by decide) (by decide)⟩
  · show Steps p.tables e below (T36.setTop (mkF m 39 #[.val (.ref o0), .val (.ref o1), .val .null, .val (.ref o3), .val .null] [])) _
    exact X36.returnOut hx Bd.returns (hb hby d4_39) hr
  · show Q4 Z o0 o1 o3 u0 u1 u2 u3 h0 n0 _ T36.heap _
    rw [e36]
    exact ⟨rfl, N36, KP36, G38⟩
theorem ef_3 (m : MethodId) (x0 : Addr) (x1 : Addr) (x3 : Addr) : entryFrame m #[(.ref x0), (.ref x1), .null, (.ref x3)] 4 = mkF m 0 #[.val (.ref x0), .val (.ref x1), .val .null, .val (.ref x3)] [] := by first | (simp [entryFrame, mkF, argsToLocals, Value.category]; done) | rfl
theorem d3_0 : decode prog_12_method_2_code 0 = .ok (.aload_n 0, 1) := by decide +kernel
theorem d3_1 : decode prog_12_method_2_code 1 = .ok (.aload_n 1, 1) := by decide +kernel
theorem d3_2 : decode prog_12_method_2_code 2 = .ok (.aload_n 2, 1) := by decide +kernel
theorem d3_3 : decode prog_12_method_2_code 3 = .ok (.aload_n 3, 1) := by decide +kernel
theorem d3_4 : decode prog_12_method_2_code 4 = .ok (.aconst_null, 1) := by decide +kernel
theorem d3_5 : decode prog_12_method_2_code 5 = .ok (.invokespecial 33, 3) := by decide +kernel
theorem pd_2 : parseMethodDescriptor "(Lcom/example/seriestrace/seriestrace/check/Rule;Lcom/example/seriestrace/seriestrace/check/FieldRef;Ljava/lang/String;Lcom/example/seriestrace/seriestrace/marc/DataField;)V" = some ⟨[(.object "com/example/seriestrace/seriestrace/check/Rule"), (.object "com/example/seriestrace/seriestrace/check/FieldRef"), (.object "java/lang/String"), (.object "com/example/seriestrace/seriestrace/marc/DataField")], none⟩ := by decide +kernel
theorem d3_8 : decode prog_12_method_2_code 8 = .ok (.return_, 1) := by decide +kernel
def Q3 (Z : State) (o0 : Addr) (o1 : Addr) (o3 : Addr) (u0 : Value) (u1 : Value) (u2 : Value) (u3 : Value) (h0 : Heap) (n0 : Nat) (v : Option Value) (h : Heap) (L : List Loc) : Prop := v = none ∧ Fr n0 L ∧ Keep h0 h [o0] ∧ Fld Z h o0 "com/example/seriestrace/seriestrace/check/Finding" "rule" "Lcom/example/seriestrace/seriestrace/check/Rule;" (.ref o1)
set_option maxRecDepth 65536 in
set_option maxHeartbeats 40000000 in
theorem rm3 (l : Launch) (Z : State) (a0 : Array Value) (hw : ∀ d ∈ tables_1, d.before a0 Z = true) (ws : List Jvm.Cond) (o0 : Addr) (o1 : Addr) (o3 : Addr) (u0 : Value) (u1 : Value) (u2 : Value) (u3 : Value) (h0 : Heap) (n0 : Nat) (Z0 : n0 ≤ h0.size) (F0 : Fld Z h0 o0 "com/example/seriestrace/seriestrace/check/Finding" "rule" "Lcom/example/seriestrace/seriestrace/check/Rule;" u0) (F1 : Fld Z h0 o0 "com/example/seriestrace/seriestrace/check/Finding" "field" "Lcom/example/seriestrace/seriestrace/check/FieldRef;" u1) (F2 : Fld Z h0 o0 "com/example/seriestrace/seriestrace/check/Finding" "message" "Ljava/lang/String;" u2) (F3 : Fld Z h0 o0 "com/example/seriestrace/seriestrace/check/Finding" "proposal" "Lcom/example/seriestrace/seriestrace/marc/DataField;" u3) (E1 : Exa Z h0 o0 "com/example/seriestrace/seriestrace/check/Finding") (g1 : n0 ≤ o0) :
    MetFree l (⟨"com/example/seriestrace/seriestrace/check/Finding", "<init>", "(Lcom/example/seriestrace/seriestrace/check/Rule;Lcom/example/seriestrace/seriestrace/check/FieldRef;Ljava/lang/String;)V"⟩ : MethodName) (head1 (Jvm.Cond.code (⟨"com/example/seriestrace/seriestrace/check/Finding", "<init>", "(Lcom/example/seriestrace/seriestrace/check/Rule;Lcom/example/seriestrace/seriestrace/check/FieldRef;Ljava/lang/String;)V"⟩ : MethodName) prog_12_method_2_code 4 none :: ws) ({ frames := 3, cells := 4, slots := 52, locals := 40 } : Room)) (fun a U => a = #[(.ref o0), (.ref o1), .null, (.ref o3)] ∧ Z.Warmed39 U.vm ∧ U.heap = h0) (fun _ _ _ _ _ => True) (fun _ U o U' => ∃ v L, o = .returned v ∧ Q3 Z o0 o1 o3 u0 u1 u2 u3 h0 n0 v U'.heap L ∧ ReturnedEndW U o U' L ({ frames := 3, cells := 4, slots := 52, locals := 40 } : Room).cells ({ frames := 3, cells := 4, slots := 52, locals := 40 } : Room).slots) := by
  refine MetFree.of_bodySF (plainFor_of_name pn_3) hisR ?_
  intro p e s m args below meth c s₁ Bd hml0 hP hK
  obtain ⟨rfl, hZ, hh⟩ := hP
  have hx := Bd.exec
  have hby := Bd.bytes
  have hml : c.maxLocals = 4 := hml0
  have hown : s.vm.findClass "com/example/seriestrace/seriestrace/check/Finding" = some m.cls := findClass_of_methodNamed Bd.named
  have hnm := (name_of_methodNamed Bd.named Bd.method).1
  have X0 : Stand p l e ({ frames := 3, cells := 4, slots := 52, locals := 40 } : Room) s m #[(.ref o0), (.ref o1), .null, (.ref o3)] below meth c s₁ [] 0 0 := Stand.of_body Bd
  have e0 : s₁.heap = h0 := by rw [← hh, Bd.state]; rfl
  have pre0 : ∀ t, Steps p.tables e below (s₁.setTop (mkF m 0 #[.val (.ref o0), .val (.ref o1), .val .null, .val (.ref o3)] [])) t → Steps p.tables e below (s₁.setTop (entryFrame m #[(.ref o0), (.ref o1), .null, (.ref o3)] 4)) t := fun t k => castTop (ef_3 m o0 o1 o3) k
  have wS : ∀ d ∈ Bundle.stringAtoms, d.before a0 Z = true := by
    intro d hd
    simp only [Bundle.stringAtoms, List.mem_cons, List.not_mem_nil, or_false] at hd
    rcases hd with rfl | rfl | rfl | rfl | rfl | rfl | rfl
    · exact (hw _ (List.mem_of_getElem? (i := 17) rfl))
    · exact (hw _ (List.mem_of_getElem? (i := 18) rfl))
    · exact (hw _ (List.mem_of_getElem? (i := 19) rfl))
    · exact (hw _ (List.mem_of_getElem? (i := 20) rfl))
    · exact (hw _ (List.mem_of_getElem? (i := 21) rfl))
    · exact (hw _ (List.mem_of_getElem? (i := 22) rfl))
    · exact (hw _ (List.mem_of_getElem? (i := 23) rfl))
  have N0 := Fr.nil n0
  have KP0 : Keep h0 h0 [o0] := Keep.refl _ _
  have K2 : ∀ t, Steps p.tables e below (s₁.setTop (mkF m 5 #[.val (.ref o0), .val (.ref o1), .val .null, .val (.ref o3)] [.null, (.ref o3), .null, (.ref o1), (.ref o0)])) t → Steps p.tables e below (s₁.setTop (mkF m 0 #[.val (.ref o0), .val (.ref o1), .val .null, .val (.ref o3)] [])) t := by
    intro t kt
    show Steps p.tables e below (s₁.setTop (mkF m 0 #[.val (.ref o0), .val (.ref o1), .val .null, .val (.ref o3)] [])) _
    refine XS.aloadN X0.here hx rfl (hb hby d3_0) rfl rfl ?_
    show Steps p.tables e below (s₁.setTop (mkF m 1 #[.val (.ref o0), .val (.ref o1), .val .null, .val (.ref o3)] [(.ref o0)])) _
    refine XS.aloadN X0.here hx rfl (hb hby d3_1) rfl rfl ?_
    show Steps p.tables e below (s₁.setTop (mkF m 2 #[.val (.ref o0), .val (.ref o1), .val .null, .val (.ref o3)] [(.ref o1), (.ref o0)])) _
    refine XS.aloadN X0.here hx rfl (hb hby d3_2) rfl rfl ?_
    show Steps p.tables e below (s₁.setTop (mkF m 3 #[.val (.ref o0), .val (.ref o1), .val .null, .val (.ref o3)] [.null, (.ref o1), (.ref o0)])) _
    refine XS.aloadN X0.here hx rfl (hb hby d3_3) rfl rfl ?_
    show Steps p.tables e below (s₁.setTop (mkF m 4 #[.val (.ref o0), .val (.ref o1), .val .null, .val (.ref o3)] [(.ref o3), .null, (.ref o1), (.ref o0)])) _
    refine XS.aconstNull X0.here hx rfl (hb hby d3_4) ?_
    exact kt
  obtain ⟨_, _, ⟨T1, L1, k1, n1⟩, -, X1', hS1', hg1', ⟨Lc1, hQ1, l1, y1, z1⟩, st1⟩ := Stand.specialBackS (s := s.setVm s.vm) X0 hx (y := (⟨"com/example/seriestrace/seriestrace/check/Finding", "<init>", "(Lcom/example/seriestrace/seriestrace/check/Rule;Lcom/example/seriestrace/seriestrace/check/FieldRef;Ljava/lang/String;Lcom/example/seriestrace/seriestrace/marc/DataField;)V"⟩ : MethodName)) rfl hown (mvT hZ (hw _ (List.mem_of_getElem? (i := 27) rfl))) (mvT hZ (hw _ (List.mem_of_getElem? (i := 28) rfl))) (mvT hZ (hw _ (List.mem_of_getElem? (i := 29) rfl))) (by decide) (backOfS (W := 0) (rm4 l Z a0 hw [] o0 o1 o3 u0 u1 u2 u3 h0 n0 Z0 F0 F1 F2 F3 E1 g1) hZ (hw _ (List.mem_of_getElem? (i := 29) rfl)) (hw _ (List.mem_of_getElem? (i := 12) rfl)) (by decide) (by decide)) (g := (mkF m 5 #[.val (.ref o0), .val (.ref o1), .val .null, .val (.ref o3)] [.null, (.ref o3), .null, (.ref o1), (.ref o0)])) rfl (by rw [hml]; rfl) (Steps.refl _) (a := o0) (argsL := [(.ref o1), .null, (.ref o3), .null]) (rest := []) (lenOf pd_2 rfl) rfl (by show 2 * 0 + _ ≤ _; exact Nat.le_of_eq rfl) (hb hby d3_5) (fun _ _ => ⟨rfl, e0, (by decide : 0 + 4 ≤ _), (by decide : 0 + 52 ≤ _)⟩)
  dsimp only [Pt.U, Pt.locs, Pt.cells, Pt.slots] at X1' hS1' hg1' l1 y1 z1 st1 hQ1
  subst l1 y1 z1
  obtain ⟨X1, hS1, hZ, hown⟩ := rebS ((State.WarmedH.refl s).since 0) (n1 := s₁.heap.size) (by rw [e0]; exact (Nat.zero_le _)) X1' hS1' hg1' hZ hown
  obtain ⟨rfl, N1q, K1q, F1q⟩ := hQ1
  have N1 := Fr.app N0 N1q
  have Z1 : n0 ≤ T1.heap.size := Nat.le_trans Z0 K1q.1
  have G3 : Exa Z T1.heap o0 "com/example/seriestrace/seriestrace/check/Finding" := E1.keep K1q
  have KP1 : Keep h0 T1.heap [o0] := KP0.trans K1q (allS (Or.inl (List.mem_of_getElem? (i := 0) rfl)) all0)
  have K4 : ∀ t, Steps p.tables e below (T1.setTop (mkF m 8 #[.val (.ref o0), .val (.ref o1), .val .null, .val (.ref o3)] [])) t → Steps p.tables e below (s₁.setTop (mkF m 0 #[.val (.ref o0), .val (.ref o1), .val .null, .val (.ref o3)] [])) t := by
    intro t kt
    refine K2 _ ?_
    show Steps p.tables e below (s₁.setTop (mkF m 5 #[.val (.ref o0), .val (.ref o1), .val .null, .val (.ref o3)] [.null, (.ref o3), .null, (.ref o1), (.ref o0)])) _
    refine st1.trans ?_
    exact kt
  obtain ⟨fsQ, hr, hrun, hended, hRW⟩ := X1.leaveW (s := s) hS1 (Nat.le_refl _) (v := none) (fun _ => rfl)
  refine ⟨_, _, pre0 _ (K4 _ ?_), hrun, hended, _, _, rfl, ?_, hRW.1, hRW.2.1, hRW.2.2.1, hRW.2.2.2.mono (by decide) (by decide)⟩
  · show Steps p.tables e below (T1.setTop (mkF m 8 #[.val (.ref o0), .val (.ref o1), .val .null, .val (.ref o3)] [])) _
    exact X1.returnOut hx Bd.returns (hb hby d3_8) hr
  · show Q3 Z o0 o1 o3 u0 u1 u2 u3 h0 n0 _ T1.heap _
    exact ⟨rfl, N1, KP1, F1q⟩
theorem ef_7 (m : MethodId) (x0 : Addr) (x1 : Addr) (x2 : Addr) : entryFrame m #[(.ref x0), (.ref x1), (.ref x2)] 3 = mkF m 0 #[.val (.ref x0), .val (.ref x1), .val (.ref x2)] [] := by first | (simp [entryFrame, mkF, argsToLocals, Value.category]; done) | rfl
theorem pn_4 : plainName "com/example/seriestrace/seriestrace/check/Rule" = true := by first | (simp [plainName, overriddenIn]; done) | decide +kernel
theorem d7_0 : decode prog_16_method_1_code 0 = .ok (.aload_n 0, 1) := by decide +kernel
theorem d7_1 : decode prog_16_method_1_code 1 = .ok (.invokespecial 1, 3) := by decide +kernel
theorem d7_4 : decode prog_16_method_1_code 4 = .ok (.aload_n 1, 1) := by decide +kernel
theorem d7_5 : decode prog_16_method_1_code 5 = .ok (.ldc 7, 2) := by decide +kernel
theorem d7_7 : decode prog_16_method_1_code 7 = .ok (.invokestatic 9, 3) := by decide +kernel
theorem d7_10 : decode prog_16_method_1_code 10 = .ok (.pop, 1) := by decide +kernel
theorem d7_11 : decode prog_16_method_1_code 11 = .ok (.aload_n 2, 1) := by decide +kernel
theorem d7_12 : decode prog_16_method_1_code 12 = .ok (.ldc 15, 2) := by decide +kernel
theorem d7_14 : decode prog_16_method_1_code 14 = .ok (.invokestatic 9, 3) := by decide +kernel
theorem d7_17 : decode prog_16_method_1_code 17 = .ok (.pop, 1) := by decide +kernel
theorem d7_18 : decode prog_16_method_1_code 18 = .ok (.aload_n 0, 1) := by decide +kernel
theorem d7_19 : decode prog_16_method_1_code 19 = .ok (.aload_n 1, 1) := by decide +kernel
theorem d7_20 : decode prog_16_method_1_code 20 = .ok (.putfield 17, 3) := by decide +kernel
theorem d7_23 : decode prog_16_method_1_code 23 = .ok (.aload_n 0, 1) := by decide +kernel
theorem d7_24 : decode prog_16_method_1_code 24 = .ok (.aload_n 2, 1) := by decide +kernel
theorem d7_25 : decode prog_16_method_1_code 25 = .ok (.putfield 22, 3) := by decide +kernel
theorem d7_28 : decode prog_16_method_1_code 28 = .ok (.return_, 1) := by decide +kernel
def Q7 (Z : State) (o0 : Addr) (o1 : Addr) (o2 : Addr) (u0 : Value) (u1 : Value) (h0 : Heap) (n0 : Nat) (v : Option Value) (h : Heap) (L : List Loc) : Prop := v = none ∧ Fr n0 L ∧ Keep h0 h [o0] ∧ Fld Z h o0 "com/example/seriestrace/seriestrace/check/Rule" "severity" "Lcom/example/seriestrace/seriestrace/check/Severity;" (.ref o2)
set_option maxRecDepth 65536 in
set_option maxHeartbeats 40000000 in
theorem rm7 (l : Launch) (Z : State) (a0 : Array Value) (hw : ∀ d ∈ tables_1, d.before a0 Z = true) (ws : List Jvm.Cond) (o0 : Addr) (o1 : Addr) (o2 : Addr) (u0 : Value) (u1 : Value) (h0 : Heap) (n0 : Nat) (Z0 : n0 ≤ h0.size) (F0 : Fld Z h0 o0 "com/example/seriestrace/seriestrace/check/Rule" "name" "Ljava/lang/String;" u0) (F1 : Fld Z h0 o0 "com/example/seriestrace/seriestrace/check/Rule" "severity" "Lcom/example/seriestrace/seriestrace/check/Severity;" u1) (E1 : Exa Z h0 o0 "com/example/seriestrace/seriestrace/check/Rule") (g1 : n0 ≤ o0) :
    MetFree l (⟨"com/example/seriestrace/seriestrace/check/Rule", "<init>", "(Ljava/lang/String;Lcom/example/seriestrace/seriestrace/check/Severity;)V"⟩ : MethodName) (head1 (Jvm.Cond.code (⟨"com/example/seriestrace/seriestrace/check/Rule", "<init>", "(Ljava/lang/String;Lcom/example/seriestrace/seriestrace/check/Severity;)V"⟩ : MethodName) prog_16_method_1_code 3 none :: ws) ({ frames := 2, cells := 4, slots := 56, locals := 24 } : Room)) (fun a U => a = #[(.ref o0), (.ref o1), (.ref o2)] ∧ Z.Warmed39 U.vm ∧ U.heap = h0) (fun _ _ _ _ _ => True) (fun _ U o U' => ∃ v L, o = .returned v ∧ Q7 Z o0 o1 o2 u0 u1 h0 n0 v U'.heap L ∧ ReturnedEndW U o U' L ({ frames := 2, cells := 4, slots := 56, locals := 24 } : Room).cells ({ frames := 2, cells := 4, slots := 56, locals := 24 } : Room).slots) := by
  refine MetFree.of_bodySF (plainFor_of_name pn_4) hisR ?_
  intro p e s m args below meth c s₁ Bd hml0 hP hK
  obtain ⟨rfl, hZ, hh⟩ := hP
  have hx := Bd.exec
  have hby := Bd.bytes
  have hml : c.maxLocals = 3 := hml0
  have hown : s.vm.findClass "com/example/seriestrace/seriestrace/check/Rule" = some m.cls := findClass_of_methodNamed Bd.named
  have hnm := (name_of_methodNamed Bd.named Bd.method).1
  have X0 : Stand p l e ({ frames := 2, cells := 4, slots := 56, locals := 24 } : Room) s m #[(.ref o0), (.ref o1), (.ref o2)] below meth c s₁ [] 0 0 := Stand.of_body Bd
  have e0 : s₁.heap = h0 := by rw [← hh, Bd.state]; rfl
  have pre0 : ∀ t, Steps p.tables e below (s₁.setTop (mkF m 0 #[.val (.ref o0), .val (.ref o1), .val (.ref o2)] [])) t → Steps p.tables e below (s₁.setTop (entryFrame m #[(.ref o0), (.ref o1), (.ref o2)] 3)) t := fun t k => castTop (ef_7 m o0 o1 o2) k
  have wS : ∀ d ∈ Bundle.stringAtoms, d.before a0 Z = true := by
    intro d hd
    simp only [Bundle.stringAtoms, List.mem_cons, List.not_mem_nil, or_false] at hd
    rcases hd with rfl | rfl | rfl | rfl | rfl | rfl | rfl
    · exact (hw _ (List.mem_of_getElem? (i := 17) rfl))
    · exact (hw _ (List.mem_of_getElem? (i := 18) rfl))
    · exact (hw _ (List.mem_of_getElem? (i := 19) rfl))
    · exact (hw _ (List.mem_of_getElem? (i := 20) rfl))
    · exact (hw _ (List.mem_of_getElem? (i := 21) rfl))
    · exact (hw _ (List.mem_of_getElem? (i := 22) rfl))
    · exact (hw _ (List.mem_of_getElem? (i := 23) rfl))
  have N0 := Fr.nil n0
  have KP0 : Keep h0 h0 [o0] := Keep.refl _ _
  obtain ⟨_, _, ⟨T1, L1, k1, n1⟩, -, X1, ⟨Lc1, hQ1, l1, y1, z1⟩, st1⟩ := X0.specialBack hx (y := (⟨"java/lang/Record", "<init>", "()V"⟩ : MethodName)) rfl hown (mvT hZ (hw _ (List.mem_of_getElem? (i := 59) rfl))) (mvT hZ (hw _ (List.mem_of_getElem? (i := 31) rfl))) (mvT hZ (hw _ (List.mem_of_getElem? (i := 34) rfl))) (by decide) (backOf (W := 0) (rm5 l Z a0 hw [] o0  h0 ) hZ (hw _ (List.mem_of_getElem? (i := 34) rfl)) (hw _ (List.mem_of_getElem? (i := 33) rfl)) (by decide) (by decide)) (g := (mkF m 1 #[.val (.ref o0), .val (.ref o1), .val (.ref o2)] [(.ref o0)])) rfl (by rw [hml]; rfl) (Steps.refl _) (a := o0) (argsL := []) (rest := []) (lenOf pd_0 rfl) rfl (by show 2 * 0 + _ ≤ _; exact Nat.le_of_eq rfl) (hb hby d7_1) (fun _ _ => ⟨rfl, e0, (by decide : 0 + 0 ≤ _), (by decide : 0 + 0 ≤ _)⟩)
  dsimp only [Pt.U, Pt.locs, Pt.cells, Pt.slots] at X1 l1 y1 z1 st1 hQ1
  subst l1 y1 z1
  obtain ⟨rfl, rfl, e1⟩ := hQ1
  try rw [List.append_nil] at X1
  have K2 : ∀ t, Steps p.tables e below (T1.setTop (mkF m 5 #[.val (.ref o0), .val (.ref o1), .val (.ref o2)] [(.ref o1)])) t → Steps p.tables e below (s₁.setTop (mkF m 0 #[.val (.ref o0), .val (.ref o1), .val (.ref o2)] [])) t := by
    intro t kt
    show Steps p.tables e below (s₁.setTop (mkF m 0 #[.val (.ref o0), .val (.ref o1), .val (.ref o2)] [])) _
    refine XS.aloadN X0.here hx rfl (hb hby d7_0) rfl rfl ?_
    show Steps p.tables e below (s₁.setTop (mkF m 1 #[.val (.ref o0), .val (.ref o1), .val (.ref o2)] [(.ref o0)])) _
    refine st1.trans ?_
    show Steps p.tables e below (T1.setTop (mkF m 4 #[.val (.ref o0), .val (.ref o1), .val (.ref o2)] [])) _
    refine XS.aloadN X1.here hx rfl (hb hby d7_4) rfl rfl ?_
    exact kt
  obtain ⟨a3, T3, h3, k3, X3, e3, E3, hS3, hk3, hZ, hown, st3⟩ := ldcS (s := s) (vm0 := s.vm) X1 hx hZ hown (hw _ (List.mem_of_getElem? (i := 60) rfl)) wS e1 ((State.WarmedH.refl s).since 0) (Nat.zero_le _) (g := (mkF m 5 #[.val (.ref o0), .val (.ref o1), .val (.ref o2)] [(.ref o1)])) rfl (hb hby d7_5) (n := 16) (by decide) (by decide) (by decide) (by decide)
  have Z3 : n0 ≤ h3.size := Nat.le_trans Z0 E3.1
  have G4 : Exa Z h3 o0 "com/example/seriestrace/seriestrace/check/Rule" := E1.ext E3
  have G5 : Fld Z h3 o0 "com/example/seriestrace/seriestrace/check/Rule" "name" "Ljava/lang/String;" u0 := F0.ext E3
  have G6 : Fld Z h3 o0 "com/example/seriestrace/seriestrace/check/Rule" "severity" "Lcom/example/seriestrace/seriestrace/check/Severity;" u1 := F1.ext E3
  have KP3 : Keep h0 h3 [o0] := KP0.ext E3
  obtain ⟨_, _, ⟨T7, L7, k7, n7⟩, -, X7, ⟨Lc7, hQ7, l7, y7, z7⟩, st7⟩ := Jvm.LawKit.callS X3 hx (y := (⟨"java/util/Objects", "requireNonNull", "(Ljava/lang/Object;Ljava/lang/String;)Ljava/lang/Object;"⟩ : MethodName)) hown (mvT hZ (hw _ (List.mem_of_getElem? (i := 61) rfl))) (mvT hZ (hw _ (List.mem_of_getElem? (i := 38) rfl))) (mvT hZ (hw _ (List.mem_of_getElem? (i := 39) rfl))) (mvT hZ (hw _ (List.mem_of_getElem? (i := 40) rfl))) (by decide) (backOf (W := 0) (rm6 l Z a0 hw [] o1 a3  h3 n0 Z3 ) hZ (hw _ (List.mem_of_getElem? (i := 40) rfl)) (hw _ (List.mem_of_getElem? (i := 39) rfl)) (by decide) (by decide)) (g := (mkF m 7 #[.val (.ref o0), .val (.ref o1), .val (.ref o2)] [(.ref a3), (.ref o1)])) rfl (by rw [hml]; rfl) (argsL := [(.ref o1), (.ref a3)]) (rest := []) (lenOf pd_1 rfl) rfl (by show 2 * 0 + _ ≤ _; exact Nat.le_of_eq rfl) (hb hby d7_7) (fun _ _ => ⟨rfl, e3, (by decide : 2 + 0 ≤ _), (by decide : 20 + 0 ≤ _)⟩)
  dsimp only [Pt.U, Pt.locs, Pt.cells, Pt.slots] at X7 l7 y7 z7 st7 hQ7
  subst l7 y7 z7
  obtain ⟨rfl, rfl, e7⟩ := hQ7
  try rw [List.append_nil] at X7
  have K8 : ∀ t, Steps p.tables e below (T7.setTop (mkF m 12 #[.val (.ref o0), .val (.ref o1), .val (.ref o2)] [(.ref o2)])) t → Steps p.tables e below (s₁.setTop (mkF m 0 #[.val (.ref o0), .val (.ref o1), .val (.ref o2)] [])) t := by
    intro t kt
    refine K2 _ ?_
    show Steps p.tables e below (T1.setTop (mkF m 5 #[.val (.ref o0), .val (.ref o1), .val (.ref o2)] [(.ref o1)])) _
    refine st3 _ ?_
    show Steps p.tables e below (T3.setTop (mkF m 7 #[.val (.ref o0), .val (.ref o1), .val (.ref o2)] [(.ref a3), (.ref o1)])) _
    refine st7 _ ?_
    show Steps p.tables e below (T7.setTop (mkF m 10 #[.val (.ref o0), .val (.ref o1), .val (.ref o2)] [(.ref o1)])) _
    refine XS.pop X7.here hx rfl (hb hby d7_10) rfl rfl ?_
    show Steps p.tables e below (T7.setTop (mkF m 11 #[.val (.ref o0), .val (.ref o1), .val (.ref o2)] [])) _
    refine XS.aloadN X7.here hx rfl (hb hby d7_11) rfl rfl ?_
    exact kt
  obtain ⟨a9, T9, h9, k9, X9, e9, E9, hS9, hk9, hZ, hown, st9⟩ := ldcS (s := s) (vm0 := T3.vm) X7 hx hZ hown (hw _ (List.mem_of_getElem? (i := 62) rfl)) wS e7 hS3 hk3 (g := (mkF m 12 #[.val (.ref o0), .val (.ref o1), .val (.ref o2)] [(.ref o2)])) rfl (hb hby d7_12) (n := 32) (by decide) (by decide) (by decide) (by decide)
  have Z9 : n0 ≤ h9.size := Nat.le_trans Z3 E9.1
  have G10 : Exa Z h9 o0 "com/example/seriestrace/seriestrace/check/Rule" := G4.ext E9
  have G11 : Fld Z h9 o0 "com/example/seriestrace/seriestrace/check/Rule" "name" "Ljava/lang/String;" u0 := G5.ext E9
  have G12 : Fld Z h9 o0 "com/example/seriestrace/seriestrace/check/Rule" "severity" "Lcom/example/seriestrace/seriestrace/check/Severity;" u1 := G6.ext E9
  have KP9 : Keep h0 h9 [o0] := KP3.ext E9
  obtain ⟨_, _, ⟨T13, L13, k13, n13⟩, -, X13, ⟨Lc13, hQ13, l13, y13, z13⟩, st13⟩ := Jvm.LawKit.callS X9 hx (y := (⟨"java/util/Objects", "requireNonNull", "(Ljava/lang/Object;Ljava/lang/String;)Ljava/lang/Object;"⟩ : MethodName)) hown (mvT hZ (hw _ (List.mem_of_getElem? (i := 61) rfl))) (mvT hZ (hw _ (List.mem_of_getElem? (i := 38) rfl))) (mvT hZ (hw _ (List.mem_of_getElem? (i := 39) rfl))) (mvT hZ (hw _ (List.mem_of_getElem? (i := 40) rfl))) (by decide) (backOf (W := 0) (rm6 l Z a0 hw [] o2 a9  h9 n0 Z9 ) hZ (hw _ (List.mem_of_getElem? (i := 40) rfl)) (hw _ (List.mem_of_getElem? (i := 39) rfl)) (by decide) (by decide)) (g := (mkF m 14 #[.val (.ref o0), .val (.ref o1), .val (.ref o2)] [(.ref a9), (.ref o2)])) rfl (by rw [hml]; rfl) (argsL := [(.ref o2), (.ref a9)]) (rest := []) (lenOf pd_1 rfl) rfl (by show 2 * 0 + _ ≤ _; exact Nat.le_of_eq rfl) (hb hby d7_14) (fun _ _ => ⟨rfl, e9, (by decide : 4 + 0 ≤ _), (by decide : 56 + 0 ≤ _)⟩)
  dsimp only [Pt.U, Pt.locs, Pt.cells, Pt.slots] at X13 l13 y13 z13 st13 hQ13
  subst l13 y13 z13
  obtain ⟨rfl, rfl, e13⟩ := hQ13
  try rw [List.append_nil] at X13
  obtain ⟨T14, h14, X14, e14, W14, st14⟩ := putF X13 hx hZ hown (host := "") (Or.inl (hw _ (List.mem_of_getElem? (i := 63) rfl))) Via.refl e13 G11 G10 (Or.inr ⟨(hw _ (List.mem_of_getElem? (i := 64) rfl)), rfl, hnm⟩) (hw _ (List.mem_of_getElem? (i := 51) rfl)) (ty := (.object "java/lang/String")) (by decide) rfl rfl (g := (mkF m 20 #[.val (.ref o0), .val (.ref o1), .val (.ref o2)] [(.ref o1), (.ref o0)])) rfl rfl (hb hby d7_20)
  have G15 : Exa Z h14 o0 "com/example/seriestrace/seriestrace/check/Rule" := G10.wr W14
  have G16 : Fld Z h14 o0 "com/example/seriestrace/seriestrace/check/Rule" "name" "Ljava/lang/String;" (.ref o1) := G11.same W14
  have G17 : Fld Z h14 o0 "com/example/seriestrace/seriestrace/check/Rule" "severity" "Lcom/example/seriestrace/seriestrace/check/Severity;" u1 := G12.other W14 (Or.inr (slot_ne (Or.inr (hw _ (List.mem_of_getElem? (i := 66) rfl))) (Or.inr (hw _ (List.mem_of_getElem? (i := 64) rfl))) (by decide) (t := (.object "com/example/seriestrace/seriestrace/check/Severity")) (t' := (.object "java/lang/String")) (by decide) (by decide)))
  have KS14 := Nat.le_trans hk9 (Keep.of_wr W14).1
  have Z14 : n0 ≤ h14.size := Nat.le_trans Z9 (Keep.of_wr W14).1
  have N14 := Fr.snoc X14 N0 g1
  have KP14 : Keep h0 h14 [o0] := KP9.wr W14 (Or.inl (List.mem_of_getElem? (i := 0) rfl))
  obtain ⟨T18, h18, X18, e18, W18, st18⟩ := putF X14 hx hZ hown (host := "") (Or.inl (hw _ (List.mem_of_getElem? (i := 65) rfl))) Via.refl e14 G17 G15 (Or.inr ⟨(hw _ (List.mem_of_getElem? (i := 66) rfl)), rfl, hnm⟩) (hw _ (List.mem_of_getElem? (i := 51) rfl)) (ty := (.object "com/example/seriestrace/seriestrace/check/Severity")) (by decide) rfl rfl (g := (mkF m 25 #[.val (.ref o0), .val (.ref o1), .val (.ref o2)] [(.ref o2), (.ref o0)])) rfl rfl (hb hby d7_25)
  have G19 : Exa Z h18 o0 "com/example/seriestrace/seriestrace/check/Rule" := G15.wr W18
  have G20 : Fld Z h18 o0 "com/example/seriestrace/seriestrace/check/Rule" "name" "Ljava/lang/String;" (.ref o1) := G16.other W18 (Or.inr (slot_ne (Or.inr (hw _ (List.mem_of_getElem? (i := 64) rfl))) (Or.inr (hw _ (List.mem_of_getElem? (i := 66) rfl))) (by decide) (t := (.object "java/lang/String")) (t' := (.object "com/example/seriestrace/seriestrace/check/Severity")) (by decide) (by decide)))
  have G21 : Fld Z h18 o0 "com/example/seriestrace/seriestrace/check/Rule" "severity" "Lcom/example/seriestrace/seriestrace/check/Severity;" (.ref o2) := G17.same W18
  have KS18 := Nat.le_trans KS14 (Keep.of_wr W18).1
  have Z18 : n0 ≤ h18.size := Nat.le_trans Z14 (Keep.of_wr W18).1
  have N18 := Fr.snoc X18 N14 g1
  have KP18 : Keep h0 h18 [o0] := KP14.wr W18 (Or.inl (List.mem_of_getElem? (i := 0) rfl))
  have K22 : ∀ t, Steps p.tables e below (T18.setTop (mkF m 28 #[.val (.ref o0), .val (.ref o1), .val (.ref o2)] [])) t → Steps p.tables e below (s₁.setTop (mkF m 0 #[.val (.ref o0), .val (.ref o1), .val (.ref o2)] [])) t := by
    intro t kt
    refine K8 _ ?_
    show Steps p.tables e below (T7.setTop (mkF m 12 #[.val (.ref o0), .val (.ref o1), .val (.ref o2)] [(.ref o2)])) _
    refine st9 _ ?_
    show Steps p.tables e below (T9.setTop (mkF m 14 #[.val (.ref o0), .val (.ref o1), .val (.ref o2)] [(.ref a9), (.ref o2)])) _
    refine st13 _ ?_
    show Steps p.tables e below (T13.setTop (mkF m 17 #[.val (.ref o0), .val (.ref o1), .val (.ref o2)] [(.ref o2)])) _
    refine XS.pop X13.here hx rfl (hb hby d7_17) rfl rfl ?_
    show Steps p.tables e below (T13.setTop (mkF m 18 #[.val (.ref o0), .val (.ref o1), .val (.ref o2)] [])) _
    refine XS.aloadN X13.here hx rfl (hb hby d7_18) rfl rfl ?_
    show Steps p.tables e below (T13.setTop (mkF m 19 #[.val (.ref o0), .val (.ref o1), .val (.ref o2)] [(.ref o0)])) _
    refine XS.aloadN X13.here hx rfl (hb hby d7_19) rfl rfl ?_
    show Steps p.tables e below (T13.setTop (mkF m 20 #[.val (.ref o0), .val (.ref o1), .val (.ref o2)] [(.ref o1), (.ref o0)])) _
    refine st14 _ ?_
    show Steps p.tables e below (T14.setTop (mkF m 23 #[.val (.ref o0), .val (.ref o1), .val (.ref o2)] [])) _
    refine XS.aloadN X14.here hx rfl (hb hby d7_23) rfl rfl ?_
    show Steps p.tables e below (T14.setTop (mkF m 24 #[.val (.ref o0), .val (.ref o1), .val (.ref o2)] [(.ref o0)])) _
    refine XS.aloadN X14.here hx rfl (hb hby d7_24) rfl rfl ?_
    show Steps p.tables e below (T14.setTop (mkF m 25 #[.val (.ref o0), .val (.ref o1), .val (.ref o2)] [(.ref o2), (.ref o0)])) _
    refine st18 _ ?_
    exact kt
  obtain ⟨fsQ, hr, hrun, hended, hRW⟩ := X18.leaveW (s := s) hS9 (by rw [e18]; exact KS18) (v := none) (fun _ => rfl)
  refine ⟨_, _, pre0 _ (K22 _ ?_), hrun, hended, _, _, rfl, ?_, hRW.1, hRW.2.1, hRW.2.2.1, hRW.2.2.2.mono (by decide) (by decide)⟩
  · show Steps p.tables e below (T18.setTop (mkF m 28 #[.val (.ref o0), .val (.ref o1), .val (.ref o2)] [])) _
    exact X18.returnOut hx Bd.returns (hb hby d7_28) hr
  · show Q7 Z o0 o1 o2 u0 u1 h0 n0 _ T18.heap _
    rw [e18]
    exact ⟨rfl, N18, KP18, G21⟩
theorem ef_11 (m : MethodId) (x0 : Addr) : entryFrame m #[(.ref x0)] 1 = mkF m 0 #[.val (.ref x0)] [] := by first | (simp [entryFrame, mkF, argsToLocals, Value.category]; done) | rfl
theorem d11_0 : decode prog_16_method_6_code 0 = .ok (.aload_n 0, 1) := by decide +kernel
theorem d11_1 : decode prog_16_method_6_code 1 = .ok (.getfield 22, 3) := by decide +kernel
theorem d11_4 : decode prog_16_method_6_code 4 = .ok (.areturn, 1) := by decide +kernel
def Q11 (Z : State) (o0 : Addr) (sv : Addr) (h0 : Heap) (n0 : Nat) (v : Option Value) (h : Heap) (L : List Loc) : Prop := v = some (.ref sv) ∧ L = [] ∧ h = h0
set_option maxRecDepth 65536 in
set_option maxHeartbeats 40000000 in
theorem rm11 (l : Launch) (Z : State) (a0 : Array Value) (hw : ∀ d ∈ tables_1, d.before a0 Z = true) (ws : List Jvm.Cond) (o0 : Addr) (sv : Addr) (h0 : Heap) (n0 : Nat) (Z0 : n0 ≤ h0.size) (F1 : Fld Z h0 o0 "com/example/seriestrace/seriestrace/check/Rule" "severity" "Lcom/example/seriestrace/seriestrace/check/Severity;" (.ref sv)) :
    MetFree l (⟨"com/example/seriestrace/seriestrace/check/Rule", "severity", "()Lcom/example/seriestrace/seriestrace/check/Severity;"⟩ : MethodName) (head1 (Jvm.Cond.code (⟨"com/example/seriestrace/seriestrace/check/Rule", "severity", "()Lcom/example/seriestrace/seriestrace/check/Severity;"⟩ : MethodName) prog_16_method_6_code 1 (some (.object "com/example/seriestrace/seriestrace/check/Severity")) :: ws) ({ frames := 0, cells := 0, slots := 0, locals := 0 } : Room)) (fun a U => a = #[(.ref o0)] ∧ Z.Warmed39 U.vm ∧ U.heap = h0) (fun _ _ _ _ _ => True) (fun _ U o U' => ∃ v L, o = .returned v ∧ Q11 Z o0 sv h0 n0 v U'.heap L ∧ FrameEnd U o U' L ({ frames := 0, cells := 0, slots := 0, locals := 0 } : Room).cells ({ frames := 0, cells := 0, slots := 0, locals := 0 } : Room).slots) := by
  refine MetFree.of_bodySF (plainFor_of_name pn_4) hisR ?_
  intro p e s m args below meth c s₁ Bd hml0 hP hK
  obtain ⟨rfl, hZ, hh⟩ := hP
  have hx := Bd.exec
  have hby := Bd.bytes
  have hml : c.maxLocals = 1 := hml0
  have hown : s.vm.findClass "com/example/seriestrace/seriestrace/check/Rule" = some m.cls := findClass_of_methodNamed Bd.named
  have hnm := (name_of_methodNamed Bd.named Bd.method).1
  have X0 : Stand p l e ({ frames := 0, cells := 0, slots := 0, locals := 0 } : Room) s m #[(.ref o0)] below meth c s₁ [] 0 0 := Stand.of_body Bd
  have e0 : s₁.heap = h0 := by rw [← hh, Bd.state]; rfl
  have pre0 : ∀ t, Steps p.tables e below (s₁.setTop (mkF m 0 #[.val (.ref o0)] [])) t → Steps p.tables e below (s₁.setTop (entryFrame m #[(.ref o0)] 1)) t := fun t k => castTop (ef_11 m o0) k
  have N0 := Fr.nil n0
  obtain ⟨T1, X1, e1, st1⟩ := getF X0 hx hZ hown (host := "") (Or.inl (hw _ (List.mem_of_getElem? (i := 65) rfl))) Via.refl e0 F1 (g := (mkF m 1 #[.val (.ref o0)] [(.ref o0)])) rfl rfl (hb hby d11_1)
  have K2 : ∀ t, Steps p.tables e below (T1.setTop (mkF m 4 #[.val (.ref o0)] [(.ref sv)])) t → Steps p.tables e below (s₁.setTop (mkF m 0 #[.val (.ref o0)] [])) t := by
    intro t kt
    show Steps p.tables e below (s₁.setTop (mkF m 0 #[.val (.ref o0)] [])) _
    refine XS.aloadN X0.here hx rfl (hb hby d11_0) rfl rfl ?_
    show Steps p.tables e below (s₁.setTop (mkF m 1 #[.val (.ref o0)] [(.ref o0)])) _
    refine st1 _ ?_
    exact kt
  obtain ⟨fsQ, hr, hrun, hended, hW, hsame⟩ := X1.leave (v := some (.ref sv)) (fun h => by rw [Bd.returns] at h; cases h)
  refine ⟨_, _, pre0 _ (K2 _ ?_), hrun, hended, _, _, rfl, ?_, ⟨_, rfl⟩, hW, hsame.mono (by decide) (by decide)⟩
  · show Steps p.tables e below (T1.setTop (mkF m 4 #[.val (.ref o0)] [(.ref sv)])) _
    exact retOut X1 hx Bd.returns rfl (Or.inr (Or.inr (Or.inr (Or.inr ⟨rfl, rfl, rfl⟩)))) (hb hby d11_4) hr
  · show Q11 Z o0 sv h0 n0 _ T1.heap _
    rw [e1]
    exact ⟨rfl, rfl, rfl⟩
theorem ef_10 (m : MethodId) (x0 : Addr) : entryFrame m #[(.ref x0)] 1 = mkF m 0 #[.val (.ref x0)] [] := by first | (simp [entryFrame, mkF, argsToLocals, Value.category]; done) | rfl
theorem d10_0 : decode prog_12_method_3_code 0 = .ok (.aload_n 0, 1) := by decide +kernel
theorem d10_1 : decode prog_12_method_3_code 1 = .ok (.getfield 17, 3) := by decide +kernel
theorem d10_4 : decode prog_12_method_3_code 4 = .ok (.invokevirtual 36, 3) := by decide +kernel
theorem pd_3 : parseMethodDescriptor "()Lcom/example/seriestrace/seriestrace/check/Severity;" = some ⟨[], some (.object "com/example/seriestrace/seriestrace/check/Severity")⟩ := by decide +kernel
theorem d10_7 : decode prog_12_method_3_code 7 = .ok (.areturn, 1) := by decide +kernel
def Q10 (Z : State) (o0 : Addr) (ru : Addr) (sv : Addr) (h0 : Heap) (n0 : Nat) (v : Option Value) (h : Heap) (L : List Loc) : Prop := v = some (.ref sv) ∧ L = [] ∧ h = h0
set_option maxRecDepth 65536 in
set_option maxHeartbeats 40000000 in
theorem rm10 (l : Launch) (Z : State) (a0 : Array Value) (hw : ∀ d ∈ tables_1, d.before a0 Z = true) (ws : List Jvm.Cond) (o0 : Addr) (ru : Addr) (sv : Addr) (h0 : Heap) (n0 : Nat) (Z0 : n0 ≤ h0.size) (F0 : Fld Z h0 o0 "com/example/seriestrace/seriestrace/check/Finding" "rule" "Lcom/example/seriestrace/seriestrace/check/Rule;" (.ref ru)) (F1 : Fld Z h0 ru "com/example/seriestrace/seriestrace/check/Rule" "severity" "Lcom/example/seriestrace/seriestrace/check/Severity;" (.ref sv)) (E1 : Exa Z h0 ru "com/example/seriestrace/seriestrace/check/Rule") :
    MetFree l (⟨"com/example/seriestrace/seriestrace/check/Finding", "severity", "()Lcom/example/seriestrace/seriestrace/check/Severity;"⟩ : MethodName) (head1 (Jvm.Cond.code (⟨"com/example/seriestrace/seriestrace/check/Finding", "severity", "()Lcom/example/seriestrace/seriestrace/check/Severity;"⟩ : MethodName) prog_12_method_3_code 1 (some (.object "com/example/seriestrace/seriestrace/check/Severity")) :: ws) ({ frames := 1, cells := 0, slots := 0, locals := 12 } : Room)) (fun a U => a = #[(.ref o0)] ∧ Z.Warmed39 U.vm ∧ U.heap = h0) (fun _ _ _ _ _ => True) (fun _ U o U' => ∃ v L, o = .returned v ∧ Q10 Z o0 ru sv h0 n0 v U'.heap L ∧ FrameEnd U o U' L ({ frames := 1, cells := 0, slots := 0, locals := 12 } : Room).cells ({ frames := 1, cells := 0, slots := 0, locals := 12 } : Room).slots) := by
  refine MetFree.of_bodySF (plainFor_of_name pn_3) hisR ?_
  intro p e s m args below meth c s₁ Bd hml0 hP hK
  obtain ⟨rfl, hZ, hh⟩ := hP
  have hx := Bd.exec
  have hby := Bd.bytes
  have hml : c.maxLocals = 1 := hml0
  have hown : s.vm.findClass "com/example/seriestrace/seriestrace/check/Finding" = some m.cls := findClass_of_methodNamed Bd.named
  have hnm := (name_of_methodNamed Bd.named Bd.method).1
  have X0 : Stand p l e ({ frames := 1, cells := 0, slots := 0, locals := 12 } : Room) s m #[(.ref o0)] below meth c s₁ [] 0 0 := Stand.of_body Bd
  have e0 : s₁.heap = h0 := by rw [← hh, Bd.state]; rfl
  have pre0 : ∀ t, Steps p.tables e below (s₁.setTop (mkF m 0 #[.val (.ref o0)] [])) t → Steps p.tables e below (s₁.setTop (entryFrame m #[(.ref o0)] 1)) t := fun t k => castTop (ef_10 m o0) k
  have N0 := Fr.nil n0
  obtain ⟨T1, X1, e1, st1⟩ := getF X0 hx hZ hown (host := "") (Or.inl (hw _ (List.mem_of_getElem? (i := 42) rfl))) Via.refl e0 F0 (g := (mkF m 1 #[.val (.ref o0)] [(.ref o0)])) rfl rfl (hb hby d10_1)
  obtain ⟨cq2, kq2, q2a, q2b, q2c⟩ := isOf hZ e1 E1
  obtain ⟨_, _, ⟨T2, L2, k2, n2⟩, -, X2, ⟨Lc2, hQ2, l2, y2, z2⟩, st2⟩ := X1.virtualBack hx (y := (⟨"com/example/seriestrace/seriestrace/check/Rule", "severity", "()Lcom/example/seriestrace/seriestrace/check/Severity;"⟩ : MethodName)) (z := (⟨"com/example/seriestrace/seriestrace/check/Rule", "severity", "()Lcom/example/seriestrace/seriestrace/check/Severity;"⟩ : MethodName)) hown (mvT hZ (hw _ (List.mem_of_getElem? (i := 86) rfl))) (mvT hZ (hw _ (List.mem_of_getElem? (i := 87) rfl))) (notFace_of_selects (args := #[]) (mvT hZ (hw _ (List.mem_of_getElem? (i := 89) rfl)))) (mvT hZ (hw _ (List.mem_of_getElem? (i := 89) rfl))) (mvT hZ (hw _ (List.mem_of_getElem? (i := 88) rfl))) (by decide) (backOf (W := 0) (rm11 l Z a0 hw [] ru sv h0 n0 Z0 F1) hZ (hw _ (List.mem_of_getElem? (i := 90) rfl)) (hw _ (List.mem_of_getElem? (i := 14) rfl)) (by decide) (by decide)) q2a q2c (g := (mkF m 4 #[.val (.ref o0)] [(.ref ru)])) rfl (by rw [hml]; rfl) (Steps.refl _) (argsL := []) (rest := []) (lenOf pd_3 rfl) rfl (by show 2 * 0 + _ ≤ _; exact Nat.le_of_eq rfl) (hb hby d10_4) (fun _ _ => ⟨rfl, e1, (by decide : 0 + 0 ≤ _), (by decide : 0 + 0 ≤ _)⟩)
  dsimp only [Pt.U, Pt.locs, Pt.cells, Pt.slots] at X2 l2 y2 z2 st2 hQ2
  subst l2 y2 z2
  obtain ⟨rfl, rfl, e2⟩ := hQ2
  try rw [List.append_nil] at X2
  have K3 : ∀ t, Steps p.tables e below (T2.setTop (mkF m 7 #[.val (.ref o0)] [(.ref sv)])) t → Steps p.tables e below (s₁.setTop (mkF m 0 #[.val (.ref o0)] [])) t := by
    intro t kt
    show Steps p.tables e below (s₁.setTop (mkF m 0 #[.val (.ref o0)] [])) _
    refine XS.aloadN X0.here hx rfl (hb hby d10_0) rfl rfl ?_
    show Steps p.tables e below (s₁.setTop (mkF m 1 #[.val (.ref o0)] [(.ref o0)])) _
    refine st1 _ ?_
    show Steps p.tables e below (T1.setTop (mkF m 4 #[.val (.ref o0)] [(.ref ru)])) _
    refine st2.trans ?_
    exact kt
  obtain ⟨fsQ, hr, hrun, hended, hW, hsame⟩ := X2.leave (v := some (.ref sv)) (fun h => by rw [Bd.returns] at h; cases h)
  refine ⟨_, _, pre0 _ (K3 _ ?_), hrun, hended, _, _, rfl, ?_, ⟨_, rfl⟩, hW, hsame.mono (by decide) (by decide)⟩
  · show Steps p.tables e below (T2.setTop (mkF m 7 #[.val (.ref o0)] [(.ref sv)])) _
    exact retOut X2 hx Bd.returns rfl (Or.inr (Or.inr (Or.inr (Or.inr ⟨rfl, rfl, rfl⟩)))) (hb hby d10_7) hr
  · show Q10 Z o0 ru sv h0 n0 _ T2.heap _
    rw [e2]
    exact ⟨rfl, rfl, rfl⟩
theorem ef_8 (m : MethodId) (x0 : Addr) : entryFrame m #[(.ref x0)] 1 = mkF m 0 #[.val (.ref x0)] [] := by first | (simp [entryFrame, mkF, argsToLocals, Value.category]; done) | rfl
theorem d8_0 : decode prog_29_method_5_code 0 = .ok (.aload_n 0, 1) := by decide +kernel
theorem d8_1 : decode prog_29_method_5_code 1 = .ok (.getfield 52, 3) := by decide +kernel
theorem d8_4 : decode prog_29_method_5_code 4 = .ok (.lconst 0, 1) := by decide +kernel
theorem d8_5 : decode prog_29_method_5_code 5 = .ok (.lcmp, 1) := by decide +kernel
theorem d8_6 : decode prog_29_method_5_code 6 = .ok (.ifCond .le 5, 3) := by decide +kernel
theorem d8_9 : decode prog_29_method_5_code 9 = .ok (.iconst 2, 1) := by decide +kernel
theorem d8_10 : decode prog_29_method_5_code 10 = .ok (.ireturn, 1) := by decide +kernel
theorem d8_11 : decode prog_29_method_5_code 11 = .ok (.aload_n 0, 1) := by decide +kernel
theorem d8_12 : decode prog_29_method_5_code 12 = .ok (.getfield 67, 3) := by decide +kernel
theorem d8_15 : decode prog_29_method_5_code 15 = .ok (.lconst 0, 1) := by decide +kernel
theorem d8_16 : decode prog_29_method_5_code 16 = .ok (.lcmp, 1) := by decide +kernel
theorem d8_17 : decode prog_29_method_5_code 17 = .ok (.ifCond .le 7, 3) := by decide +kernel
theorem d8_20 : decode prog_29_method_5_code 20 = .ok (.iconst 1, 1) := by decide +kernel
theorem d8_21 : decode prog_29_method_5_code 21 = .ok (.goto 4, 3) := by decide +kernel
theorem d8_25 : decode prog_29_method_5_code 25 = .ok (.ireturn, 1) := by decide +kernel
theorem d8_24 : decode prog_29_method_5_code 24 = .ok (.iconst 0, 1) := by decide +kernel
def f8 (wu : Int64) (we : Int64) : Int32 := if (0 : Int64) < wu then (2 : Int32)
  else if (0 : Int64) < we then (1 : Int32)
  else (0 : Int32)
def Q8 (Z : State) (o0 : Addr) (wu : Int64) (we : Int64) (h0 : Heap) (v : Option Value) (h : Heap) (L : List Loc) : Prop := v = some (.int (f8 wu we)) ∧ L = [] ∧ h = h0
set_option maxRecDepth 65536 in
set_option maxHeartbeats 40000000 in
theorem rm8 (l : Launch) (Z : State) (a0 : Array Value) (hw : ∀ d ∈ tables_1, d.before a0 Z = true) (ws : List Jvm.Cond) (o0 : Addr) (wu : Int64) (we : Int64) (h0 : Heap) (F1 : Fld Z h0 o0 "com/example/seriestrace/seriestrace/cli/Summary" "unreadable" "J" (.long wu)) (F2 : Fld Z h0 o0 "com/example/seriestrace/seriestrace/cli/Summary" "errors" "J" (.long we)) :
    MetFree l (⟨"com/example/seriestrace/seriestrace/cli/Summary", "exitStatus", "()I"⟩ : MethodName) (head1 (Jvm.Cond.code (⟨"com/example/seriestrace/seriestrace/cli/Summary", "exitStatus", "()I"⟩ : MethodName) prog_29_method_5_code 1 (some .int) :: ws) ({ frames := 0, cells := 0, slots := 0, locals := 0 } : Room)) (fun a U => a = #[(.ref o0)] ∧ Z.Warmed39 U.vm ∧ U.heap = h0) (fun _ _ _ _ _ => True) (fun _ U o U' => ∃ v L, o = .returned v ∧ Q8 Z o0 wu we h0 v U'.heap L ∧ FrameEnd U o U' L ({ frames := 0, cells := 0, slots := 0, locals := 0 } : Room).cells ({ frames := 0, cells := 0, slots := 0, locals := 0 } : Room).slots) := by
  refine MetFree.of_bodySF (plainFor_of_name pn_0) hisR ?_
  intro p e s m args below meth c s₁ Bd hml0 hP hK
  obtain ⟨rfl, hZ, hh⟩ := hP
  have hx := Bd.exec
  have hby := Bd.bytes
  have hml : c.maxLocals = 1 := hml0
  have hown : s.vm.findClass "com/example/seriestrace/seriestrace/cli/Summary" = some m.cls := findClass_of_methodNamed Bd.named
  have hnm := (name_of_methodNamed Bd.named Bd.method).1
  have X0 : Stand p l e ({ frames := 0, cells := 0, slots := 0, locals := 0 } : Room) s m #[(.ref o0)] below meth c s₁ [] 0 0 := Stand.of_body Bd
  have e0 : s₁.heap = h0 := by rw [← hh, Bd.state]; rfl
  have pre0 : ∀ t, Steps p.tables e below (s₁.setTop (mkF m 0 #[.val (.ref o0)] [])) t → Steps p.tables e below (s₁.setTop (entryFrame m #[(.ref o0)] 1)) t := fun t k => castTop (ef_8 m o0) k
  obtain ⟨T1, X1, e1, st1⟩ := getF X0 hx hZ hown (host := "") (Or.inl (hw _ (List.mem_of_getElem? (i := 72) rfl))) Via.refl e0 F1 (g := (mkF m 1 #[.val (.ref o0)] [(.ref o0)])) rfl rfl (hb hby d8_1)
  have K2 : ∀ t, Steps p.tables e below (T1.setTop (mkF m 6 #[.val (.ref o0)] [(.int (lcmpW wu (0 : Int64)))])) t → Steps p.tables e below (s₁.setTop (mkF m 0 #[.val (.ref o0)] [])) t := by
    intro t kt
    show Steps p.tables e below (s₁.setTop (mkF m 0 #[.val (.ref o0)] [])) _
    refine XS.aloadN X0.here hx rfl (hb hby d8_0) rfl rfl ?_
    show Steps p.tables e below (s₁.setTop (mkF m 1 #[.val (.ref o0)] [(.ref o0)])) _
    refine st1 _ ?_
    show Steps p.tables e below (T1.setTop (mkF m 4 #[.val (.ref o0)] [(.long wu)])) _
    refine XS.lconst X1.here hx rfl (hb hby d8_4) ?_
    show Steps p.tables e below (T1.setTop (mkF m 5 #[.val (.ref o0)] [(.long (0 : Int64)), (.long wu)])) _
    refine XS.lcmp X1.here hx rfl (hb hby d8_5) rfl ?_
    exact kt
  by_cases hc3 : (0 : Int64) < wu
  · skip
    have K4 : ∀ t, Steps p.tables e below (T1.setTop (mkF m 10 #[.val (.ref o0)] [(.int (2 : Int32))])) t → Steps p.tables e below (s₁.setTop (mkF m 0 #[.val (.ref o0)] [])) t := by
      intro t kt
      refine K2 _ ?_
      show Steps p.tables e below (T1.setTop (mkF m 6 #[.val (.ref o0)] [(.int (lcmpW wu (0 : Int64)))])) _
      refine XS.ifNo X1.here hx rfl (hb hby d8_6) rfl ((if0 _ _).trans (tlt ((lw_gt _ _).mpr hc3)).2.2.2) ?_
      show Steps p.tables e below (T1.setTop (mkF m 9 #[.val (.ref o0)] [])) _
      refine XS.iconst X1.here hx rfl (hb hby d8_9) ?_
      exact kt
    have hv : f8 wu we = (2 : Int32) := by simp only [f8, if_pos hc3]
    obtain ⟨fsQ, hr, hrun, hended, hW, hsame⟩ := X1.leave (v := some (.int (2 : Int32))) (fun h => by rw [Bd.returns] at h; cases h)
    refine ⟨_, _, pre0 _ (K4 _ ?_), hrun, hended, _, _, rfl, ?_, ⟨_, rfl⟩, hW, hsame.mono (by decide) (by decide)⟩
    · show Steps p.tables e below (T1.setTop (mkF m 10 #[.val (.ref o0)] [(.int (2 : Int32))])) _
      exact retOut X1 hx Bd.returns rfl (Or.inl ⟨rfl, Or.inl rfl, _, rfl⟩) (hb hby d8_10) hr
    · show Q8 Z o0 wu we h0 _ T1.heap _
      rw [e1]
      exact ⟨by rw [hv], rfl, rfl⟩
  · skip
    obtain ⟨T5, X5, e5, st5⟩ := getF X1 hx hZ hown (host := "") (Or.inl (hw _ (List.mem_of_getElem? (i := 74) rfl))) Via.refl e1 F2 (g := (mkF m 12 #[.val (.ref o0)] [(.ref o0)])) rfl rfl (hb hby d8_12)
    have K6 : ∀ t, Steps p.tables e below (T5.setTop (mkF m 17 #[.val (.ref o0)] [(.int (lcmpW we (0 : Int64)))])) t → Steps p.tables e below (s₁.setTop (mkF m 0 #[.val (.ref o0)] [])) t := by
      intro t kt
      refine K2 _ ?_
      show Steps p.tables e below (T1.setTop (mkF m 6 #[.val (.ref o0)] [(.int (lcmpW wu (0 : Int64)))])) _
      refine XS.ifYes X1.here hx rfl (pc0 := 6) (pc' := 11) rfl (hb hby d8_6) rfl ((if0 _ _).trans (flt (mt (lw_gt _ _).mp hc3)).2.2.2) (by decide) (by decide) ?_
      show Steps p.tables e below (T1.setTop (mkF m 11 #[.val (.ref o0)] [])) _
      refine XS.aloadN X1.here hx rfl (hb hby d8_11) rfl rfl ?_
      show Steps p.tables e below (T1.setTop (mkF m 12 #[.val (.ref o0)] [(.ref o0)])) _
      refine st5 _ ?_
      show Steps p.tables e below (T5.setTop (mkF m 15 #[.val (.ref o0)] [(.long we)])) _
      refine XS.lconst X5.here hx rfl (hb hby d8_15) ?_
      show Steps p.tables e below (T5.setTop (mkF m 16 #[.val (.ref o0)] [(.long (0 : Int64)), (.long we)])) _
      refine XS.lcmp X5.here hx rfl (hb hby d8_16) rfl ?_
      exact kt
    by_cases hc7 : (0 : Int64) < we
    · skip
      have K8 : ∀ t, Steps p.tables e below (T5.setTop (mkF m 25 #[.val (.ref o0)] [(.int (1 : Int32))])) t → Steps p.tables e below (s₁.setTop (mkF m 0 #[.val (.ref o0)] [])) t := by
        intro t kt
        refine K6 _ ?_
        show Steps p.tables e below (T5.setTop (mkF m 17 #[.val (.ref o0)] [(.int (lcmpW we (0 : Int64)))])) _
        refine XS.ifNo X5.here hx rfl (hb hby d8_17) rfl ((if0 _ _).trans (tlt ((lw_gt _ _).mpr hc7)).2.2.2) ?_
        show Steps p.tables e below (T5.setTop (mkF m 20 #[.val (.ref o0)] [])) _
        refine XS.iconst X5.here hx rfl (hb hby d8_20) ?_
        show Steps p.tables e below (T5.setTop (mkF m 21 #[.val (.ref o0)] [(.int (1 : Int32))])) _
        refine XS.goto X5.here hx rfl (pc0 := 21) (pc' := 25) rfl (hb hby d8_21) (by decide) (by decide) ?_
        exact kt
      have hv : f8 wu we = (1 : Int32) := by simp only [f8, if_neg hc3, if_pos hc7]
      obtain ⟨fsQ, hr, hrun, hended, hW, hsame⟩ := X5.leave (v := some (.int (1 : Int32))) (fun h => by rw [Bd.returns] at h; cases h)
      refine ⟨_, _, pre0 _ (K8 _ ?_), hrun, hended, _, _, rfl, ?_, ⟨_, rfl⟩, hW, hsame.mono (by decide) (by decide)⟩
      · show Steps p.tables e below (T5.setTop (mkF m 25 #[.val (.ref o0)] [(.int (1 : Int32))])) _
        exact retOut X5 hx Bd.returns rfl (Or.inl ⟨rfl, Or.inl rfl, _, rfl⟩) (hb hby d8_25) hr
      · show Q8 Z o0 wu we h0 _ T5.heap _
        rw [e5]
        exact ⟨by rw [hv], rfl, rfl⟩
    · skip
      have K9 : ∀ t, Steps p.tables e below (T5.setTop (mkF m 25 #[.val (.ref o0)] [(.int (0 : Int32))])) t → Steps p.tables e below (s₁.setTop (mkF m 0 #[.val (.ref o0)] [])) t := by
        intro t kt
        refine K6 _ ?_
        show Steps p.tables e below (T5.setTop (mkF m 17 #[.val (.ref o0)] [(.int (lcmpW we (0 : Int64)))])) _
        refine XS.ifYes X5.here hx rfl (pc0 := 17) (pc' := 24) rfl (hb hby d8_17) rfl ((if0 _ _).trans (flt (mt (lw_gt _ _).mp hc7)).2.2.2) (by decide) (by decide) ?_
        show Steps p.tables e below (T5.setTop (mkF m 24 #[.val (.ref o0)] [])) _
        refine XS.iconst X5.here hx rfl (hb hby d8_24) ?_
        exact kt
      have hv : f8 wu we = (0 : Int32) := by simp only [f8, if_neg hc3, if_neg hc7]
      obtain ⟨fsQ, hr, hrun, hended, hW, hsame⟩ := X5.leave (v := some (.int (0 : Int32))) (fun h => by rw [Bd.returns] at h; cases h)
      refine ⟨_, _, pre0 _ (K9 _ ?_), hrun, hended, _, _, rfl, ?_, ⟨_, rfl⟩, hW, hsame.mono (by decide) (by decide)⟩
      · show Steps p.tables e below (T5.setTop (mkF m 25 #[.val (.ref o0)] [(.int (0 : Int32))])) _
        exact retOut X5 hx Bd.returns rfl (Or.inl ⟨rfl, Or.inl rfl, _, rfl⟩) (hb hby d8_25) hr
      · show Q8 Z o0 wu we h0 _ T5.heap _
        rw [e5]
        exact ⟨by rw [hv], rfl, rfl⟩
theorem ef_12 (m : MethodId) (x0 : Addr) : entryFrame m #[(.ref x0)] 1 = mkF m 0 #[.val (.ref x0)] [] := by first | (simp [entryFrame, mkF, argsToLocals, Value.category]; done) | rfl
theorem d12_0 : decode prog_29_method_3_code 0 = .ok (.aload_n 0, 1) := by decide +kernel
theorem d12_1 : decode prog_29_method_3_code 1 = .ok (.dup, 1) := by decide +kernel
theorem d12_2 : decode prog_29_method_3_code 2 = .ok (.getfield 52, 3) := by decide +kernel
theorem d12_5 : decode prog_29_method_3_code 5 = .ok (.lconst 1, 1) := by decide +kernel
theorem d12_6 : decode prog_29_method_3_code 6 = .ok (.ladd, 1) := by decide +kernel
theorem d12_7 : decode prog_29_method_3_code 7 = .ok (.putfield 52, 3) := by decide +kernel
theorem d12_10 : decode prog_29_method_3_code 10 = .ok (.return_, 1) := by decide +kernel
def Q12 (Z : State) (o0 : Addr) (wu : Int64) (we : Int64) (ww : Int64) (h0 : Heap) (n0 : Nat) (v : Option Value) (h : Heap) (L : List Loc) : Prop := v = none ∧ Fr n0 L ∧ Keep h0 h [o0] ∧ Fld Z h o0 "com/example/seriestrace/seriestrace/cli/Summary" "unreadable" "J" (.long (wu + (1 : Int64))) ∧ Fld Z h o0 "com/example/seriestrace/seriestrace/cli/Summary" "errors" "J" (.long we) ∧ Fld Z h o0 "com/example/seriestrace/seriestrace/cli/Summary" "warnings" "J" (.long ww)
set_option maxRecDepth 65536 in
set_option maxHeartbeats 40000000 in
theorem rm12 (l : Launch) (Z : State) (a0 : Array Value) (hw : ∀ d ∈ tables_1, d.before a0 Z = true) (ws : List Jvm.Cond) (o0 : Addr) (wu : Int64) (we : Int64) (ww : Int64) (h0 : Heap) (n0 : Nat) (Z0 : n0 ≤ h0.size) (F0 : Fld Z h0 o0 "com/example/seriestrace/seriestrace/cli/Summary" "unreadable" "J" (.long wu)) (F1 : Fld Z h0 o0 "com/example/seriestrace/seriestrace/cli/Summary" "errors" "J" (.long we)) (F2 : Fld Z h0 o0 "com/example/seriestrace/seriestrace/cli/Summary" "warnings" "J" (.long ww)) (E1 : Exa Z h0 o0 "com/example/seriestrace/seriestrace/cli/Summary") (g1 : n0 ≤ o0) :
    MetFree l (⟨"com/example/seriestrace/seriestrace/cli/Summary", "addUnreadable", "()V"⟩ : MethodName) (head1 (Jvm.Cond.code (⟨"com/example/seriestrace/seriestrace/cli/Summary", "addUnreadable", "()V"⟩ : MethodName) prog_29_method_3_code 1 none :: ws) ({ frames := 0, cells := 0, slots := 0, locals := 0 } : Room)) (fun a U => a = #[(.ref o0)] ∧ Z.Warmed39 U.vm ∧ U.heap = h0) (fun _ _ _ _ _ => True) (fun _ U o U' => ∃ v L, o = .returned v ∧ Q12 Z o0 wu we ww h0 n0 v U'.heap L ∧ FrameEnd U o U' L ({ frames := 0, cells := 0, slots := 0, locals := 0 } : Room).cells ({ frames := 0, cells := 0, slots := 0, locals := 0 } : Room).slots) := by
  refine MetFree.of_bodySF (plainFor_of_name pn_0) hisR ?_
  intro p e s m args below meth c s₁ Bd hml0 hP hK
  obtain ⟨rfl, hZ, hh⟩ := hP
  have hx := Bd.exec
  have hby := Bd.bytes
  have hml : c.maxLocals = 1 := hml0
  have hown : s.vm.findClass "com/example/seriestrace/seriestrace/cli/Summary" = some m.cls := findClass_of_methodNamed Bd.named
  have hnm := (name_of_methodNamed Bd.named Bd.method).1
  have X0 : Stand p l e ({ frames := 0, cells := 0, slots := 0, locals := 0 } : Room) s m #[(.ref o0)] below meth c s₁ [] 0 0 := Stand.of_body Bd
  have e0 : s₁.heap = h0 := by rw [← hh, Bd.state]; rfl
  have pre0 : ∀ t, Steps p.tables e below (s₁.setTop (mkF m 0 #[.val (.ref o0)] [])) t → Steps p.tables e below (s₁.setTop (entryFrame m #[(.ref o0)] 1)) t := fun t k => castTop (ef_12 m o0) k
  have N0 := Fr.nil n0
  have KP0 : Keep h0 h0 [o0] := Keep.refl _ _
  obtain ⟨T1, X1, e1, st1⟩ := getF X0 hx hZ hown (host := "") (Or.inl (hw _ (List.mem_of_getElem? (i := 72) rfl))) Via.refl e0 F0 (g := (mkF m 2 #[.val (.ref o0)] [(.ref o0), (.ref o0)])) rfl rfl (hb hby d12_2)
  obtain ⟨T2, h2, X2, e2, W2, st2⟩ := putF X1 hx hZ hown (host := "") (Or.inl (hw _ (List.mem_of_getElem? (i := 72) rfl))) Via.refl e1 F0 E1 (Or.inl (hw _ (List.mem_of_getElem? (i := 73) rfl))) (hw _ (List.mem_of_getElem? (i := 2) rfl)) (ty := .long) (by decide) rfl rfl (g := (mkF m 7 #[.val (.ref o0)] [(.long (wu + (1 : Int64))), (.ref o0)])) rfl rfl (hb hby d12_7)
  have G3 : Exa Z h2 o0 "com/example/seriestrace/seriestrace/cli/Summary" := E1.wr W2
  have G4 : Fld Z h2 o0 "com/example/seriestrace/seriestrace/cli/Summary" "unreadable" "J" (.long (wu + (1 : Int64))) := F0.same W2
  have G5 : Fld Z h2 o0 "com/example/seriestrace/seriestrace/cli/Summary" "errors" "J" (.long we) := F1.other W2 (Or.inr (slot_ne (Or.inl (hw _ (List.mem_of_getElem? (i := 75) rfl))) (Or.inl (hw _ (List.mem_of_getElem? (i := 73) rfl))) (by decide) (t := .long) (t' := .long) (by decide) (by decide)))
  have G6 : Fld Z h2 o0 "com/example/seriestrace/seriestrace/cli/Summary" "warnings" "J" (.long ww) := F2.other W2 (Or.inr (slot_ne (Or.inl (hw _ (List.mem_of_getElem? (i := 94) rfl))) (Or.inl (hw _ (List.mem_of_getElem? (i := 73) rfl))) (by decide) (t := .long) (t' := .long) (by decide) (by decide)))
  have Z2 : n0 ≤ h2.size := Nat.le_trans Z0 (Keep.of_wr W2).1
  have N2 := Fr.snoc X2 N0 g1
  have KP2 : Keep h0 h2 [o0] := KP0.wr W2 (Or.inl (List.mem_of_getElem? (i := 0) rfl))
  have K7 : ∀ t, Steps p.tables e below (T2.setTop (mkF m 10 #[.val (.ref o0)] [])) t → Steps p.tables e below (s₁.setTop (mkF m 0 #[.val (.ref o0)] [])) t := by
    intro t kt
    show Steps p.tables e below (s₁.setTop (mkF m 0 #[.val (.ref o0)] [])) _
    refine XS.aloadN X0.here hx rfl (hb hby d12_0) rfl rfl ?_
    show Steps p.tables e below (s₁.setTop (mkF m 1 #[.val (.ref o0)] [(.ref o0)])) _
    refine XS.dup X0.here hx rfl (hb hby d12_1) rfl rfl ?_
    show Steps p.tables e below (s₁.setTop (mkF m 2 #[.val (.ref o0)] [(.ref o0), (.ref o0)])) _
    refine st1 _ ?_
    show Steps p.tables e below (T1.setTop (mkF m 5 #[.val (.ref o0)] [(.long wu), (.ref o0)])) _
    refine XS.lconst X1.here hx rfl (hb hby d12_5) ?_
    show Steps p.tables e below (T1.setTop (mkF m 6 #[.val (.ref o0)] [(.long (1 : Int64)), (.long wu), (.ref o0)])) _
    refine XS.ladd X1.here hx rfl (hb hby d12_6) rfl ?_
    show Steps p.tables e below (T1.setTop (mkF m 7 #[.val (.ref o0)] [(.long (wu + (1 : Int64))), (.ref o0)])) _
    refine st2 _ ?_
    exact kt
  obtain ⟨fsQ, hr, hrun, hended, hW, hsame⟩ := X2.leave (v := none) (fun _ => rfl)
  refine ⟨_, _, pre0 _ (K7 _ ?_), hrun, hended, _, _, rfl, ?_, ⟨_, rfl⟩, hW, hsame.mono (by decide) (by decide)⟩
  · show Steps p.tables e below (T2.setTop (mkF m 10 #[.val (.ref o0)] [])) _
    exact X2.returnOut hx Bd.returns (hb hby d12_10) hr
  · show Q12 Z o0 wu we ww h0 n0 _ T2.heap _
    rw [e2]
    exact ⟨rfl, N2, KP2, G4, G5, G6⟩
theorem ef_9 (m : MethodId) (x0 : Addr) (x1 : Addr) : entryFrame m #[(.ref x0), (.ref x1)] 2 = mkF m 0 #[.val (.ref x0), .val (.ref x1)] [] := by first | (simp [entryFrame, mkF, argsToLocals, Value.category]; done) | rfl
theorem d9_0 : decode prog_29_method_4_code 0 = .ok (.aload_n 1, 1) := by decide +kernel
theorem d9_1 : decode prog_29_method_4_code 1 = .ok (.invokevirtual 55, 3) := by decide +kernel
theorem d9_4 : decode prog_29_method_4_code 4 = .ok (.getstatic 61, 3) := by decide +kernel
theorem d9_7 : decode prog_29_method_4_code 7 = .ok (.if_acmp .ne 16, 3) := by decide +kernel
theorem d9_10 : decode prog_29_method_4_code 10 = .ok (.aload_n 0, 1) := by decide +kernel
theorem d9_11 : decode prog_29_method_4_code 11 = .ok (.dup, 1) := by decide +kernel
theorem d9_12 : decode prog_29_method_4_code 12 = .ok (.getfield 67, 3) := by decide +kernel
theorem d9_15 : decode prog_29_method_4_code 15 = .ok (.lconst 1, 1) := by decide +kernel
theorem d9_16 : decode prog_29_method_4_code 16 = .ok (.ladd, 1) := by decide +kernel
theorem d9_17 : decode prog_29_method_4_code 17 = .ok (.putfield 67, 3) := by decide +kernel
theorem d9_20 : decode prog_29_method_4_code 20 = .ok (.goto 13, 3) := by decide +kernel
theorem d9_33 : decode prog_29_method_4_code 33 = .ok (.return_, 1) := by decide +kernel
def Q9e (Z : State) (o0 : Addr) (o1 : Addr) (wu : Int64) (we : Int64) (ww : Int64) (ru : Addr) (sv : Addr) (er : Addr) (h0 : Heap) (n0 : Nat) (v : Option Value) (h : Heap) (L : List Loc) : Prop := v = none ∧ Fr n0 L ∧ Keep h0 h [o0] ∧ Fld Z h o0 "com/example/seriestrace/seriestrace/cli/Summary" "unreadable" "J" (.long wu) ∧ Fld Z h o0 "com/example/seriestrace/seriestrace/cli/Summary" "errors" "J" (.long (we + (1 : Int64))) ∧ Fld Z h o0 "com/example/seriestrace/seriestrace/cli/Summary" "warnings" "J" (.long ww)
set_option maxRecDepth 65536 in
set_option maxHeartbeats 40000000 in
theorem rm9e (l : Launch) (Z : State) (a0 : Array Value) (hw : ∀ d ∈ tables_1, d.before a0 Z = true) (ws : List Jvm.Cond) (o0 : Addr) (o1 : Addr) (wu : Int64) (we : Int64) (ww : Int64) (ru : Addr) (sv : Addr) (er : Addr) (h0 : Heap) (n0 : Nat) (Z0 : n0 ≤ h0.size) (F0 : Fld Z h0 o0 "com/example/seriestrace/seriestrace/cli/Summary" "unreadable" "J" (.long wu)) (F1 : Fld Z h0 o0 "com/example/seriestrace/seriestrace/cli/Summary" "errors" "J" (.long we)) (F2 : Fld Z h0 o0 "com/example/seriestrace/seriestrace/cli/Summary" "warnings" "J" (.long ww)) (E1 : Exa Z h0 o0 "com/example/seriestrace/seriestrace/cli/Summary") (g1 : n0 ≤ o0) (G0 : Fld Z h0 o1 "com/example/seriestrace/seriestrace/check/Finding" "rule" "Lcom/example/seriestrace/seriestrace/check/Rule;" (.ref ru)) (G1 : Fld Z h0 ru "com/example/seriestrace/seriestrace/check/Rule" "severity" "Lcom/example/seriestrace/seriestrace/check/Severity;" (.ref sv)) (E2 : Exa Z h0 o1 "com/example/seriestrace/seriestrace/check/Finding") (E3 : Exa Z h0 ru "com/example/seriestrace/seriestrace/check/Rule") (S1 : Sta Z h0 "com/example/seriestrace/seriestrace/check/Severity" "ERROR" "Lcom/example/seriestrace/seriestrace/check/Severity;" (.ref er)) (y1 : o0 ≠ o1) (y2 : o0 ≠ ru) (hse : sv = er) :
    MetFree l (⟨"com/example/seriestrace/seriestrace/cli/Summary", "addFinding", "(Lcom/example/seriestrace/seriestrace/check/Finding;)V"⟩ : MethodName) (head1 (Jvm.Cond.code (⟨"com/example/seriestrace/seriestrace/cli/Summary", "addFinding", "(Lcom/example/seriestrace/seriestrace/check/Finding;)V"⟩ : MethodName) prog_29_method_4_code 2 none :: ws) ({ frames := 2, cells := 0, slots := 0, locals := 24 } : Room)) (fun a U => a = #[(.ref o0), (.ref o1)] ∧ Z.Warmed39 U.vm ∧ U.heap = h0) (fun _ _ _ _ _ => True) (fun _ U o U' => ∃ v L, o = .returned v ∧ Q9e Z o0 o1 wu we ww ru sv er h0 n0 v U'.heap L ∧ FrameEnd U o U' L ({ frames := 2, cells := 0, slots := 0, locals := 24 } : Room).cells ({ frames := 2, cells := 0, slots := 0, locals := 24 } : Room).slots) := by
  refine MetFree.of_bodySF (plainFor_of_name pn_0) hisR ?_
  intro p e s m args below meth c s₁ Bd hml0 hP hK
  obtain ⟨rfl, hZ, hh⟩ := hP
  have hx := Bd.exec
  have hby := Bd.bytes
  have hml : c.maxLocals = 2 := hml0
  have hown : s.vm.findClass "com/example/seriestrace/seriestrace/cli/Summary" = some m.cls := findClass_of_methodNamed Bd.named
  have hnm := (name_of_methodNamed Bd.named Bd.method).1
  have X0 : Stand p l e ({ frames := 2, cells := 0, slots := 0, locals := 24 } : Room) s m #[(.ref o0), (.ref o1)] below meth c s₁ [] 0 0 := Stand.of_body Bd
  have e0 : s₁.heap = h0 := by rw [← hh, Bd.state]; rfl
  have pre0 : ∀ t, Steps p.tables e below (s₁.setTop (mkF m 0 #[.val (.ref o0), .val (.ref o1)] [])) t → Steps p.tables e below (s₁.setTop (entryFrame m #[(.ref o0), (.ref o1)] 2)) t := fun t k => castTop (ef_9 m o0 o1) k
  have N0 := Fr.nil n0
  have KP0 : Keep h0 h0 [o0] := Keep.refl _ _
  obtain ⟨cq1, kq1, q1a, q1b, q1c⟩ := isOf hZ e0 E2
  obtain ⟨_, _, ⟨T1, L1, k1, n1⟩, -, X1, ⟨Lc1, hQ1, l1, y1, z1⟩, st1⟩ := X0.virtualBack hx (y := (⟨"com/example/seriestrace/seriestrace/check/Finding", "severity", "()Lcom/example/seriestrace/seriestrace/check/Severity;"⟩ : MethodName)) (z := (⟨"com/example/seriestrace/seriestrace/check/Finding", "severity", "()Lcom/example/seriestrace/seriestrace/check/Severity;"⟩ : MethodName)) hown (mvT hZ (hw _ (List.mem_of_getElem? (i := 81) rfl))) (mvT hZ (hw _ (List.mem_of_getElem? (i := 82) rfl))) (notFace_of_selects (args := #[]) (mvT hZ (hw _ (List.mem_of_getElem? (i := 84) rfl)))) (mvT hZ (hw _ (List.mem_of_getElem? (i := 84) rfl))) (mvT hZ (hw _ (List.mem_of_getElem? (i := 83) rfl))) (by decide) (backOf (W := 0) (rm10 l Z a0 hw [] o1 ru sv h0 n0 Z0 G0 G1 E3) hZ (hw _ (List.mem_of_getElem? (i := 85) rfl)) (hw _ (List.mem_of_getElem? (i := 12) rfl)) (by decide) (by decide)) q1a q1c (g := (mkF m 1 #[.val (.ref o0), .val (.ref o1)] [(.ref o1)])) rfl (by rw [hml]; rfl) (Steps.refl _) (argsL := []) (rest := []) (lenOf pd_3 rfl) rfl (by show 2 * 0 + _ ≤ _; exact Nat.le_of_eq rfl) (hb hby d9_1) (fun _ _ => ⟨rfl, e0, (by decide : 0 + 0 ≤ _), (by decide : 0 + 0 ≤ _)⟩)
  dsimp only [Pt.U, Pt.locs, Pt.cells, Pt.slots] at X1 l1 y1 z1 st1 hQ1
  subst l1 y1 z1
  obtain ⟨rfl, rfl, e1⟩ := hQ1
  try rw [List.append_nil] at X1
  obtain ⟨T2, X2, e2, st2⟩ := getS2 X1 hx hZ hown (host := "") (Or.inl (hw _ (List.mem_of_getElem? (i := 91) rfl))) Via.refl e1 S1 (g := (mkF m 4 #[.val (.ref o0), .val (.ref o1)] [(.ref sv)])) rfl (hb hby d9_4)
  obtain ⟨T3, X3, e3, st3⟩ := getF X2 hx hZ hown (host := "") (Or.inl (hw _ (List.mem_of_getElem? (i := 74) rfl))) Via.refl e2 F1 (g := (mkF m 12 #[.val (.ref o0), .val (.ref o1)] [(.ref o0), (.ref o0)])) rfl rfl (hb hby d9_12)
  obtain ⟨T4, h4, X4, e4, W4, st4⟩ := putF X3 hx hZ hown (host := "") (Or.inl (hw _ (List.mem_of_getElem? (i := 74) rfl))) Via.refl e3 F1 E1 (Or.inl (hw _ (List.mem_of_getElem? (i := 75) rfl))) (hw _ (List.mem_of_getElem? (i := 2) rfl)) (ty := .long) (by decide) rfl rfl (g := (mkF m 17 #[.val (.ref o0), .val (.ref o1)] [(.long (we + (1 : Int64))), (.ref o0)])) rfl rfl (hb hby d9_17)
  have G5 : Exa Z h4 o0 "com/example/seriestrace/seriestrace/cli/Summary" := E1.wr W4
  have G6 : Fld Z h4 o0 "com/example/seriestrace/seriestrace/cli/Summary" "unreadable" "J" (.long wu) := F0.other W4 (Or.inr (slot_ne (Or.inl (hw _ (List.mem_of_getElem? (i := 73) rfl))) (Or.inl (hw _ (List.mem_of_getElem? (i := 75) rfl))) (by decide) (t := .long) (t' := .long) (by decide) (by decide)))
  have G7 : Fld Z h4 o0 "com/example/seriestrace/seriestrace/cli/Summary" "errors" "J" (.long (we + (1 : Int64))) := F1.same W4
  have G8 : Fld Z h4 o0 "com/example/seriestrace/seriestrace/cli/Summary" "warnings" "J" (.long ww) := F2.other W4 (Or.inr (slot_ne (Or.inl (hw _ (List.mem_of_getElem? (i := 94) rfl))) (Or.inl (hw _ (List.mem_of_getElem? (i := 75) rfl))) (by decide) (t := .long) (t' := .long) (by decide) (by decide)))
  have G9 : Exa Z h4 o1 "com/example/seriestrace/seriestrace/check/Finding" := E2.wr W4
  have G10 : Fld Z h4 o1 "com/example/seriestrace/seriestrace/check/Finding" "rule" "Lcom/example/seriestrace/seriestrace/check/Rule;" (.ref ru) := G0.other W4 (Or.inl y1.symm)
  have G11 : Exa Z h4 ru "com/example/seriestrace/seriestrace/check/Rule" := E3.wr W4
  have G12 : Fld Z h4 ru "com/example/seriestrace/seriestrace/check/Rule" "severity" "Lcom/example/seriestrace/seriestrace/check/Severity;" (.ref sv) := G1.other W4 (Or.inl y2.symm)
  have Z4 : n0 ≤ h4.size := Nat.le_trans Z0 (Keep.of_wr W4).1
  have N4 := Fr.snoc X4 N0 g1
  have KP4 : Keep h0 h4 [o0] := KP0.wr W4 (Or.inl (List.mem_of_getElem? (i := 0) rfl))
  have K13 : ∀ t, Steps p.tables e below (T4.setTop (mkF m 33 #[.val (.ref o0), .val (.ref o1)] [])) t → Steps p.tables e below (s₁.setTop (mkF m 0 #[.val (.ref o0), .val (.ref o1)] [])) t := by
    intro t kt
    show Steps p.tables e below (s₁.setTop (mkF m 0 #[.val (.ref o0), .val (.ref o1)] [])) _
    refine XS.aloadN X0.here hx rfl (hb hby d9_0) rfl rfl ?_
    show Steps p.tables e below (s₁.setTop (mkF m 1 #[.val (.ref o0), .val (.ref o1)] [(.ref o1)])) _
    refine st1.trans ?_
    show Steps p.tables e below (T1.setTop (mkF m 4 #[.val (.ref o0), .val (.ref o1)] [(.ref sv)])) _
    refine st2 _ ?_
    show Steps p.tables e below (T2.setTop (mkF m 7 #[.val (.ref o0), .val (.ref o1)] [(.ref er), (.ref sv)])) _
    refine Jvm.RoadKit.acmp (g := (mkF m 7 #[.val (.ref o0), .val (.ref o1)] [(.ref er), (.ref sv)])) X2 hx rfl rfl rfl (pc0 := 7) (pc' := 10) (same := true) rfl (hb hby d9_7) rfl (decide_eq_true (congrArg Value.ref hse)) (by decide) (by decide) ?_
    show Steps p.tables e below (T2.setTop (mkF m 10 #[.val (.ref o0), .val (.ref o1)] [])) _
    refine XS.aloadN X2.here hx rfl (hb hby d9_10) rfl rfl ?_
    show Steps p.tables e below (T2.setTop (mkF m 11 #[.val (.ref o0), .val (.ref o1)] [(.ref o0)])) _
    refine XS.dup X2.here hx rfl (hb hby d9_11) rfl rfl ?_
    show Steps p.tables e below (T2.setTop (mkF m 12 #[.val (.ref o0), .val (.ref o1)] [(.ref o0), (.ref o0)])) _
    refine st3 _ ?_
    show Steps p.tables e below (T3.setTop (mkF m 15 #[.val (.ref o0), .val (.ref o1)] [(.long we), (.ref o0)])) _
    refine XS.lconst X3.here hx rfl (hb hby d9_15) ?_
    show Steps p.tables e below (T3.setTop (mkF m 16 #[.val (.ref o0), .val (.ref o1)] [(.long (1 : Int64)), (.long we), (.ref o0)])) _
    refine XS.ladd X3.here hx rfl (hb hby d9_16) rfl ?_
    show Steps p.tables e below (T3.setTop (mkF m 17 #[.val (.ref o0), .val (.ref o1)] [(.long (we + (1 : Int64))), (.ref o0)])) _
    refine st4 _ ?_
    show Steps p.tables e below (T4.setTop (mkF m 20 #[.val (.ref o0), .val (.ref o1)] [])) _
    refine XS.goto X4.here hx rfl (pc0 := 20) (pc' := 33) rfl (hb hby d9_20) (by decide) (by decide) ?_
    exact kt
  obtain ⟨fsQ, hr, hrun, hended, hW, hsame⟩ := X4.leave (v := none) (fun _ => rfl)
  refine ⟨_, _, pre0 _ (K13 _ ?_), hrun, hended, _, _, rfl, ?_, ⟨_, rfl⟩, hW, hsame.mono (by decide) (by decide)⟩
  · show Steps p.tables e below (T4.setTop (mkF m 33 #[.val (.ref o0), .val (.ref o1)] [])) _
    exact X4.returnOut hx Bd.returns (hb hby d9_33) hr
  · show Q9e Z o0 o1 wu we ww ru sv er h0 n0 _ T4.heap _
    rw [e4]
    exact ⟨rfl, N4, KP4, G6, G7, G8⟩
theorem d9_23 : decode prog_29_method_4_code 23 = .ok (.aload_n 0, 1) := by decide +kernel
theorem d9_24 : decode prog_29_method_4_code 24 = .ok (.dup, 1) := by decide +kernel
theorem d9_25 : decode prog_29_method_4_code 25 = .ok (.getfield 70, 3) := by decide +kernel
theorem d9_28 : decode prog_29_method_4_code 28 = .ok (.lconst 1, 1) := by decide +kernel
theorem d9_29 : decode prog_29_method_4_code 29 = .ok (.ladd, 1) := by decide +kernel
theorem d9_30 : decode prog_29_method_4_code 30 = .ok (.putfield 70, 3) := by decide +kernel
def Q9w (Z : State) (o0 : Addr) (o1 : Addr) (wu : Int64) (we : Int64) (ww : Int64) (ru : Addr) (sv : Addr) (er : Addr) (h0 : Heap) (n0 : Nat) (v : Option Value) (h : Heap) (L : List Loc) : Prop := v = none ∧ Fr n0 L ∧ Keep h0 h [o0] ∧ Fld Z h o0 "com/example/seriestrace/seriestrace/cli/Summary" "unreadable" "J" (.long wu) ∧ Fld Z h o0 "com/example/seriestrace/seriestrace/cli/Summary" "errors" "J" (.long we) ∧ Fld Z h o0 "com/example/seriestrace/seriestrace/cli/Summary" "warnings" "J" (.long (ww + (1 : Int64)))
set_option maxRecDepth 65536 in
set_option maxHeartbeats 40000000 in
theorem rm9w (l : Launch) (Z : State) (a0 : Array Value) (hw : ∀ d ∈ tables_1, d.before a0 Z = true) (ws : List Jvm.Cond) (o0 : Addr) (o1 : Addr) (wu : Int64) (we : Int64) (ww : Int64) (ru : Addr) (sv : Addr) (er : Addr) (h0 : Heap) (n0 : Nat) (Z0 : n0 ≤ h0.size) (F0 : Fld Z h0 o0 "com/example/seriestrace/seriestrace/cli/Summary" "unreadable" "J" (.long wu)) (F1 : Fld Z h0 o0 "com/example/seriestrace/seriestrace/cli/Summary" "errors" "J" (.long we)) (F2 : Fld Z h0 o0 "com/example/seriestrace/seriestrace/cli/Summary" "warnings" "J" (.long ww)) (E1 : Exa Z h0 o0 "com/example/seriestrace/seriestrace/cli/Summary") (g1 : n0 ≤ o0) (G0 : Fld Z h0 o1 "com/example/seriestrace/seriestrace/check/Finding" "rule" "Lcom/example/seriestrace/seriestrace/check/Rule;" (.ref ru)) (G1 : Fld Z h0 ru "com/example/seriestrace/seriestrace/check/Rule" "severity" "Lcom/example/seriestrace/seriestrace/check/Severity;" (.ref sv)) (E2 : Exa Z h0 o1 "com/example/seriestrace/seriestrace/check/Finding") (E3 : Exa Z h0 ru "com/example/seriestrace/seriestrace/check/Rule") (S1 : Sta Z h0 "com/example/seriestrace/seriestrace/check/Severity" "ERROR" "Lcom/example/seriestrace/seriestrace/check/Severity;" (.ref er)) (y1 : o0 ≠ o1) (y2 : o0 ≠ ru) (hse : ¬ sv = er) :
    MetFree l (⟨"com/example/seriestrace/seriestrace/cli/Summary", "addFinding", "(Lcom/example/seriestrace/seriestrace/check/Finding;)V"⟩ : MethodName) (head1 (Jvm.Cond.code (⟨"com/example/seriestrace/seriestrace/cli/Summary", "addFinding", "(Lcom/example/seriestrace/seriestrace/check/Finding;)V"⟩ : MethodName) prog_29_method_4_code 2 none :: ws) ({ frames := 2, cells := 0, slots := 0, locals := 24 } : Room)) (fun a U => a = #[(.ref o0), (.ref o1)] ∧ Z.Warmed39 U.vm ∧ U.heap = h0) (fun _ _ _ _ _ => True) (fun _ U o U' => ∃ v L, o = .returned v ∧ Q9w Z o0 o1 wu we ww ru sv er h0 n0 v U'.heap L ∧ FrameEnd U o U' L ({ frames := 2, cells := 0, slots := 0, locals := 24 } : Room).cells ({ frames := 2, cells := 0, slots := 0, locals := 24 } : Room).slots) := by
  refine MetFree.of_bodySF (plainFor_of_name pn_0) hisR ?_
  intro p e s m args below meth c s₁ Bd hml0 hP hK
  obtain ⟨rfl, hZ, hh⟩ := hP
  have hx := Bd.exec
  have hby := Bd.bytes
  have hml : c.maxLocals = 2 := hml0
  have hown : s.vm.findClass "com/example/seriestrace/seriestrace/cli/Summary" = some m.cls := findClass_of_methodNamed Bd.named
  have hnm := (name_of_methodNamed Bd.named Bd.method).1
  have X0 : Stand p l e ({ frames := 2, cells := 0, slots := 0, locals := 24 } : Room) s m #[(.ref o0), (.ref o1)] below meth c s₁ [] 0 0 := Stand.of_body Bd
  have e0 : s₁.heap = h0 := by rw [← hh, Bd.state]; rfl
  have pre0 : ∀ t, Steps p.tables e below (s₁.setTop (mkF m 0 #[.val (.ref o0), .val (.ref o1)] [])) t → Steps p.tables e below (s₁.setTop (entryFrame m #[(.ref o0), (.ref o1)] 2)) t := fun t k => castTop (ef_9 m o0 o1) k
  have N0 := Fr.nil n0
  have KP0 : Keep h0 h0 [o0] := Keep.refl _ _
  obtain ⟨cq1, kq1, q1a, q1b, q1c⟩ := isOf hZ e0 E2
  obtain ⟨_, _, ⟨T1, L1, k1, n1⟩, -, X1, ⟨Lc1, hQ1, l1, y1, z1⟩, st1⟩ := X0.virtualBack hx (y := (⟨"com/example/seriestrace/seriestrace/check/Finding", "severity", "()Lcom/example/seriestrace/seriestrace/check/Severity;"⟩ : MethodName)) (z := (⟨"com/example/seriestrace/seriestrace/check/Finding", "severity", "()Lcom/example/seriestrace/seriestrace/check/Severity;"⟩ : MethodName)) hown (mvT hZ (hw _ (List.mem_of_getElem? (i := 81) rfl))) (mvT hZ (hw _ (List.mem_of_getElem? (i := 82) rfl))) (notFace_of_selects (args := #[]) (mvT hZ (hw _ (List.mem_of_getElem? (i := 84) rfl)))) (mvT hZ (hw _ (List.mem_of_getElem? (i := 84) rfl))) (mvT hZ (hw _ (List.mem_of_getElem? (i := 83) rfl))) (by decide) (backOf (W := 0) (rm10 l Z a0 hw [] o1 ru sv h0 n0 Z0 G0 G1 E3) hZ (hw _ (List.mem_of_getElem? (i := 85) rfl)) (hw _ (List.mem_of_getElem? (i := 12) rfl)) (by decide) (by decide)) q1a q1c (g := (mkF m 1 #[.val (.ref o0), .val (.ref o1)] [(.ref o1)])) rfl (by rw [hml]; rfl) (Steps.refl _) (argsL := []) (rest := []) (lenOf pd_3 rfl) rfl (by show 2 * 0 + _ ≤ _; exact Nat.le_of_eq rfl) (hb hby d9_1) (fun _ _ => ⟨rfl, e0, (by decide : 0 + 0 ≤ _), (by decide : 0 + 0 ≤ _)⟩)
  dsimp only [Pt.U, Pt.locs, Pt.cells, Pt.slots] at X1 l1 y1 z1 st1 hQ1
  subst l1 y1 z1
  obtain ⟨rfl, rfl, e1⟩ := hQ1
  try rw [List.append_nil] at X1
  obtain ⟨T2, X2, e2, st2⟩ := getS2 X1 hx hZ hown (host := "") (Or.inl (hw _ (List.mem_of_getElem? (i := 91) rfl))) Via.refl e1 S1 (g := (mkF m 4 #[.val (.ref o0), .val (.ref o1)] [(.ref sv)])) rfl (hb hby d9_4)
  obtain ⟨T3, X3, e3, st3⟩ := getF X2 hx hZ hown (host := "") (Or.inl (hw _ (List.mem_of_getElem? (i := 93) rfl))) Via.refl e2 F2 (g := (mkF m 25 #[.val (.ref o0), .val (.ref o1)] [(.ref o0), (.ref o0)])) rfl rfl (hb hby d9_25)
  obtain ⟨T4, h4, X4, e4, W4, st4⟩ := putF X3 hx hZ hown (host := "") (Or.inl (hw _ (List.mem_of_getElem? (i := 93) rfl))) Via.refl e3 F2 E1 (Or.inl (hw _ (List.mem_of_getElem? (i := 94) rfl))) (hw _ (List.mem_of_getElem? (i := 2) rfl)) (ty := .long) (by decide) rfl rfl (g := (mkF m 30 #[.val (.ref o0), .val (.ref o1)] [(.long (ww + (1 : Int64))), (.ref o0)])) rfl rfl (hb hby d9_30)
  have G5 : Exa Z h4 o0 "com/example/seriestrace/seriestrace/cli/Summary" := E1.wr W4
  have G6 : Fld Z h4 o0 "com/example/seriestrace/seriestrace/cli/Summary" "unreadable" "J" (.long wu) := F0.other W4 (Or.inr (slot_ne (Or.inl (hw _ (List.mem_of_getElem? (i := 73) rfl))) (Or.inl (hw _ (List.mem_of_getElem? (i := 94) rfl))) (by decide) (t := .long) (t' := .long) (by decide) (by decide)))
  have G7 : Fld Z h4 o0 "com/example/seriestrace/seriestrace/cli/Summary" "errors" "J" (.long we) := F1.other W4 (Or.inr (slot_ne (Or.inl (hw _ (List.mem_of_getElem? (i := 75) rfl))) (Or.inl (hw _ (List.mem_of_getElem? (i := 94) rfl))) (by decide) (t := .long) (t' := .long) (by decide) (by decide)))
  have G8 : Fld Z h4 o0 "com/example/seriestrace/seriestrace/cli/Summary" "warnings" "J" (.long (ww + (1 : Int64))) := F2.same W4
  have G9 : Exa Z h4 o1 "com/example/seriestrace/seriestrace/check/Finding" := E2.wr W4
  have G10 : Fld Z h4 o1 "com/example/seriestrace/seriestrace/check/Finding" "rule" "Lcom/example/seriestrace/seriestrace/check/Rule;" (.ref ru) := G0.other W4 (Or.inl y1.symm)
  have G11 : Exa Z h4 ru "com/example/seriestrace/seriestrace/check/Rule" := E3.wr W4
  have G12 : Fld Z h4 ru "com/example/seriestrace/seriestrace/check/Rule" "severity" "Lcom/example/seriestrace/seriestrace/check/Severity;" (.ref sv) := G1.other W4 (Or.inl y2.symm)
  have Z4 : n0 ≤ h4.size := Nat.le_trans Z0 (Keep.of_wr W4).1
  have N4 := Fr.snoc X4 N0 g1
  have KP4 : Keep h0 h4 [o0] := KP0.wr W4 (Or.inl (List.mem_of_getElem? (i := 0) rfl))
  have K13 : ∀ t, Steps p.tables e below (T4.setTop (mkF m 33 #[.val (.ref o0), .val (.ref o1)] [])) t → Steps p.tables e below (s₁.setTop (mkF m 0 #[.val (.ref o0), .val (.ref o1)] [])) t := by
    intro t kt
    show Steps p.tables e below (s₁.setTop (mkF m 0 #[.val (.ref o0), .val (.ref o1)] [])) _
    refine XS.aloadN X0.here hx rfl (hb hby d9_0) rfl rfl ?_
    show Steps p.tables e below (s₁.setTop (mkF m 1 #[.val (.ref o0), .val (.ref o1)] [(.ref o1)])) _
    refine st1.trans ?_
    show Steps p.tables e below (T1.setTop (mkF m 4 #[.val (.ref o0), .val (.ref o1)] [(.ref sv)])) _
    refine st2 _ ?_
    show Steps p.tables e below (T2.setTop (mkF m 7 #[.val (.ref o0), .val (.ref o1)] [(.ref er), (.ref sv)])) _
    refine Jvm.RoadKit.acmp (g := (mkF m 7 #[.val (.ref o0), .val (.ref o1)] [(.ref er), (.ref sv)])) X2 hx rfl rfl rfl (pc0 := 7) (pc' := 23) (same := false) rfl (hb hby d9_7) rfl (decide_eq_false fun q => hse (Value.ref.inj q)) (by decide) (by decide) ?_
    show Steps p.tables e below (T2.setTop (mkF m 23 #[.val (.ref o0), .val (.ref o1)] [])) _
    refine XS.aloadN X2.here hx rfl (hb hby d9_23) rfl rfl ?_
    show Steps p.tables e below (T2.setTop (mkF m 24 #[.val (.ref o0), .val (.ref o1)] [(.ref o0)])) _
    refine XS.dup X2.here hx rfl (hb hby d9_24) rfl rfl ?_
    show Steps p.tables e below (T2.setTop (mkF m 25 #[.val (.ref o0), .val (.ref o1)] [(.ref o0), (.ref o0)])) _
    refine st3 _ ?_
    show Steps p.tables e below (T3.setTop (mkF m 28 #[.val (.ref o0), .val (.ref o1)] [(.long ww), (.ref o0)])) _
    refine XS.lconst X3.here hx rfl (hb hby d9_28) ?_
    show Steps p.tables e below (T3.setTop (mkF m 29 #[.val (.ref o0), .val (.ref o1)] [(.long (1 : Int64)), (.long ww), (.ref o0)])) _
    refine XS.ladd X3.here hx rfl (hb hby d9_29) rfl ?_
    show Steps p.tables e below (T3.setTop (mkF m 30 #[.val (.ref o0), .val (.ref o1)] [(.long (ww + (1 : Int64))), (.ref o0)])) _
    refine st4 _ ?_
    exact kt
  obtain ⟨fsQ, hr, hrun, hended, hW, hsame⟩ := X4.leave (v := none) (fun _ => rfl)
  refine ⟨_, _, pre0 _ (K13 _ ?_), hrun, hended, _, _, rfl, ?_, ⟨_, rfl⟩, hW, hsame.mono (by decide) (by decide)⟩
  · show Steps p.tables e below (T4.setTop (mkF m 33 #[.val (.ref o0), .val (.ref o1)] [])) _
    exact X4.returnOut hx Bd.returns (hb hby d9_33) hr
  · show Q9w Z o0 o1 wu we ww ru sv er h0 n0 _ T4.heap _
    rw [e4]
    exact ⟨rfl, N4, KP4, G6, G7, G8⟩
theorem ef_0 (m : MethodId) (x0 : Int32) (x1 : Int32) (x2 : Int32) : entryFrame m #[(.int x0), (.int x1), (.int x2)] maxLocals = mkF m 0 #[.val (.int x0), .val (.int x1), .val (.int x2), .unset, .unset, .unset, .unset, .unset, .unset, .unset] [] := by first | (simp [entryFrame, mkF, argsToLocals, Value.category, maxLocals]; done) | rfl
theorem pn_5 : plainName "com/example/seriestrace/seriestrace/cli/SummaryExitStatusPinLaw" = true := by first | (simp [plainName, overriddenIn]; done) | decide +kernel
def gu (p0 : Int32) : Int32 := (p0 &&& (1 : Int32))
def ge (p1 : Int32) : Int32 := ((p1 &&& (2147483647 : Int32)) % (3 : Int32))
def gw (p2 : Int32) : Int32 := (p2 &&& (1 : Int32))
theorem pd_4 : parseMethodDescriptor "(Lcom/example/seriestrace/seriestrace/check/Rule;Lcom/example/seriestrace/seriestrace/check/FieldRef;Ljava/lang/String;)V" = some ⟨[(.object "com/example/seriestrace/seriestrace/check/Rule"), (.object "com/example/seriestrace/seriestrace/check/FieldRef"), (.object "java/lang/String")], none⟩ := by decide +kernel
theorem pd_5 : parseMethodDescriptor "(Ljava/lang/String;Lcom/example/seriestrace/seriestrace/check/Severity;)V" = some ⟨[(.object "java/lang/String"), (.object "com/example/seriestrace/seriestrace/check/Severity")], none⟩ := by decide +kernel
theorem pd_6 : parseMethodDescriptor "(Lcom/example/seriestrace/seriestrace/check/Finding;)V" = some ⟨[(.object "com/example/seriestrace/seriestrace/check/Finding")], none⟩ := by decide +kernel
theorem pd_7 : parseMethodDescriptor "()I" = some ⟨[], some .int⟩ := by decide +kernel
theorem own_gu (p : Int32) : gu p = 0 ∨ gu p = 1 := by
  have h1 : (p &&& (1 : Int32)).toInt = p.toInt % (2 ^ 1 : Nat) := c_mask p _ 1 (by decide) (by decide)
  rcases (by omega : (p &&& (1 : Int32)).toInt = 0 ∨ (p &&& (1 : Int32)).toInt = 1) with h | h
  · exact Or.inl (Int32.toInt_inj.mp h)
  · exact Or.inr (Int32.toInt_inj.mp h)
theorem own_u1 {p : Int32} (h : gu p = 1) : (0 : Int32) < gu p := by rw [h]; decide
theorem own_u0 {p : Int32} (h : ¬ gu p = 1) : ¬ (0 : Int32) < gu p := by rw [(own_gu p).resolve_right h]; decide
theorem own_e1 {x : Int32} (h : ¬ x < (1 : Int32)) : (0 : Int32) < x := by rw [Int32.lt_iff_toInt_lt] at *; have : (1 : Int32).toInt = 1 := rfl; have : (0 : Int32).toInt = 0 := rfl; omega
theorem own_e0 {x : Int32} (h : x < (1 : Int32)) : ¬ (0 : Int32) < x := by rw [Int32.lt_iff_toInt_lt] at *; have : (1 : Int32).toInt = 1 := rfl; have : (0 : Int32).toInt = 0 := rfl; omega
theorem own_e2 {x : Int32} (h : x < (1 : Int32)) : x < (2 : Int32) := by rw [Int32.lt_iff_toInt_lt] at *; have : (1 : Int32).toInt = 1 := rfl; have : (2 : Int32).toInt = 2 := rfl; omega
def Q0 (Z : State) (p0 : Int32) (p1 : Int32) (p2 : Int32) (ru : Addr) (wa : Addr) (er : Addr) (h0 : Heap) (n0 : Nat) (v : Option Value) (h : Heap) (L : List Loc) : Prop := v = some (.int 1) ∧ Fr n0 L
set_option maxRecDepth 65536 in
set_option maxHeartbeats 40000000 in
theorem rm0 (l : Launch) (Z : State) (a0 : Array Value) (hw : ∀ d ∈ tables_1, d.before a0 Z = true) (ws : List Jvm.Cond) (p0 : Int32) (p1 : Int32) (p2 : Int32) (ru : Addr) (wa : Addr) (er : Addr) (h0 : Heap) (n0 : Nat) (Z0 : n0 ≤ h0.size) (OL0 : Old Z n0 h0) (Sru : Sta Z Z.heap "com/example/seriestrace/seriestrace/check/Rule" "RECORD_UNREADABLE" "Lcom/example/seriestrace/seriestrace/check/Rule;" (.ref ru)) (Swa : Sta Z Z.heap "com/example/seriestrace/seriestrace/check/Severity" "WARNING" "Lcom/example/seriestrace/seriestrace/check/Severity;" (.ref wa)) (Ser : Sta Z Z.heap "com/example/seriestrace/seriestrace/check/Severity" "ERROR" "Lcom/example/seriestrace/seriestrace/check/Severity;" (.ref er)) (Eru : Exa Z Z.heap ru "com/example/seriestrace/seriestrace/check/Rule") (Fsev : Fld Z Z.heap ru "com/example/seriestrace/seriestrace/check/Rule" "severity" "Lcom/example/seriestrace/seriestrace/check/Severity;" (.ref er)) (hwe : ¬ wa = er) :
    MetFree l x (head1 (Jvm.Cond.code x code maxLocals ret :: ws) room_1) (fun a U => a = #[(.int p0), (.int p1), (.int p2)] ∧ Z.Warmed39 U.vm ∧ U.heap = h0) (fun _ _ _ _ _ => True) (fun _ U o U' => ∃ v L, o = .returned v ∧ Q0 Z p0 p1 p2 ru wa er h0 n0 v U'.heap L ∧ ReturnedEndW U o U' L room_1.cells room_1.slots) := by
  refine MetFree.of_bodySF (plainFor_of_name pn_5) hisR ?_
  intro p e s m args below meth c s₁ Bd hml0 hP hK
  obtain ⟨rfl, hZ, hh⟩ := hP
  have hx := Bd.exec
  have hby := Bd.bytes
  have hml : c.maxLocals = 10 := hml0
  have hown : s.vm.findClass "com/example/seriestrace/seriestrace/cli/SummaryExitStatusPinLaw" = some m.cls := findClass_of_methodNamed Bd.named
  have hnm := (name_of_methodNamed Bd.named Bd.method).1
  have X0 : Stand p l e room_1 s m #[(.int p0), (.int p1), (.int p2)] below meth c s₁ [] 0 0 := Stand.of_body Bd
  have e0 : s₁.heap = h0 := by rw [← hh, Bd.state]; rfl
  have pre0 : ∀ t, Steps p.tables e below (s₁.setTop (mkF m 0 #[.val (.int p0), .val (.int p1), .val (.int p2), .unset, .unset, .unset, .unset, .unset, .unset, .unset] [])) t → Steps p.tables e below (s₁.setTop (entryFrame m #[(.int p0), (.int p1), (.int p2)] maxLocals)) t := fun t k => castTop (ef_0 m p0 p1 p2) k
  have wS : ∀ d ∈ Bundle.stringAtoms, d.before a0 Z = true := by
    intro d hd
    simp only [Bundle.stringAtoms, List.mem_cons, List.not_mem_nil, or_false] at hd
    rcases hd with rfl | rfl | rfl | rfl | rfl | rfl | rfl
    · exact (hw _ (List.mem_of_getElem? (i := 17) rfl))
    · exact (hw _ (List.mem_of_getElem? (i := 18) rfl))
    · exact (hw _ (List.mem_of_getElem? (i := 19) rfl))
    · exact (hw _ (List.mem_of_getElem? (i := 20) rfl))
    · exact (hw _ (List.mem_of_getElem? (i := 21) rfl))
    · exact (hw _ (List.mem_of_getElem? (i := 22) rfl))
    · exact (hw _ (List.mem_of_getElem? (i := 23) rfl))
  have N0 := Fr.nil n0
  obtain ⟨T1, h1, X1, e1, E1, A1, D1, -, st1⟩ := newO X0 hx hZ hown (hw _ (List.mem_of_getElem? (i := 1) rfl)) (hw _ (List.mem_of_getElem? (i := 2) rfl)) (hw _ (List.mem_of_getElem? (i := 3) rfl)) e0 (g := (mkF m 17 #[.val (.int p0), .val (.int p1), .val (.int p2), .val (.int (gu p0)), .val (.int (ge p1)), .val (.int (gw p2)), .unset, .unset, .unset, .unset] [])) rfl (hb hby at_17) (by decide) (by decide)
  obtain ⟨b1, g1⟩ : ∃ z, z = h0.size := ⟨_, rfl⟩
  rw [← g1] at A1 D1 st1
  have gn1 : n0 ≤ b1 := Nat.le_trans Z0 (Nat.le_of_eq g1.symm)
  have Z1 : n0 ≤ h1.size := Nat.le_trans Z0 E1.1
  have OL1 := OL0.ext E1
  have F1_unreadable : Fld Z h1 b1 "com/example/seriestrace/seriestrace/cli/Summary" "unreadable" "J" (.long (0 : Int64)) := D1 (Or.inl (hw _ (List.mem_of_getElem? (i := 73) rfl))) (ty := .long) (by decide)
  have F1_errors : Fld Z h1 b1 "com/example/seriestrace/seriestrace/cli/Summary" "errors" "J" (.long (0 : Int64)) := D1 (Or.inl (hw _ (List.mem_of_getElem? (i := 75) rfl))) (ty := .long) (by decide)
  have F1_warnings : Fld Z h1 b1 "com/example/seriestrace/seriestrace/cli/Summary" "warnings" "J" (.long (0 : Int64)) := D1 (Or.inl (hw _ (List.mem_of_getElem? (i := 94) rfl))) (ty := .long) (by decide)
  obtain ⟨_, _, ⟨T2, L2, k2, n2⟩, -, X2, ⟨Lc2, hQ2, l2, y2, z2⟩, st2⟩ := X1.specialBack hx (y := (⟨"com/example/seriestrace/seriestrace/cli/Summary", "<init>", "()V"⟩ : MethodName)) rfl hown (mvT hZ (hw _ (List.mem_of_getElem? (i := 4) rfl))) (mvT hZ (hw _ (List.mem_of_getElem? (i := 5) rfl))) (mvT hZ (hw _ (List.mem_of_getElem? (i := 6) rfl))) (by decide) (backOf (W := 1) (rm1 l Z a0 hw [] b1  h1 ) hZ (hw _ (List.mem_of_getElem? (i := 6) rfl)) (hw _ (List.mem_of_getElem? (i := 3) rfl)) (by decide) (by decide)) (g := (mkF m 21 #[.val (.int p0), .val (.int p1), .val (.int p2), .val (.int (gu p0)), .val (.int (ge p1)), .val (.int (gw p2)), .unset, .unset, .unset, .unset] [(.ref b1), (.ref b1)])) rfl (by rw [hml]; rfl) (Steps.refl _) (a := b1) (argsL := []) (rest := [(.ref b1)]) (lenOf pd_0 rfl) rfl (by show 2 * 0 + _ ≤ _; exact Nat.le_of_eq rfl) (hb hby at_21) (fun _ _ => ⟨rfl, e1, (by decide : 1 + 0 ≤ _), (by decide : 6 + 0 ≤ _)⟩)
  dsimp only [Pt.U, Pt.locs, Pt.cells, Pt.slots] at X2 l2 y2 z2 st2 hQ2
  subst l2 y2 z2
  obtain ⟨rfl, rfl, e2⟩ := hQ2
  try rw [List.append_nil] at X2
  obtain ⟨T3, h3, X3, e3, E3, A3, D3, -, st3⟩ := newO X2 hx hZ hown (hw _ (List.mem_of_getElem? (i := 10) rfl)) (hw _ (List.mem_of_getElem? (i := 11) rfl)) (hw _ (List.mem_of_getElem? (i := 12) rfl)) e2 (g := (mkF m 26 #[.val (.int p0), .val (.int p1), .val (.int p2), .val (.int (gu p0)), .val (.int (ge p1)), .val (.int (gw p2)), .val (.ref b1), .unset, .unset, .unset] [])) rfl (hb hby at_26) (by decide) (by decide)
  obtain ⟨b3, g3⟩ : ∃ z, z = h1.size := ⟨_, rfl⟩
  rw [← g3] at A3 D3 st3
  have ne4 : b1 ≠ b3 := Nat.ne_of_lt (Nat.lt_of_lt_of_le A1.lt (Nat.le_of_eq g3.symm))
  have gn3 : n0 ≤ b3 := Nat.le_trans Z1 (Nat.le_of_eq g3.symm)
  have Z3 : n0 ≤ h3.size := Nat.le_trans Z1 E3.1
  have OL3 := OL1.ext E3
  have G5 : Exa Z h3 b1 "com/example/seriestrace/seriestrace/cli/Summary" := A1.ext E3
  have G6 : Fld Z h3 b1 "com/example/seriestrace/seriestrace/cli/Summary" "unreadable" "J" (.long (0 : Int64)) := F1_unreadable.ext E3
  have G7 : Fld Z h3 b1 "com/example/seriestrace/seriestrace/cli/Summary" "errors" "J" (.long (0 : Int64)) := F1_errors.ext E3
  have G8 : Fld Z h3 b1 "com/example/seriestrace/seriestrace/cli/Summary" "warnings" "J" (.long (0 : Int64)) := F1_warnings.ext E3
  have F3_rule : Fld Z h3 b3 "com/example/seriestrace/seriestrace/check/Finding" "rule" "Lcom/example/seriestrace/seriestrace/check/Rule;" .null := D3 (Or.inr (hw _ (List.mem_of_getElem? (i := 43) rfl))) (ty := (.object "com/example/seriestrace/seriestrace/check/Rule")) (by decide)
  have F3_field : Fld Z h3 b3 "com/example/seriestrace/seriestrace/check/Finding" "field" "Lcom/example/seriestrace/seriestrace/check/FieldRef;" .null := D3 (Or.inr (hw _ (List.mem_of_getElem? (i := 45) rfl))) (ty := (.object "com/example/seriestrace/seriestrace/check/FieldRef")) (by decide)
  have F3_message : Fld Z h3 b3 "com/example/seriestrace/seriestrace/check/Finding" "message" "Ljava/lang/String;" .null := D3 (Or.inr (hw _ (List.mem_of_getElem? (i := 47) rfl))) (ty := (.object "java/lang/String")) (by decide)
  have F3_proposal : Fld Z h3 b3 "com/example/seriestrace/seriestrace/check/Finding" "proposal" "Lcom/example/seriestrace/seriestrace/marc/DataField;" .null := D3 (Or.inr (hw _ (List.mem_of_getElem? (i := 49) rfl))) (ty := (.object "com/example/seriestrace/seriestrace/marc/DataField")) (by decide)
  obtain ⟨T9, X9, e9, st9⟩ := getS2 X3 hx hZ hown (host := "") (Or.inl (hw _ (List.mem_of_getElem? (i := 13) rfl))) Via.refl e3 (Sru.ext OL3.2) (g := (mkF m 30 #[.val (.int p0), .val (.int p1), .val (.int p2), .val (.int (gu p0)), .val (.int (ge p1)), .val (.int (gw p2)), .val (.ref b1), .unset, .unset, .unset] [(.ref b3), (.ref b3)])) rfl (hb hby at_30)
  have K10 : ∀ t, Steps p.tables e below (T9.setTop (mkF m 34 #[.val (.int p0), .val (.int p1), .val (.int p2), .val (.int (gu p0)), .val (.int (ge p1)), .val (.int (gw p2)), .val (.ref b1), .unset, .unset, .unset] [.null, (.ref ru), (.ref b3), (.ref b3)])) t → Steps p.tables e below (s₁.setTop (mkF m 0 #[.val (.int p0), .val (.int p1), .val (.int p2), .unset, .unset, .unset, .unset, .unset, .unset, .unset] [])) t := by
    intro t kt
    show Steps p.tables e below (s₁.setTop (mkF m 0 #[.val (.int p0), .val (.int p1), .val (.int p2), .unset, .unset, .unset, .unset, .unset, .unset, .unset] [])) _
    refine XS.iloadN X0.here hx rfl (hb hby at_0) rfl ?_
    show Steps p.tables e below (s₁.setTop (mkF m 1 #[.val (.int p0), .val (.int p1), .val (.int p2), .unset, .unset, .unset, .unset, .unset, .unset, .unset] [(.int p0)])) _
    refine XS.iconst X0.here hx rfl (hb hby at_1) ?_
    show Steps p.tables e below (s₁.setTop (mkF m 2 #[.val (.int p0), .val (.int p1), .val (.int p2), .unset, .unset, .unset, .unset, .unset, .unset, .unset] [(.int (1 : Int32)), (.int p0)])) _
    refine XS.iand X0.here hx rfl (hb hby at_2) rfl ?_
    show Steps p.tables e below (s₁.setTop (mkF m 3 #[.val (.int p0), .val (.int p1), .val (.int p2), .unset, .unset, .unset, .unset, .unset, .unset, .unset] [(.int (p0 &&& (1 : Int32)))])) _
    refine XS.istoreN X0.here hx rfl (hb hby at_3) rfl (l' := #[.val (.int p0), .val (.int p1), .val (.int p2), .val (.int (gu p0)), .unset, .unset, .unset, .unset, .unset, .unset]) rfl ?_
    show Steps p.tables e below (s₁.setTop (mkF m 4 #[.val (.int p0), .val (.int p1), .val (.int p2), .val (.int (gu p0)), .unset, .unset, .unset, .unset, .unset, .unset] [])) _
    refine XS.iloadN X0.here hx rfl (hb hby at_4) rfl ?_
    show Steps p.tables e below (s₁.setTop (mkF m 5 #[.val (.int p0), .val (.int p1), .val (.int p2), .val (.int (gu p0)), .unset, .unset, .unset, .unset, .unset, .unset] [(.int p1)])) _
    refine X0.ldcInt hx hown (mvT hZ (hw _ (List.mem_of_getElem? (i := 0) rfl))) (g := (mkF m 5 #[.val (.int p0), .val (.int p1), .val (.int p2), .val (.int (gu p0)), .unset, .unset, .unset, .unset, .unset, .unset] [(.int p1)])) rfl (hb hby at_5) _ ?_
    show Steps p.tables e below (s₁.setTop (mkF m 7 #[.val (.int p0), .val (.int p1), .val (.int p2), .val (.int (gu p0)), .unset, .unset, .unset, .unset, .unset, .unset] [(.int (2147483647 : Int32)), (.int p1)])) _
    refine XS.iand X0.here hx rfl (hb hby at_7) rfl ?_
    show Steps p.tables e below (s₁.setTop (mkF m 8 #[.val (.int p0), .val (.int p1), .val (.int p2), .val (.int (gu p0)), .unset, .unset, .unset, .unset, .unset, .unset] [(.int (p1 &&& (2147483647 : Int32)))])) _
    refine XS.iconst X0.here hx rfl (hb hby at_8) ?_
    show Steps p.tables e below (s₁.setTop (mkF m 9 #[.val (.int p0), .val (.int p1), .val (.int p2), .val (.int (gu p0)), .unset, .unset, .unset, .unset, .unset, .unset] [(.int (3 : Int32)), (.int (p1 &&& (2147483647 : Int32)))])) _
    refine iremM X0 hx rfl (hb hby at_9) rfl (by decide) ?_
    show Steps p.tables e below (s₁.setTop (mkF m 10 #[.val (.int p0), .val (.int p1), .val (.int p2), .val (.int (gu p0)), .unset, .unset, .unset, .unset, .unset, .unset] [(.int ((p1 &&& (2147483647 : Int32)) % (3 : Int32)))])) _
    refine XS.istore X0.here hx rfl (hb hby at_10) rfl (l' := #[.val (.int p0), .val (.int p1), .val (.int p2), .val (.int (gu p0)), .val (.int (ge p1)), .unset, .unset, .unset, .unset, .unset]) rfl ?_
    show Steps p.tables e below (s₁.setTop (mkF m 12 #[.val (.int p0), .val (.int p1), .val (.int p2), .val (.int (gu p0)), .val (.int (ge p1)), .unset, .unset, .unset, .unset, .unset] [])) _
    refine XS.iloadN X0.here hx rfl (hb hby at_12) rfl ?_
    show Steps p.tables e below (s₁.setTop (mkF m 13 #[.val (.int p0), .val (.int p1), .val (.int p2), .val (.int (gu p0)), .val (.int (ge p1)), .unset, .unset, .unset, .unset, .unset] [(.int p2)])) _
    refine XS.iconst X0.here hx rfl (hb hby at_13) ?_
    show Steps p.tables e below (s₁.setTop (mkF m 14 #[.val (.int p0), .val (.int p1), .val (.int p2), .val (.int (gu p0)), .val (.int (ge p1)), .unset, .unset, .unset, .unset, .unset] [(.int (1 : Int32)), (.int p2)])) _
    refine XS.iand X0.here hx rfl (hb hby at_14) rfl ?_
    show Steps p.tables e below (s₁.setTop (mkF m 15 #[.val (.int p0), .val (.int p1), .val (.int p2), .val (.int (gu p0)), .val (.int (ge p1)), .unset, .unset, .unset, .unset, .unset] [(.int (p2 &&& (1 : Int32)))])) _
    refine XS.istore X0.here hx rfl (hb hby at_15) rfl (l' := #[.val (.int p0), .val (.int p1), .val (.int p2), .val (.int (gu p0)), .val (.int (ge p1)), .val (.int (gw p2)), .unset, .unset, .unset, .unset]) rfl ?_
    show Steps p.tables e below (s₁.setTop (mkF m 17 #[.val (.int p0), .val (.int p1), .val (.int p2), .val (.int (gu p0)), .val (.int (ge p1)), .val (.int (gw p2)), .unset, .unset, .unset, .unset] [])) _
    refine st1 _ ?_
    show Steps p.tables e below (T1.setTop (mkF m 20 #[.val (.int p0), .val (.int p1), .val (.int p2), .val (.int (gu p0)), .val (.int (ge p1)), .val (.int (gw p2)), .unset, .unset, .unset, .unset] [(.ref b1)])) _
    refine XS.dup X1.here hx rfl (hb hby at_20) rfl rfl ?_
    show Steps p.tables e below (T1.setTop (mkF m 21 #[.val (.int p0), .val (.int p1), .val (.int p2), .val (.int (gu p0)), .val (.int (ge p1)), .val (.int (gw p2)), .unset, .unset, .unset, .unset] [(.ref b1), (.ref b1)])) _
    refine st2.trans ?_
    show Steps p.tables e below (T2.setTop (mkF m 24 #[.val (.int p0), .val (.int p1), .val (.int p2), .val (.int (gu p0)), .val (.int (ge p1)), .val (.int (gw p2)), .unset, .unset, .unset, .unset] [(.ref b1)])) _
    refine XS.astore X2.here hx rfl (hb hby at_24) rfl rfl (l' := #[.val (.int p0), .val (.int p1), .val (.int p2), .val (.int (gu p0)), .val (.int (ge p1)), .val (.int (gw p2)), .val (.ref b1), .unset, .unset, .unset]) rfl ?_
    show Steps p.tables e below (T2.setTop (mkF m 26 #[.val (.int p0), .val (.int p1), .val (.int p2), .val (.int (gu p0)), .val (.int (ge p1)), .val (.int (gw p2)), .val (.ref b1), .unset, .unset, .unset] [])) _
    refine st3 _ ?_
    show Steps p.tables e below (T3.setTop (mkF m 29 #[.val (.int p0), .val (.int p1), .val (.int p2), .val (.int (gu p0)), .val (.int (ge p1)), .val (.int (gw p2)), .val (.ref b1), .unset, .unset, .unset] [(.ref b3)])) _
    refine XS.dup X3.here hx rfl (hb hby at_29) rfl rfl ?_
    show Steps p.tables e below (T3.setTop (mkF m 30 #[.val (.int p0), .val (.int p1), .val (.int p2), .val (.int (gu p0)), .val (.int (ge p1)), .val (.int (gw p2)), .val (.ref b1), .unset, .unset, .unset] [(.ref b3), (.ref b3)])) _
    refine st9 _ ?_
    show Steps p.tables e below (T9.setTop (mkF m 33 #[.val (.int p0), .val (.int p1), .val (.int p2), .val (.int (gu p0)), .val (.int (ge p1)), .val (.int (gw p2)), .val (.ref b1), .unset, .unset, .unset] [(.ref ru), (.ref b3), (.ref b3)])) _
    refine XS.aconstNull X9.here hx rfl (hb hby at_33) ?_
    exact kt
  obtain ⟨a11, T11, h11, k11, X11, e11, E11, hS11, hk11, hZ, hown, st11⟩ := ldcS (s := s) (vm0 := s.vm) X9 hx hZ hown (hw _ (List.mem_of_getElem? (i := 16) rfl)) wS e9 ((State.WarmedH.refl s).since 0) (Nat.zero_le _) (g := (mkF m 34 #[.val (.int p0), .val (.int p1), .val (.int p2), .val (.int (gu p0)), .val (.int (ge p1)), .val (.int (gw p2)), .val (.ref b1), .unset, .unset, .unset] [.null, (.ref ru), (.ref b3), (.ref b3)])) rfl (hb hby at_34) (n := 4) (by decide) (by decide) (by decide) (by decide)
  have Z11 : n0 ≤ h11.size := Nat.le_trans Z3 E11.1
  have G12 : Exa Z h11 b1 "com/example/seriestrace/seriestrace/cli/Summary" := G5.ext E11
  have G13 : Fld Z h11 b1 "com/example/seriestrace/seriestrace/cli/Summary" "unreadable" "J" (.long (0 : Int64)) := G6.ext E11
  have G14 : Fld Z h11 b1 "com/example/seriestrace/seriestrace/cli/Summary" "errors" "J" (.long (0 : Int64)) := G7.ext E11
  have G15 : Fld Z h11 b1 "com/example/seriestrace/seriestrace/cli/Summary" "warnings" "J" (.long (0 : Int64)) := G8.ext E11
  have G16 : Exa Z h11 b3 "com/example/seriestrace/seriestrace/check/Finding" := A3.ext E11
  have G17 : Fld Z h11 b3 "com/example/seriestrace/seriestrace/check/Finding" "rule" "Lcom/example/seriestrace/seriestrace/check/Rule;" .null := F3_rule.ext E11
  have G18 : Fld Z h11 b3 "com/example/seriestrace/seriestrace/check/Finding" "field" "Lcom/example/seriestrace/seriestrace/check/FieldRef;" .null := F3_field.ext E11
  have G19 : Fld Z h11 b3 "com/example/seriestrace/seriestrace/check/Finding" "message" "Ljava/lang/String;" .null := F3_message.ext E11
  have G20 : Fld Z h11 b3 "com/example/seriestrace/seriestrace/check/Finding" "proposal" "Lcom/example/seriestrace/seriestrace/marc/DataField;" .null := F3_proposal.ext E11
  have OL11 := OL3.ext E11
  have K22 : ∀ t, Steps p.tables e below (T11.setTop (mkF m 36 #[.val (.int p0), .val (.int p1), .val (.int p2), .val (.int (gu p0)), .val (.int (ge p1)), .val (.int (gw p2)), .val (.ref b1), .unset, .unset, .unset] [(.ref a11), .null, (.ref ru), (.ref b3), (.ref b3)])) t → Steps p.tables e below (s₁.setTop (mkF m 0 #[.val (.int p0), .val (.int p1), .val (.int p2), .unset, .unset, .unset, .unset, .unset, .unset, .unset] [])) t := by
    intro t kt
    refine K10 _ ?_
    show Steps p.tables e below (T9.setTop (mkF m 34 #[.val (.int p0), .val (.int p1), .val (.int p2), .val (.int (gu p0)), .val (.int (ge p1)), .val (.int (gw p2)), .val (.ref b1), .unset, .unset, .unset] [.null, (.ref ru), (.ref b3), (.ref b3)])) _
    refine st11 _ ?_
    exact kt
  obtain ⟨_, _, ⟨T21, L21, k21, n21⟩, -, X21', hS21', hg21', ⟨Lc21, hQ21, l21, y21, z21⟩, st21⟩ := Stand.specialBackS (s := s.setVm T11.vm) X11 hx (y := (⟨"com/example/seriestrace/seriestrace/check/Finding", "<init>", "(Lcom/example/seriestrace/seriestrace/check/Rule;Lcom/example/seriestrace/seriestrace/check/FieldRef;Ljava/lang/String;)V"⟩ : MethodName)) rfl hown (mvT hZ (hw _ (List.mem_of_getElem? (i := 24) rfl))) (mvT hZ (hw _ (List.mem_of_getElem? (i := 25) rfl))) (mvT hZ (hw _ (List.mem_of_getElem? (i := 26) rfl))) (by decide) (backOfS (W := 1) (rm3 l Z a0 hw [] b3 ru a11 .null .null .null .null h11 n0 Z11 G17 G18 G19 G20 G16 gn3) hZ (hw _ (List.mem_of_getElem? (i := 26) rfl)) (hw _ (List.mem_of_getElem? (i := 12) rfl)) (by decide) (by decide)) (g := (mkF m 36 #[.val (.int p0), .val (.int p1), .val (.int p2), .val (.int (gu p0)), .val (.int (ge p1)), .val (.int (gw p2)), .val (.ref b1), .unset, .unset, .unset] [(.ref a11), .null, (.ref ru), (.ref b3), (.ref b3)])) rfl (by rw [hml]; rfl) (Steps.refl _) (a := b3) (argsL := [(.ref ru), .null, (.ref a11)]) (rest := [(.ref b3)]) (lenOf pd_4 rfl) rfl (by show 2 * 0 + _ ≤ _; exact Nat.le_of_eq rfl) (hb hby at_36) (fun _ _ => ⟨rfl, e11, (by decide : 4 + 4 ≤ _), (by decide : 18 + 52 ≤ _)⟩)
  dsimp only [Pt.U, Pt.locs, Pt.cells, Pt.slots] at X21' hS21' hg21' l21 y21 z21 st21 hQ21
  subst l21 y21 z21
  obtain ⟨X21, hS21, hZ, hown⟩ := rebS hS11 (n1 := T11.heap.size) (by rw [e11]; exact hk11) X21' hS21' hg21' hZ hown
  obtain ⟨rfl, N21q, K21q, F21q⟩ := hQ21
  have N21 := Fr.app N0 N21q
  have Z21 : n0 ≤ T21.heap.size := Nat.le_trans Z11 K21q.1
  have OL21 := OL11.keep K21q (allS gn3 all0)
  have G23 : Exa Z T21.heap b1 "com/example/seriestrace/seriestrace/cli/Summary" := G12.keep K21q
  have G24 : Fld Z T21.heap b1 "com/example/seriestrace/seriestrace/cli/Summary" "unreadable" "J" (.long (0 : Int64)) := G13.keep K21q (ninS ne4 nin0)
  have G25 : Fld Z T21.heap b1 "com/example/seriestrace/seriestrace/cli/Summary" "errors" "J" (.long (0 : Int64)) := G14.keep K21q (ninS ne4 nin0)
  have G26 : Fld Z T21.heap b1 "com/example/seriestrace/seriestrace/cli/Summary" "warnings" "J" (.long (0 : Int64)) := G15.keep K21q (ninS ne4 nin0)
  have G27 : Exa Z T21.heap b3 "com/example/seriestrace/seriestrace/check/Finding" := G16.keep K21q
  obtain ⟨T28, h28, X28, e28, E28, A28, D28, -, st28⟩ := newO X21 hx hZ hown (hw _ (List.mem_of_getElem? (i := 10) rfl)) (hw _ (List.mem_of_getElem? (i := 11) rfl)) (hw _ (List.mem_of_getElem? (i := 12) rfl)) rfl (g := (mkF m 41 #[.val (.int p0), .val (.int p1), .val (.int p2), .val (.int (gu p0)), .val (.int (ge p1)), .val (.int (gw p2)), .val (.ref b1), .val (.ref b3), .unset, .unset] [])) rfl (hb hby at_41) (by decide) (by decide)
  obtain ⟨b28, g28⟩ : ∃ z, z = T21.heap.size := ⟨_, rfl⟩
  rw [← g28] at A28 D28 st28
  have ne29 : b1 ≠ b28 := Nat.ne_of_lt (Nat.lt_of_lt_of_le G23.lt (Nat.le_of_eq g28.symm))
  have ne30 : b3 ≠ b28 := Nat.ne_of_lt (Nat.lt_of_lt_of_le G27.lt (Nat.le_of_eq g28.symm))
  have gn28 : n0 ≤ b28 := Nat.le_trans Z21 (Nat.le_of_eq g28.symm)
  have Z28 : n0 ≤ h28.size := Nat.le_trans Z21 E28.1
  have KS28 := Nat.le_trans (Nat.le_refl _) E28.1
  have OL28 := OL21.ext E28
  have G31 : Exa Z h28 b1 "com/example/seriestrace/seriestrace/cli/Summary" := G23.ext E28
  have G32 : Fld Z h28 b1 "com/example/seriestrace/seriestrace/cli/Summary" "unreadable" "J" (.long (0 : Int64)) := G24.ext E28
  have G33 : Fld Z h28 b1 "com/example/seriestrace/seriestrace/cli/Summary" "errors" "J" (.long (0 : Int64)) := G25.ext E28
  have G34 : Fld Z h28 b1 "com/example/seriestrace/seriestrace/cli/Summary" "warnings" "J" (.long (0 : Int64)) := G26.ext E28
  have G35 : Exa Z h28 b3 "com/example/seriestrace/seriestrace/check/Finding" := G27.ext E28
  have G36 : Fld Z h28 b3 "com/example/seriestrace/seriestrace/check/Finding" "rule" "Lcom/example/seriestrace/seriestrace/check/Rule;" (.ref ru) := F21q.ext E28
  have F28_rule : Fld Z h28 b28 "com/example/seriestrace/seriestrace/check/Finding" "rule" "Lcom/example/seriestrace/seriestrace/check/Rule;" .null := D28 (Or.inr (hw _ (List.mem_of_getElem? (i := 43) rfl))) (ty := (.object "com/example/seriestrace/seriestrace/check/Rule")) (by decide)
  have F28_field : Fld Z h28 b28 "com/example/seriestrace/seriestrace/check/Finding" "field" "Lcom/example/seriestrace/seriestrace/check/FieldRef;" .null := D28 (Or.inr (hw _ (List.mem_of_getElem? (i := 45) rfl))) (ty := (.object "com/example/seriestrace/seriestrace/check/FieldRef")) (by decide)
  have F28_message : Fld Z h28 b28 "com/example/seriestrace/seriestrace/check/Finding" "message" "Ljava/lang/String;" .null := D28 (Or.inr (hw _ (List.mem_of_getElem? (i := 47) rfl))) (ty := (.object "java/lang/String")) (by decide)
  have F28_proposal : Fld Z h28 b28 "com/example/seriestrace/seriestrace/check/Finding" "proposal" "Lcom/example/seriestrace/seriestrace/marc/DataField;" .null := D28 (Or.inr (hw _ (List.mem_of_getElem? (i := 49) rfl))) (ty := (.object "com/example/seriestrace/seriestrace/marc/DataField")) (by decide)
  obtain ⟨T37, h37, X37, e37, E37, A37, D37, -, st37⟩ := newO X28 hx hZ hown (hw _ (List.mem_of_getElem? (i := 50) rfl)) (hw _ (List.mem_of_getElem? (i := 51) rfl)) (hw _ (List.mem_of_getElem? (i := 14) rfl)) e28 (g := (mkF m 45 #[.val (.int p0), .val (.int p1), .val (.int p2), .val (.int (gu p0)), .val (.int (ge p1)), .val (.int (gw p2)), .val (.ref b1), .val (.ref b3), .unset, .unset] [(.ref b28), (.ref b28)])) rfl (hb hby at_45) (by decide) (by decide)
  obtain ⟨b37, g37⟩ : ∃ z, z = h28.size := ⟨_, rfl⟩
  rw [← g37] at A37 D37 st37
  have ne38 : b1 ≠ b37 := Nat.ne_of_lt (Nat.lt_of_lt_of_le G31.lt (Nat.le_of_eq g37.symm))
  have ne39 : b28 ≠ b37 := Nat.ne_of_lt (Nat.lt_of_lt_of_le A28.lt (Nat.le_of_eq g37.symm))
  have ne40 : b3 ≠ b37 := Nat.ne_of_lt (Nat.lt_of_lt_of_le G35.lt (Nat.le_of_eq g37.symm))
  have gn37 : n0 ≤ b37 := Nat.le_trans Z28 (Nat.le_of_eq g37.symm)
  have Z37 : n0 ≤ h37.size := Nat.le_trans Z28 E37.1
  have KS37 := Nat.le_trans KS28 E37.1
  have OL37 := OL28.ext E37
  have G41 : Exa Z h37 b1 "com/example/seriestrace/seriestrace/cli/Summary" := G31.ext E37
  have G42 : Fld Z h37 b1 "com/example/seriestrace/seriestrace/cli/Summary" "unreadable" "J" (.long (0 : Int64)) := G32.ext E37
  have G43 : Fld Z h37 b1 "com/example/seriestrace/seriestrace/cli/Summary" "errors" "J" (.long (0 : Int64)) := G33.ext E37
  have G44 : Fld Z h37 b1 "com/example/seriestrace/seriestrace/cli/Summary" "warnings" "J" (.long (0 : Int64)) := G34.ext E37
  have G45 : Exa Z h37 b3 "com/example/seriestrace/seriestrace/check/Finding" := G35.ext E37
  have G46 : Fld Z h37 b3 "com/example/seriestrace/seriestrace/check/Finding" "rule" "Lcom/example/seriestrace/seriestrace/check/Rule;" (.ref ru) := G36.ext E37
  have G47 : Exa Z h37 b28 "com/example/seriestrace/seriestrace/check/Finding" := A28.ext E37
  have G48 : Fld Z h37 b28 "com/example/seriestrace/seriestrace/check/Finding" "rule" "Lcom/example/seriestrace/seriestrace/check/Rule;" .null := F28_rule.ext E37
  have G49 : Fld Z h37 b28 "com/example/seriestrace/seriestrace/check/Finding" "field" "Lcom/example/seriestrace/seriestrace/check/FieldRef;" .null := F28_field.ext E37
  have G50 : Fld Z h37 b28 "com/example/seriestrace/seriestrace/check/Finding" "message" "Ljava/lang/String;" .null := F28_message.ext E37
  have G51 : Fld Z h37 b28 "com/example/seriestrace/seriestrace/check/Finding" "proposal" "Lcom/example/seriestrace/seriestrace/marc/DataField;" .null := F28_proposal.ext E37
  have F37_name : Fld Z h37 b37 "com/example/seriestrace/seriestrace/check/Rule" "name" "Ljava/lang/String;" .null := D37 (Or.inr (hw _ (List.mem_of_getElem? (i := 64) rfl))) (ty := (.object "java/lang/String")) (by decide)
  have F37_severity : Fld Z h37 b37 "com/example/seriestrace/seriestrace/check/Rule" "severity" "Lcom/example/seriestrace/seriestrace/check/Severity;" .null := D37 (Or.inr (hw _ (List.mem_of_getElem? (i := 66) rfl))) (ty := (.object "com/example/seriestrace/seriestrace/check/Severity")) (by decide)
  have K52 : ∀ t, Steps p.tables e below (T37.setTop (mkF m 49 #[.val (.int p0), .val (.int p1), .val (.int p2), .val (.int (gu p0)), .val (.int (ge p1)), .val (.int (gw p2)), .val (.ref b1), .val (.ref b3), .unset, .unset] [(.ref b37), (.ref b37), (.ref b28), (.ref b28)])) t → Steps p.tables e below (s₁.setTop (mkF m 0 #[.val (.int p0), .val (.int p1), .val (.int p2), .unset, .unset, .unset, .unset, .unset, .unset, .unset] [])) t := by
    intro t kt
    refine K22 _ ?_
    show Steps p.tables e below (T11.setTop (mkF m 36 #[.val (.int p0), .val (.int p1), .val (.int p2), .val (.int (gu p0)), .val (.int (ge p1)), .val (.int (gw p2)), .val (.ref b1), .unset, .unset, .unset] [(.ref a11), .null, (.ref ru), (.ref b3), (.ref b3)])) _
    refine st21.trans ?_
    show Steps p.tables e below (T21.setTop (mkF m 39 #[.val (.int p0), .val (.int p1), .val (.int p2), .val (.int (gu p0)), .val (.int (ge p1)), .val (.int (gw p2)), .val (.ref b1), .unset, .unset, .unset] [(.ref b3)])) _
    refine XS.astore X21.here hx rfl (hb hby at_39) rfl rfl (l' := #[.val (.int p0), .val (.int p1), .val (.int p2), .val (.int (gu p0)), .val (.int (ge p1)), .val (.int (gw p2)), .val (.ref b1), .val (.ref b3), .unset, .unset]) rfl ?_
    show Steps p.tables e below (T21.setTop (mkF m 41 #[.val (.int p0), .val (.int p1), .val (.int p2), .val (.int (gu p0)), .val (.int (ge p1)), .val (.int (gw p2)), .val (.ref b1), .val (.ref b3), .unset, .unset] [])) _
    refine st28 _ ?_
    show Steps p.tables e below (T28.setTop (mkF m 44 #[.val (.int p0), .val (.int p1), .val (.int p2), .val (.int (gu p0)), .val (.int (ge p1)), .val (.int (gw p2)), .val (.ref b1), .val (.ref b3), .unset, .unset] [(.ref b28)])) _
    refine XS.dup X28.here hx rfl (hb hby at_44) rfl rfl ?_
    show Steps p.tables e below (T28.setTop (mkF m 45 #[.val (.int p0), .val (.int p1), .val (.int p2), .val (.int (gu p0)), .val (.int (ge p1)), .val (.int (gw p2)), .val (.ref b1), .val (.ref b3), .unset, .unset] [(.ref b28), (.ref b28)])) _
    refine st37 _ ?_
    show Steps p.tables e below (T37.setTop (mkF m 48 #[.val (.int p0), .val (.int p1), .val (.int p2), .val (.int (gu p0)), .val (.int (ge p1)), .val (.int (gw p2)), .val (.ref b1), .val (.ref b3), .unset, .unset] [(.ref b37), (.ref b28), (.ref b28)])) _
    refine XS.dup X37.here hx rfl (hb hby at_48) rfl rfl ?_
    exact kt
  obtain ⟨a53, T53, h53, k53, X53, e53, E53, hS53, hk53, hZ, hown, st53⟩ := ldcS (s := s) (vm0 := T21.vm) X37 hx hZ hown (hw _ (List.mem_of_getElem? (i := 52) rfl)) wS e37 hS21 KS37 (g := (mkF m 49 #[.val (.int p0), .val (.int p1), .val (.int p2), .val (.int (gu p0)), .val (.int (ge p1)), .val (.int (gw p2)), .val (.ref b1), .val (.ref b3), .unset, .unset] [(.ref b37), (.ref b37), (.ref b28), (.ref b28)])) rfl (hb hby at_49) (n := 4) (by decide) (by decide) (by decide) (by decide)
  have Z53 : n0 ≤ h53.size := Nat.le_trans Z37 E53.1
  have G54 : Exa Z h53 b1 "com/example/seriestrace/seriestrace/cli/Summary" := G41.ext E53
  have G55 : Fld Z h53 b1 "com/example/seriestrace/seriestrace/cli/Summary" "unreadable" "J" (.long (0 : Int64)) := G42.ext E53
  have G56 : Fld Z h53 b1 "com/example/seriestrace/seriestrace/cli/Summary" "errors" "J" (.long (0 : Int64)) := G43.ext E53
  have G57 : Fld Z h53 b1 "com/example/seriestrace/seriestrace/cli/Summary" "warnings" "J" (.long (0 : Int64)) := G44.ext E53
  have G58 : Exa Z h53 b3 "com/example/seriestrace/seriestrace/check/Finding" := G45.ext E53
  have G59 : Fld Z h53 b3 "com/example/seriestrace/seriestrace/check/Finding" "rule" "Lcom/example/seriestrace/seriestrace/check/Rule;" (.ref ru) := G46.ext E53
  have G60 : Exa Z h53 b28 "com/example/seriestrace/seriestrace/check/Finding" := G47.ext E53
  have G61 : Fld Z h53 b28 "com/example/seriestrace/seriestrace/check/Finding" "rule" "Lcom/example/seriestrace/seriestrace/check/Rule;" .null := G48.ext E53
  have G62 : Fld Z h53 b28 "com/example/seriestrace/seriestrace/check/Finding" "field" "Lcom/example/seriestrace/seriestrace/check/FieldRef;" .null := G49.ext E53
  have G63 : Fld Z h53 b28 "com/example/seriestrace/seriestrace/check/Finding" "message" "Ljava/lang/String;" .null := G50.ext E53
  have G64 : Fld Z h53 b28 "com/example/seriestrace/seriestrace/check/Finding" "proposal" "Lcom/example/seriestrace/seriestrace/marc/DataField;" .null := G51.ext E53
  have G65 : Exa Z h53 b37 "com/example/seriestrace/seriestrace/check/Rule" := A37.ext E53
  have G66 : Fld Z h53 b37 "com/example/seriestrace/seriestrace/check/Rule" "name" "Ljava/lang/String;" .null := F37_name.ext E53
  have G67 : Fld Z h53 b37 "com/example/seriestrace/seriestrace/check/Rule" "severity" "Lcom/example/seriestrace/seriestrace/check/Severity;" .null := F37_severity.ext E53
  have OL53 := OL37.ext E53
  obtain ⟨T68, X68, e68, st68⟩ := getS2 X53 hx hZ hown (host := "") (Or.inl (hw _ (List.mem_of_getElem? (i := 53) rfl))) Via.refl e53 (Swa.ext OL53.2) (g := (mkF m 51 #[.val (.int p0), .val (.int p1), .val (.int p2), .val (.int (gu p0)), .val (.int (ge p1)), .val (.int (gw p2)), .val (.ref b1), .val (.ref b3), .unset, .unset] [(.ref a53), (.ref b37), (.ref b37), (.ref b28), (.ref b28)])) rfl (hb hby at_51)
  have K70 : ∀ t, Steps p.tables e below (T68.setTop (mkF m 54 #[.val (.int p0), .val (.int p1), .val (.int p2), .val (.int (gu p0)), .val (.int (ge p1)), .val (.int (gw p2)), .val (.ref b1), .val (.ref b3), .unset, .unset] [(.ref wa), (.ref a53), (.ref b37), (.ref b37), (.ref b28), (.ref b28)])) t → Steps p.tables e below (s₁.setTop (mkF m 0 #[.val (.int p0), .val (.int p1), .val (.int p2), .unset, .unset, .unset, .unset, .unset, .unset, .unset] [])) t := by
    intro t kt
    refine K52 _ ?_
    show Steps p.tables e below (T37.setTop (mkF m 49 #[.val (.int p0), .val (.int p1), .val (.int p2), .val (.int (gu p0)), .val (.int (ge p1)), .val (.int (gw p2)), .val (.ref b1), .val (.ref b3), .unset, .unset] [(.ref b37), (.ref b37), (.ref b28), (.ref b28)])) _
    refine st53 _ ?_
    show Steps p.tables e below (T53.setTop (mkF m 51 #[.val (.int p0), .val (.int p1), .val (.int p2), .val (.int (gu p0)), .val (.int (ge p1)), .val (.int (gw p2)), .val (.ref b1), .val (.ref b3), .unset, .unset] [(.ref a53), (.ref b37), (.ref b37), (.ref b28), (.ref b28)])) _
    refine st68 _ ?_
    exact kt
  obtain ⟨_, _, ⟨T69, L69, k69, n69⟩, -, X69', hS69', hg69', ⟨Lc69, hQ69, l69, y69, z69⟩, st69⟩ := Stand.specialBackS (s := s.setVm T53.vm) X68 hx (y := (⟨"com/example/seriestrace/seriestrace/check/Rule", "<init>", "(Ljava/lang/String;Lcom/example/seriestrace/seriestrace/check/Severity;)V"⟩ : MethodName)) rfl hown (mvT hZ (hw _ (List.mem_of_getElem? (i := 56) rfl))) (mvT hZ (hw _ (List.mem_of_getElem? (i := 57) rfl))) (mvT hZ (hw _ (List.mem_of_getElem? (i := 58) rfl))) (by decide) (backOfS (W := 3) (rm7 l Z a0 hw [] b37 a53 wa .null .null h53 n0 Z53 G66 G67 G65 gn37) hZ (hw _ (List.mem_of_getElem? (i := 58) rfl)) (hw _ (List.mem_of_getElem? (i := 14) rfl)) (by decide) (by decide)) (g := (mkF m 54 #[.val (.int p0), .val (.int p1), .val (.int p2), .val (.int (gu p0)), .val (.int (ge p1)), .val (.int (gw p2)), .val (.ref b1), .val (.ref b3), .unset, .unset] [(.ref wa), (.ref a53), (.ref b37), (.ref b37), (.ref b28), (.ref b28)])) rfl (by rw [hml]; rfl) (Steps.refl _) (a := b37) (argsL := [(.ref a53), (.ref wa)]) (rest := [(.ref b37), (.ref b28), (.ref b28)]) (lenOf pd_5 rfl) rfl (by show 2 * 0 + _ ≤ _; exact Nat.le_of_eq rfl) (hb hby at_54) (fun _ _ => ⟨rfl, e68, (by decide : 12 + 4 ≤ _), (by decide : 84 + 56 ≤ _)⟩)
  dsimp only [Pt.U, Pt.locs, Pt.cells, Pt.slots] at X69' hS69' hg69' l69 y69 z69 st69 hQ69
  subst l69 y69 z69
  obtain ⟨X69, hS69, hZ, hown⟩ := rebS hS53 (n1 := T68.heap.size) (by rw [e68]; exact hk53) X69' hS69' hg69' hZ hown
  obtain ⟨rfl, N69q, K69q, F69q⟩ := hQ69
  have N69 := Fr.app N21 N69q
  have Z69 : n0 ≤ T69.heap.size := Nat.le_trans Z53 K69q.1
  have OL69 := OL53.keep K69q (allS gn37 all0)
  have G71 : Exa Z T69.heap b1 "com/example/seriestrace/seriestrace/cli/Summary" := G54.keep K69q
  have G72 : Fld Z T69.heap b1 "com/example/seriestrace/seriestrace/cli/Summary" "unreadable" "J" (.long (0 : Int64)) := G55.keep K69q (ninS ne38 nin0)
  have G73 : Fld Z T69.heap b1 "com/example/seriestrace/seriestrace/cli/Summary" "errors" "J" (.long (0 : Int64)) := G56.keep K69q (ninS ne38 nin0)
  have G74 : Fld Z T69.heap b1 "com/example/seriestrace/seriestrace/cli/Summary" "warnings" "J" (.long (0 : Int64)) := G57.keep K69q (ninS ne38 nin0)
  have G75 : Exa Z T69.heap b3 "com/example/seriestrace/seriestrace/check/Finding" := G58.keep K69q
  have G76 : Fld Z T69.heap b3 "com/example/seriestrace/seriestrace/check/Finding" "rule" "Lcom/example/seriestrace/seriestrace/check/Rule;" (.ref ru) := G59.keep K69q (ninS ne40 nin0)
  have G77 : Exa Z T69.heap b28 "com/example/seriestrace/seriestrace/check/Finding" := G60.keep K69q
  have G78 : Fld Z T69.heap b28 "com/example/seriestrace/seriestrace/check/Finding" "rule" "Lcom/example/seriestrace/seriestrace/check/Rule;" .null := G61.keep K69q (ninS ne39 nin0)
  have G79 : Fld Z T69.heap b28 "com/example/seriestrace/seriestrace/check/Finding" "field" "Lcom/example/seriestrace/seriestrace/check/FieldRef;" .null := G62.keep K69q (ninS ne39 nin0)
  have G80 : Fld Z T69.heap b28 "com/example/seriestrace/seriestrace/check/Finding" "message" "Ljava/lang/String;" .null := G63.keep K69q (ninS ne39 nin0)
  have G81 : Fld Z T69.heap b28 "com/example/seriestrace/seriestrace/check/Finding" "proposal" "Lcom/example/seriestrace/seriestrace/marc/DataField;" .null := G64.keep K69q (ninS ne39 nin0)
  have G82 : Exa Z T69.heap b37 "com/example/seriestrace/seriestrace/check/Rule" := G65.keep K69q
  have K83 : ∀ t, Steps p.tables e below (T69.setTop (mkF m 58 #[.val (.int p0), .val (.int p1), .val (.int p2), .val (.int (gu p0)), .val (.int (ge p1)), .val (.int (gw p2)), .val (.ref b1), .val (.ref b3), .unset, .unset] [.null, (.ref b37), (.ref b28), (.ref b28)])) t → Steps p.tables e below (s₁.setTop (mkF m 0 #[.val (.int p0), .val (.int p1), .val (.int p2), .unset, .unset, .unset, .unset, .unset, .unset, .unset] [])) t := by
    intro t kt
    refine K70 _ ?_
    show Steps p.tables e below (T68.setTop (mkF m 54 #[.val (.int p0), .val (.int p1), .val (.int p2), .val (.int (gu p0)), .val (.int (ge p1)), .val (.int (gw p2)), .val (.ref b1), .val (.ref b3), .unset, .unset] [(.ref wa), (.ref a53), (.ref b37), (.ref b37), (.ref b28), (.ref b28)])) _
    refine st69.trans ?_
    show Steps p.tables e below (T69.setTop (mkF m 57 #[.val (.int p0), .val (.int p1), .val (.int p2), .val (.int (gu p0)), .val (.int (ge p1)), .val (.int (gw p2)), .val (.ref b1), .val (.ref b3), .unset, .unset] [(.ref b37), (.ref b28), (.ref b28)])) _
    refine XS.aconstNull X69.here hx rfl (hb hby at_57) ?_
    exact kt
  obtain ⟨a84, T84, h84, k84, X84, e84, E84, hS84, hk84, hZ, hown, st84⟩ := ldcS (s := s) (vm0 := T69.vm) X69 hx hZ hown (hw _ (List.mem_of_getElem? (i := 52) rfl)) wS rfl hS69 (Nat.le_refl _) (g := (mkF m 58 #[.val (.int p0), .val (.int p1), .val (.int p2), .val (.int (gu p0)), .val (.int (ge p1)), .val (.int (gw p2)), .val (.ref b1), .val (.ref b3), .unset, .unset] [.null, (.ref b37), (.ref b28), (.ref b28)])) rfl (hb hby at_58) (n := 4) (by decide) (by decide) (by decide) (by decide)
  have Z84 : n0 ≤ h84.size := Nat.le_trans Z69 E84.1
  have G85 : Exa Z h84 b1 "com/example/seriestrace/seriestrace/cli/Summary" := G71.ext E84
  have G86 : Fld Z h84 b1 "com/example/seriestrace/seriestrace/cli/Summary" "unreadable" "J" (.long (0 : Int64)) := G72.ext E84
  have G87 : Fld Z h84 b1 "com/example/seriestrace/seriestrace/cli/Summary" "errors" "J" (.long (0 : Int64)) := G73.ext E84
  have G88 : Fld Z h84 b1 "com/example/seriestrace/seriestrace/cli/Summary" "warnings" "J" (.long (0 : Int64)) := G74.ext E84
  have G89 : Exa Z h84 b3 "com/example/seriestrace/seriestrace/check/Finding" := G75.ext E84
  have G90 : Fld Z h84 b3 "com/example/seriestrace/seriestrace/check/Finding" "rule" "Lcom/example/seriestrace/seriestrace/check/Rule;" (.ref ru) := G76.ext E84
  have G91 : Exa Z h84 b28 "com/example/seriestrace/seriestrace/check/Finding" := G77.ext E84
  have G92 : Fld Z h84 b28 "com/example/seriestrace/seriestrace/check/Finding" "rule" "Lcom/example/seriestrace/seriestrace/check/Rule;" .null := G78.ext E84
  have G93 : Fld Z h84 b28 "com/example/seriestrace/seriestrace/check/Finding" "field" "Lcom/example/seriestrace/seriestrace/check/FieldRef;" .null := G79.ext E84
  have G94 : Fld Z h84 b28 "com/example/seriestrace/seriestrace/check/Finding" "message" "Ljava/lang/String;" .null := G80.ext E84
  have G95 : Fld Z h84 b28 "com/example/seriestrace/seriestrace/check/Finding" "proposal" "Lcom/example/seriestrace/seriestrace/marc/DataField;" .null := G81.ext E84
  have G96 : Exa Z h84 b37 "com/example/seriestrace/seriestrace/check/Rule" := G82.ext E84
  have G97 : Fld Z h84 b37 "com/example/seriestrace/seriestrace/check/Rule" "severity" "Lcom/example/seriestrace/seriestrace/check/Severity;" (.ref wa) := F69q.ext E84
  have OL84 := OL69.ext E84
  have K99 : ∀ t, Steps p.tables e below (T84.setTop (mkF m 60 #[.val (.int p0), .val (.int p1), .val (.int p2), .val (.int (gu p0)), .val (.int (ge p1)), .val (.int (gw p2)), .val (.ref b1), .val (.ref b3), .unset, .unset] [(.ref a84), .null, (.ref b37), (.ref b28), (.ref b28)])) t → Steps p.tables e below (s₁.setTop (mkF m 0 #[.val (.int p0), .val (.int p1), .val (.int p2), .unset, .unset, .unset, .unset, .unset, .unset, .unset] [])) t := by
    intro t kt
    refine K83 _ ?_
    show Steps p.tables e below (T69.setTop (mkF m 58 #[.val (.int p0), .val (.int p1), .val (.int p2), .val (.int (gu p0)), .val (.int (ge p1)), .val (.int (gw p2)), .val (.ref b1), .val (.ref b3), .unset, .unset] [.null, (.ref b37), (.ref b28), (.ref b28)])) _
    refine st84 _ ?_
    exact kt
  obtain ⟨_, _, ⟨T98, L98, k98, n98⟩, -, X98', hS98', hg98', ⟨Lc98, hQ98, l98, y98, z98⟩, st98⟩ := Stand.specialBackS (s := s.setVm T84.vm) X84 hx (y := (⟨"com/example/seriestrace/seriestrace/check/Finding", "<init>", "(Lcom/example/seriestrace/seriestrace/check/Rule;Lcom/example/seriestrace/seriestrace/check/FieldRef;Ljava/lang/String;)V"⟩ : MethodName)) rfl hown (mvT hZ (hw _ (List.mem_of_getElem? (i := 24) rfl))) (mvT hZ (hw _ (List.mem_of_getElem? (i := 25) rfl))) (mvT hZ (hw _ (List.mem_of_getElem? (i := 26) rfl))) (by decide) (backOfS (W := 1) (rm3 l Z a0 hw [] b28 b37 a84 .null .null .null .null h84 n0 Z84 G92 G93 G94 G95 G91 gn28) hZ (hw _ (List.mem_of_getElem? (i := 26) rfl)) (hw _ (List.mem_of_getElem? (i := 12) rfl)) (by decide) (by decide)) (g := (mkF m 60 #[.val (.int p0), .val (.int p1), .val (.int p2), .val (.int (gu p0)), .val (.int (ge p1)), .val (.int (gw p2)), .val (.ref b1), .val (.ref b3), .unset, .unset] [(.ref a84), .null, (.ref b37), (.ref b28), (.ref b28)])) rfl (by rw [hml]; rfl) (Steps.refl _) (a := b28) (argsL := [(.ref b37), .null, (.ref a84)]) (rest := [(.ref b28)]) (lenOf pd_4 rfl) rfl (by show 2 * 0 + _ ≤ _; exact Nat.le_of_eq rfl) (hb hby at_60) (fun _ _ => ⟨rfl, e84, (by decide : 18 + 4 ≤ _), (by decide : 148 + 52 ≤ _)⟩)
  dsimp only [Pt.U, Pt.locs, Pt.cells, Pt.slots] at X98' hS98' hg98' l98 y98 z98 st98 hQ98
  subst l98 y98 z98
  obtain ⟨X98, hS98, hZ, hown⟩ := rebS hS84 (n1 := T84.heap.size) (by rw [e84]; exact hk84) X98' hS98' hg98' hZ hown
  obtain ⟨rfl, N98q, K98q, F98q⟩ := hQ98
  have N98 := Fr.app N69 N98q
  have Z98 : n0 ≤ T98.heap.size := Nat.le_trans Z84 K98q.1
  have OL98 := OL84.keep K98q (allS gn28 all0)
  have G100 : Exa Z T98.heap b1 "com/example/seriestrace/seriestrace/cli/Summary" := G85.keep K98q
  have G101 : Fld Z T98.heap b1 "com/example/seriestrace/seriestrace/cli/Summary" "unreadable" "J" (.long (0 : Int64)) := G86.keep K98q (ninS ne29 nin0)
  have G102 : Fld Z T98.heap b1 "com/example/seriestrace/seriestrace/cli/Summary" "errors" "J" (.long (0 : Int64)) := G87.keep K98q (ninS ne29 nin0)
  have G103 : Fld Z T98.heap b1 "com/example/seriestrace/seriestrace/cli/Summary" "warnings" "J" (.long (0 : Int64)) := G88.keep K98q (ninS ne29 nin0)
  have G104 : Exa Z T98.heap b3 "com/example/seriestrace/seriestrace/check/Finding" := G89.keep K98q
  have G105 : Fld Z T98.heap b3 "com/example/seriestrace/seriestrace/check/Finding" "rule" "Lcom/example/seriestrace/seriestrace/check/Rule;" (.ref ru) := G90.keep K98q (ninS ne30 nin0)
  have G106 : Exa Z T98.heap b28 "com/example/seriestrace/seriestrace/check/Finding" := G91.keep K98q
  have G107 : Exa Z T98.heap b37 "com/example/seriestrace/seriestrace/check/Rule" := G96.keep K98q
  have G108 : Fld Z T98.heap b37 "com/example/seriestrace/seriestrace/check/Rule" "severity" "Lcom/example/seriestrace/seriestrace/check/Severity;" (.ref wa) := G97.keep K98q (ninS ne39.symm nin0)
  have K109 : ∀ t, Steps p.tables e below (T98.setTop (mkF m 68 #[.val (.int p0), .val (.int p1), .val (.int p2), .val (.int (gu p0)), .val (.int (ge p1)), .val (.int (gw p2)), .val (.ref b1), .val (.ref b3), .val (.ref b28), .unset] [(.int (1 : Int32)), (.int (gw p2))])) t → Steps p.tables e below (s₁.setTop (mkF m 0 #[.val (.int p0), .val (.int p1), .val (.int p2), .unset, .unset, .unset, .unset, .unset, .unset, .unset] [])) t := by
    intro t kt
    refine K99 _ ?_
    show Steps p.tables e below (T84.setTop (mkF m 60 #[.val (.int p0), .val (.int p1), .val (.int p2), .val (.int (gu p0)), .val (.int (ge p1)), .val (.int (gw p2)), .val (.ref b1), .val (.ref b3), .unset, .unset] [(.ref a84), .null, (.ref b37), (.ref b28), (.ref b28)])) _
    refine st98.trans ?_
    show Steps p.tables e below (T98.setTop (mkF m 63 #[.val (.int p0), .val (.int p1), .val (.int p2), .val (.int (gu p0)), .val (.int (ge p1)), .val (.int (gw p2)), .val (.ref b1), .val (.ref b3), .unset, .unset] [(.ref b28)])) _
    refine XS.astore X98.here hx rfl (hb hby at_63) rfl rfl (l' := #[.val (.int p0), .val (.int p1), .val (.int p2), .val (.int (gu p0)), .val (.int (ge p1)), .val (.int (gw p2)), .val (.ref b1), .val (.ref b3), .val (.ref b28), .unset]) rfl ?_
    show Steps p.tables e below (T98.setTop (mkF m 65 #[.val (.int p0), .val (.int p1), .val (.int p2), .val (.int (gu p0)), .val (.int (ge p1)), .val (.int (gw p2)), .val (.ref b1), .val (.ref b3), .val (.ref b28), .unset] [])) _
    refine XS.iload X98.here hx rfl (hb hby at_65) rfl ?_
    show Steps p.tables e below (T98.setTop (mkF m 67 #[.val (.int p0), .val (.int p1), .val (.int p2), .val (.int (gu p0)), .val (.int (ge p1)), .val (.int (gw p2)), .val (.ref b1), .val (.ref b3), .val (.ref b28), .unset] [(.int (gw p2))])) _
    refine XS.iconst X98.here hx rfl (hb hby at_67) ?_
    exact kt
  by_cases hc110 : (gw p2) = (1 : Int32)
  · skip
    obtain ⟨cq111, kq111, q111a, q111b, q111c⟩ := isOf hZ rfl G100
    obtain ⟨_, _, ⟨T111, L111, k111, n111⟩, -, X111, ⟨Lc111, hQ111, l111, y111, z111⟩, st111⟩ := X98.virtualBack hx (y := (⟨"com/example/seriestrace/seriestrace/cli/Summary", "addFinding", "(Lcom/example/seriestrace/seriestrace/check/Finding;)V"⟩ : MethodName)) (z := (⟨"com/example/seriestrace/seriestrace/cli/Summary", "addFinding", "(Lcom/example/seriestrace/seriestrace/check/Finding;)V"⟩ : MethodName)) hown (mvT hZ (hw _ (List.mem_of_getElem? (i := 76) rfl))) (mvT hZ (hw _ (List.mem_of_getElem? (i := 77) rfl))) (notFace_of_selects (args := #[]) (mvT hZ (hw _ (List.mem_of_getElem? (i := 79) rfl)))) (mvT hZ (hw _ (List.mem_of_getElem? (i := 79) rfl))) (mvT hZ (hw _ (List.mem_of_getElem? (i := 78) rfl))) (by decide) (backOf (W := 0) (rm9w l Z a0 hw [] b1 b28 (0 : Int64) (0 : Int64) (0 : Int64) b37 wa er T98.heap n0 Z98 G101 G102 G103 G100 gn1 F98q G108 G106 G107 (Ser.ext OL98.2) ne29 ne38 hwe) hZ (hw _ (List.mem_of_getElem? (i := 80) rfl)) (hw _ (List.mem_of_getElem? (i := 3) rfl)) (by decide) (by decide)) q111a q111c (g := (mkF m 75 #[.val (.int p0), .val (.int p1), .val (.int p2), .val (.int (gu p0)), .val (.int (ge p1)), .val (.int (gw p2)), .val (.ref b1), .val (.ref b3), .val (.ref b28), .unset] [(.ref b28), (.ref b1)])) rfl (by rw [hml]; rfl) (Steps.refl _) (argsL := [(.ref b28)]) (rest := []) (lenOf pd_6 rfl) rfl (by show 2 * 0 + _ ≤ _; exact Nat.le_of_eq rfl) (hb hby at_75) (fun _ _ => ⟨rfl, rfl, (by decide : 22 + 0 ≤ _), (by decide : 200 + 0 ≤ _)⟩)
    dsimp only [Pt.U, Pt.locs, Pt.cells, Pt.slots] at X111 l111 y111 z111 st111 hQ111
    subst l111 y111 z111
    obtain ⟨rfl, N111q, K111q, F111a, F111b, F111c⟩ := hQ111
    have N111 := Fr.app N98 N111q
    have Z111 : n0 ≤ T111.heap.size := Nat.le_trans Z98 K111q.1
    have KS111 := Nat.le_trans (Nat.le_refl _) K111q.1
    have OL111 := OL98.keep K111q (allS gn1 all0)
    have G112 : Exa Z T111.heap b1 "com/example/seriestrace/seriestrace/cli/Summary" := G100.keep K111q
    have G113 : Exa Z T111.heap b3 "com/example/seriestrace/seriestrace/check/Finding" := G104.keep K111q
    have G114 : Fld Z T111.heap b3 "com/example/seriestrace/seriestrace/check/Finding" "rule" "Lcom/example/seriestrace/seriestrace/check/Rule;" (.ref ru) := G105.keep K111q (ninS ne4.symm nin0)
    have G115 : Exa Z T111.heap b28 "com/example/seriestrace/seriestrace/check/Finding" := G106.keep K111q
    have G116 : Fld Z T111.heap b28 "com/example/seriestrace/seriestrace/check/Finding" "rule" "Lcom/example/seriestrace/seriestrace/check/Rule;" (.ref b37) := F98q.keep K111q (ninS ne29.symm nin0)
    have G117 : Exa Z T111.heap b37 "com/example/seriestrace/seriestrace/check/Rule" := G107.keep K111q
    have G118 : Fld Z T111.heap b37 "com/example/seriestrace/seriestrace/check/Rule" "severity" "Lcom/example/seriestrace/seriestrace/check/Severity;" (.ref wa) := G108.keep K111q (ninS ne38.symm nin0)
    have K119 : ∀ t, Steps p.tables e below (T111.setTop (mkF m 80 #[.val (.int p0), .val (.int p1), .val (.int p2), .val (.int (gu p0)), .val (.int (ge p1)), .val (.int (gw p2)), .val (.ref b1), .val (.ref b3), .val (.ref b28), .unset] [(.int (1 : Int32)), (.int (gu p0))])) t → Steps p.tables e below (s₁.setTop (mkF m 0 #[.val (.int p0), .val (.int p1), .val (.int p2), .unset, .unset, .unset, .unset, .unset, .unset, .unset] [])) t := by
      intro t kt
      refine K109 _ ?_
      show Steps p.tables e below (T98.setTop (mkF m 68 #[.val (.int p0), .val (.int p1), .val (.int p2), .val (.int (gu p0)), .val (.int (ge p1)), .val (.int (gw p2)), .val (.ref b1), .val (.ref b3), .val (.ref b28), .unset] [(.int (1 : Int32)), (.int (gw p2))])) _
      refine XS.icmpNo X98.here hx rfl (hb hby at_68) rfl (teq hc110).2 ?_
      show Steps p.tables e below (T98.setTop (mkF m 71 #[.val (.int p0), .val (.int p1), .val (.int p2), .val (.int (gu p0)), .val (.int (ge p1)), .val (.int (gw p2)), .val (.ref b1), .val (.ref b3), .val (.ref b28), .unset] [])) _
      refine XS.aload X98.here hx rfl (hb hby at_71) rfl rfl ?_
      show Steps p.tables e below (T98.setTop (mkF m 73 #[.val (.int p0), .val (.int p1), .val (.int p2), .val (.int (gu p0)), .val (.int (ge p1)), .val (.int (gw p2)), .val (.ref b1), .val (.ref b3), .val (.ref b28), .unset] [(.ref b1)])) _
      refine XS.aload X98.here hx rfl (hb hby at_73) rfl rfl ?_
      show Steps p.tables e below (T98.setTop (mkF m 75 #[.val (.int p0), .val (.int p1), .val (.int p2), .val (.int (gu p0)), .val (.int (ge p1)), .val (.int (gw p2)), .val (.ref b1), .val (.ref b3), .val (.ref b28), .unset] [(.ref b28), (.ref b1)])) _
      refine st111.trans ?_
      show Steps p.tables e below (T111.setTop (mkF m 78 #[.val (.int p0), .val (.int p1), .val (.int p2), .val (.int (gu p0)), .val (.int (ge p1)), .val (.int (gw p2)), .val (.ref b1), .val (.ref b3), .val (.ref b28), .unset] [])) _
      refine XS.iloadN X111.here hx rfl (hb hby at_78) rfl ?_
      show Steps p.tables e below (T111.setTop (mkF m 79 #[.val (.int p0), .val (.int p1), .val (.int p2), .val (.int (gu p0)), .val (.int (ge p1)), .val (.int (gw p2)), .val (.ref b1), .val (.ref b3), .val (.ref b28), .unset] [(.int (gu p0))])) _
      refine XS.iconst X111.here hx rfl (hb hby at_79) ?_
      exact kt
    by_cases hc120 : (gu p0) = (1 : Int32)
    · skip
      obtain ⟨cq121, kq121, q121a, q121b, q121c⟩ := isOf hZ rfl G112
      obtain ⟨_, _, ⟨T121, L121, k121, n121⟩, -, X121, ⟨Lc121, hQ121, l121, y121, z121⟩, st121⟩ := X111.virtualBack hx (y := (⟨"com/example/seriestrace/seriestrace/cli/Summary", "addUnreadable", "()V"⟩ : MethodName)) (z := (⟨"com/example/seriestrace/seriestrace/cli/Summary", "addUnreadable", "()V"⟩ : MethodName)) hown (mvT hZ (hw _ (List.mem_of_getElem? (i := 95) rfl))) (mvT hZ (hw _ (List.mem_of_getElem? (i := 96) rfl))) (notFace_of_selects (args := #[]) (mvT hZ (hw _ (List.mem_of_getElem? (i := 98) rfl)))) (mvT hZ (hw _ (List.mem_of_getElem? (i := 98) rfl))) (mvT hZ (hw _ (List.mem_of_getElem? (i := 97) rfl))) (by decide) (backOf (W := 0) (rm12 l Z a0 hw [] b1 (0 : Int64) (0 : Int64) ((0 : Int64) + (1 : Int64)) T111.heap n0 Z111 F111a F111b F111c G112 gn1) hZ (hw _ (List.mem_of_getElem? (i := 99) rfl)) (hw _ (List.mem_of_getElem? (i := 3) rfl)) (by decide) (by decide)) q121a q121c (g := (mkF m 85 #[.val (.int p0), .val (.int p1), .val (.int p2), .val (.int (gu p0)), .val (.int (ge p1)), .val (.int (gw p2)), .val (.ref b1), .val (.ref b3), .val (.ref b28), .unset] [(.ref b1)])) rfl (by rw [hml]; rfl) (Steps.refl _) (argsL := []) (rest := []) (lenOf pd_0 rfl) rfl (by show 2 * 0 + _ ≤ _; exact Nat.le_of_eq rfl) (hb hby at_85) (fun _ _ => ⟨rfl, rfl, (by decide : 22 + 0 ≤ _), (by decide : 200 + 0 ≤ _)⟩)
      dsimp only [Pt.U, Pt.locs, Pt.cells, Pt.slots] at X121 l121 y121 z121 st121 hQ121
      subst l121 y121 z121
      obtain ⟨rfl, N121q, K121q, F121a, F121b, F121c⟩ := hQ121
      have N121 := Fr.app N111 N121q
      have Z121 : n0 ≤ T121.heap.size := Nat.le_trans Z111 K121q.1
      have KS121 := Nat.le_trans KS111 K121q.1
      have OL121 := OL111.keep K121q (allS gn1 all0)
      have G122 : Exa Z T121.heap b1 "com/example/seriestrace/seriestrace/cli/Summary" := G112.keep K121q
      have G123 : Exa Z T121.heap b3 "com/example/seriestrace/seriestrace/check/Finding" := G113.keep K121q
      have G124 : Fld Z T121.heap b3 "com/example/seriestrace/seriestrace/check/Finding" "rule" "Lcom/example/seriestrace/seriestrace/check/Rule;" (.ref ru) := G114.keep K121q (ninS ne4.symm nin0)
      have G125 : Exa Z T121.heap b28 "com/example/seriestrace/seriestrace/check/Finding" := G115.keep K121q
      have G126 : Fld Z T121.heap b28 "com/example/seriestrace/seriestrace/check/Finding" "rule" "Lcom/example/seriestrace/seriestrace/check/Rule;" (.ref b37) := G116.keep K121q (ninS ne29.symm nin0)
      have G127 : Exa Z T121.heap b37 "com/example/seriestrace/seriestrace/check/Rule" := G117.keep K121q
      have G128 : Fld Z T121.heap b37 "com/example/seriestrace/seriestrace/check/Rule" "severity" "Lcom/example/seriestrace/seriestrace/check/Severity;" (.ref wa) := G118.keep K121q (ninS ne38.symm nin0)
      have K129 : ∀ t, Steps p.tables e below (T121.setTop (mkF m 91 #[.val (.int p0), .val (.int p1), .val (.int p2), .val (.int (gu p0)), .val (.int (ge p1)), .val (.int (gw p2)), .val (.ref b1), .val (.ref b3), .val (.ref b28), .unset] [(.int (1 : Int32)), (.int (ge p1))])) t → Steps p.tables e below (s₁.setTop (mkF m 0 #[.val (.int p0), .val (.int p1), .val (.int p2), .unset, .unset, .unset, .unset, .unset, .unset, .unset] [])) t := by
        intro t kt
        refine K119 _ ?_
        show Steps p.tables e below (T111.setTop (mkF m 80 #[.val (.int p0), .val (.int p1), .val (.int p2), .val (.int (gu p0)), .val (.int (ge p1)), .val (.int (gw p2)), .val (.ref b1), .val (.ref b3), .val (.ref b28), .unset] [(.int (1 : Int32)), (.int (gu p0))])) _
        refine XS.icmpNo X111.here hx rfl (hb hby at_80) rfl (teq hc120).2 ?_
        show Steps p.tables e below (T111.setTop (mkF m 83 #[.val (.int p0), .val (.int p1), .val (.int p2), .val (.int (gu p0)), .val (.int (ge p1)), .val (.int (gw p2)), .val (.ref b1), .val (.ref b3), .val (.ref b28), .unset] [])) _
        refine XS.aload X111.here hx rfl (hb hby at_83) rfl rfl ?_
        show Steps p.tables e below (T111.setTop (mkF m 85 #[.val (.int p0), .val (.int p1), .val (.int p2), .val (.int (gu p0)), .val (.int (ge p1)), .val (.int (gw p2)), .val (.ref b1), .val (.ref b3), .val (.ref b28), .unset] [(.ref b1)])) _
        refine st121.trans ?_
        show Steps p.tables e below (T121.setTop (mkF m 88 #[.val (.int p0), .val (.int p1), .val (.int p2), .val (.int (gu p0)), .val (.int (ge p1)), .val (.int (gw p2)), .val (.ref b1), .val (.ref b3), .val (.ref b28), .unset] [])) _
        refine XS.iload X121.here hx rfl (hb hby at_88) rfl ?_
        show Steps p.tables e below (T121.setTop (mkF m 90 #[.val (.int p0), .val (.int p1), .val (.int p2), .val (.int (gu p0)), .val (.int (ge p1)), .val (.int (gw p2)), .val (.ref b1), .val (.ref b3), .val (.ref b28), .unset] [(.int (ge p1))])) _
        refine XS.iconst X121.here hx rfl (hb hby at_90) ?_
        exact kt
      by_cases hc130 : (ge p1) < (1 : Int32)
      · skip
        obtain ⟨cq131, kq131, q131a, q131b, q131c⟩ := isOf hZ rfl G122
        obtain ⟨_, _, ⟨T131, L131, k131, n131⟩, -, X131, ⟨Lc131, hQ131, l131, y131, z131⟩, st131⟩ := X121.virtualBack hx (y := (⟨"com/example/seriestrace/seriestrace/cli/Summary", "exitStatus", "()I"⟩ : MethodName)) (z := (⟨"com/example/seriestrace/seriestrace/cli/Summary", "exitStatus", "()I"⟩ : MethodName)) hown (mvT hZ (hw _ (List.mem_of_getElem? (i := 67) rfl))) (mvT hZ (hw _ (List.mem_of_getElem? (i := 68) rfl))) (notFace_of_selects (args := #[]) (mvT hZ (hw _ (List.mem_of_getElem? (i := 70) rfl)))) (mvT hZ (hw _ (List.mem_of_getElem? (i := 70) rfl))) (mvT hZ (hw _ (List.mem_of_getElem? (i := 69) rfl))) (by decide) (backOf (W := 0) (rm8 l Z a0 hw [] b1 ((0 : Int64) + (1 : Int64)) (0 : Int64) T121.heap F121a F121b) hZ (hw _ (List.mem_of_getElem? (i := 71) rfl)) (hw _ (List.mem_of_getElem? (i := 3) rfl)) (by decide) (by decide)) q131a q131c (g := (mkF m 140 #[.val (.int p0), .val (.int p1), .val (.int p2), .val (.int (gu p0)), .val (.int (ge p1)), .val (.int (gw p2)), .val (.ref b1), .val (.ref b3), .val (.ref b28), .val (.int (2 : Int32))] [(.ref b1)])) rfl (by rw [hml]; rfl) (Steps.refl _) (argsL := []) (rest := []) (lenOf pd_7 rfl) rfl (by show 2 * 0 + _ ≤ _; exact Nat.le_of_eq rfl) (hb hby at_140) (fun _ _ => ⟨rfl, rfl, (by decide : 22 + 0 ≤ _), (by decide : 200 + 0 ≤ _)⟩)
        dsimp only [Pt.U, Pt.locs, Pt.cells, Pt.slots] at X131 l131 y131 z131 st131 hQ131
        subst l131 y131 z131
        obtain ⟨rfl, rfl, e131⟩ := hQ131
        try rw [List.append_nil] at X131
        have K132 : ∀ t, Steps p.tables e below (T131.setTop (mkF m 153 #[.val (.int p0), .val (.int p1), .val (.int p2), .val (.int (gu p0)), .val (.int (ge p1)), .val (.int (gw p2)), .val (.ref b1), .val (.ref b3), .val (.ref b28), .val (.int (2 : Int32))] [(.int (1 : Int32))])) t → Steps p.tables e below (s₁.setTop (mkF m 0 #[.val (.int p0), .val (.int p1), .val (.int p2), .unset, .unset, .unset, .unset, .unset, .unset, .unset] [])) t := by
          intro t kt
          refine K129 _ ?_
          show Steps p.tables e below (T121.setTop (mkF m 91 #[.val (.int p0), .val (.int p1), .val (.int p2), .val (.int (gu p0)), .val (.int (ge p1)), .val (.int (gw p2)), .val (.ref b1), .val (.ref b3), .val (.ref b28), .unset] [(.int (1 : Int32)), (.int (ge p1))])) _
          refine XS.icmpYes X121.here hx rfl (pc0 := 91) (pc' := 101) rfl (hb hby at_91) rfl (tlt hc130).1 (by decide) (by decide) ?_
          show Steps p.tables e below (T121.setTop (mkF m 101 #[.val (.int p0), .val (.int p1), .val (.int p2), .val (.int (gu p0)), .val (.int (ge p1)), .val (.int (gw p2)), .val (.ref b1), .val (.ref b3), .val (.ref b28), .unset] [])) _
          refine XS.iload X121.here hx rfl (hb hby at_101) rfl ?_
          show Steps p.tables e below (T121.setTop (mkF m 103 #[.val (.int p0), .val (.int p1), .val (.int p2), .val (.int (gu p0)), .val (.int (ge p1)), .val (.int (gw p2)), .val (.ref b1), .val (.ref b3), .val (.ref b28), .unset] [(.int (ge p1))])) _
          refine XS.iconst X121.here hx rfl (hb hby at_103) ?_
          show Steps p.tables e below (T121.setTop (mkF m 104 #[.val (.int p0), .val (.int p1), .val (.int p2), .val (.int (gu p0)), .val (.int (ge p1)), .val (.int (gw p2)), .val (.ref b1), .val (.ref b3), .val (.ref b28), .unset] [(.int (2 : Int32)), (.int (ge p1))])) _
          refine XS.icmpYes X121.here hx rfl (pc0 := 104) (pc' := 114) rfl (hb hby at_104) rfl (tlt (show (ge p1) < (2 : Int32) from (own_e2 hc130))).1 (by decide) (by decide) ?_
          show Steps p.tables e below (T121.setTop (mkF m 114 #[.val (.int p0), .val (.int p1), .val (.int p2), .val (.int (gu p0)), .val (.int (ge p1)), .val (.int (gw p2)), .val (.ref b1), .val (.ref b3), .val (.ref b28), .unset] [])) _
          refine XS.iloadN X121.here hx rfl (hb hby at_114) rfl ?_
          show Steps p.tables e below (T121.setTop (mkF m 115 #[.val (.int p0), .val (.int p1), .val (.int p2), .val (.int (gu p0)), .val (.int (ge p1)), .val (.int (gw p2)), .val (.ref b1), .val (.ref b3), .val (.ref b28), .unset] [(.int (gu p0))])) _
          refine XS.ifNo X121.here hx rfl (hb hby at_115) rfl ((if0 _ _).trans (tlt (show (0 : Int32) < (gu p0) from (own_u1 hc120))).2.2.2) ?_
          show Steps p.tables e below (T121.setTop (mkF m 118 #[.val (.int p0), .val (.int p1), .val (.int p2), .val (.int (gu p0)), .val (.int (ge p1)), .val (.int (gw p2)), .val (.ref b1), .val (.ref b3), .val (.ref b28), .unset] [])) _
          refine XS.iconst X121.here hx rfl (hb hby at_118) ?_
          show Steps p.tables e below (T121.setTop (mkF m 119 #[.val (.int p0), .val (.int p1), .val (.int p2), .val (.int (gu p0)), .val (.int (ge p1)), .val (.int (gw p2)), .val (.ref b1), .val (.ref b3), .val (.ref b28), .unset] [(.int (2 : Int32))])) _
          refine XS.istore X121.here hx rfl (hb hby at_119) rfl (l' := #[.val (.int p0), .val (.int p1), .val (.int p2), .val (.int (gu p0)), .val (.int (ge p1)), .val (.int (gw p2)), .val (.ref b1), .val (.ref b3), .val (.ref b28), .val (.int (2 : Int32))]) rfl ?_
          show Steps p.tables e below (T121.setTop (mkF m 121 #[.val (.int p0), .val (.int p1), .val (.int p2), .val (.int (gu p0)), .val (.int (ge p1)), .val (.int (gw p2)), .val (.ref b1), .val (.ref b3), .val (.ref b28), .val (.int (2 : Int32))] [])) _
          refine XS.goto X121.here hx rfl (pc0 := 121) (pc' := 138) rfl (hb hby at_121) (by decide) (by decide) ?_
          show Steps p.tables e below (T121.setTop (mkF m 138 #[.val (.int p0), .val (.int p1), .val (.int p2), .val (.int (gu p0)), .val (.int (ge p1)), .val (.int (gw p2)), .val (.ref b1), .val (.ref b3), .val (.ref b28), .val (.int (2 : Int32))] [])) _
          refine XS.aload X121.here hx rfl (hb hby at_138) rfl rfl ?_
          show Steps p.tables e below (T121.setTop (mkF m 140 #[.val (.int p0), .val (.int p1), .val (.int p2), .val (.int (gu p0)), .val (.int (ge p1)), .val (.int (gw p2)), .val (.ref b1), .val (.ref b3), .val (.ref b28), .val (.int (2 : Int32))] [(.ref b1)])) _
          refine st131.trans ?_
          show Steps p.tables e below (T131.setTop (mkF m 143 #[.val (.int p0), .val (.int p1), .val (.int p2), .val (.int (gu p0)), .val (.int (ge p1)), .val (.int (gw p2)), .val (.ref b1), .val (.ref b3), .val (.ref b28), .val (.int (2 : Int32))] [(.int (f8 ((0 : Int64) + (1 : Int64)) (0 : Int64)))])) _
          refine XS.iload X131.here hx rfl (hb hby at_143) rfl ?_
          show Steps p.tables e below (T131.setTop (mkF m 145 #[.val (.int p0), .val (.int p1), .val (.int p2), .val (.int (gu p0)), .val (.int (ge p1)), .val (.int (gw p2)), .val (.ref b1), .val (.ref b3), .val (.ref b28), .val (.int (2 : Int32))] [(.int (2 : Int32)), (.int (f8 ((0 : Int64) + (1 : Int64)) (0 : Int64)))])) _
          refine XS.icmpNo X131.here hx rfl (hb hby at_145) rfl (teq (show (f8 ((0 : Int64) + (1 : Int64)) (0 : Int64)) = (2 : Int32) from (by decide))).2 ?_
          show Steps p.tables e below (T131.setTop (mkF m 148 #[.val (.int p0), .val (.int p1), .val (.int p2), .val (.int (gu p0)), .val (.int (ge p1)), .val (.int (gw p2)), .val (.ref b1), .val (.ref b3), .val (.ref b28), .val (.int (2 : Int32))] [])) _
          refine XS.iconst X131.here hx rfl (hb hby at_148) ?_
          show Steps p.tables e below (T131.setTop (mkF m 149 #[.val (.int p0), .val (.int p1), .val (.int p2), .val (.int (gu p0)), .val (.int (ge p1)), .val (.int (gw p2)), .val (.ref b1), .val (.ref b3), .val (.ref b28), .val (.int (2 : Int32))] [(.int (1 : Int32))])) _
          refine XS.goto X131.here hx rfl (pc0 := 149) (pc' := 153) rfl (hb hby at_149) (by decide) (by decide) ?_
          exact kt
        obtain ⟨fsQ, hr, hrun, hended, hRW⟩ := X131.leaveW (s := s) hS98 (by rw [e131]; exact KS121) (v := some (.int (1 : Int32))) (fun h => by rw [Bd.returns] at h; cases h)
        refine ⟨_, _, pre0 _ (K132 _ ?_), hrun, hended, _, _, rfl, ?_, hRW.1, hRW.2.1, hRW.2.2.1, hRW.2.2.2.mono (by decide) (by decide)⟩
        · show Steps p.tables e below (T131.setTop (mkF m 153 #[.val (.int p0), .val (.int p1), .val (.int p2), .val (.int (gu p0)), .val (.int (ge p1)), .val (.int (gw p2)), .val (.ref b1), .val (.ref b3), .val (.ref b28), .val (.int (2 : Int32))] [(.int (1 : Int32))])) _
          exact retN X131 hx (t := .boolean) Bd.returns (by simp) (hb hby at_153) hr
        · show Q0 Z p0 p1 p2 ru wa er h0 n0 _ T131.heap _
          rw [e131]
          exact ⟨rfl, N121⟩
      · skip
        have FR133 : Fld Z T121.heap ru "com/example/seriestrace/seriestrace/check/Rule" "severity" "Lcom/example/seriestrace/seriestrace/check/Severity;" (.ref er) := Fsev.ext OL121.2
        have ER133 : Exa Z T121.heap ru "com/example/seriestrace/seriestrace/check/Rule" := Eru.ext OL121.2
        have neR133 : b1 ≠ ru := (OL121.ne Eru.lt gn1).symm
        obtain ⟨cq134, kq134, q134a, q134b, q134c⟩ := isOf hZ rfl G122
        obtain ⟨_, _, ⟨T134, L134, k134, n134⟩, -, X134, ⟨Lc134, hQ134, l134, y134, z134⟩, st134⟩ := X121.virtualBack hx (y := (⟨"com/example/seriestrace/seriestrace/cli/Summary", "addFinding", "(Lcom/example/seriestrace/seriestrace/check/Finding;)V"⟩ : MethodName)) (z := (⟨"com/example/seriestrace/seriestrace/cli/Summary", "addFinding", "(Lcom/example/seriestrace/seriestrace/check/Finding;)V"⟩ : MethodName)) hown (mvT hZ (hw _ (List.mem_of_getElem? (i := 76) rfl))) (mvT hZ (hw _ (List.mem_of_getElem? (i := 77) rfl))) (notFace_of_selects (args := #[]) (mvT hZ (hw _ (List.mem_of_getElem? (i := 79) rfl)))) (mvT hZ (hw _ (List.mem_of_getElem? (i := 79) rfl))) (mvT hZ (hw _ (List.mem_of_getElem? (i := 78) rfl))) (by decide) (backOf (W := 0) (rm9e l Z a0 hw [] b1 b3 ((0 : Int64) + (1 : Int64)) (0 : Int64) ((0 : Int64) + (1 : Int64)) ru er er T121.heap n0 Z121 F121a F121b F121c G122 gn1 G124 FR133 G123 ER133 (Ser.ext OL121.2) ne4 neR133 rfl) hZ (hw _ (List.mem_of_getElem? (i := 80) rfl)) (hw _ (List.mem_of_getElem? (i := 3) rfl)) (by decide) (by decide)) q134a q134c (g := (mkF m 98 #[.val (.int p0), .val (.int p1), .val (.int p2), .val (.int (gu p0)), .val (.int (ge p1)), .val (.int (gw p2)), .val (.ref b1), .val (.ref b3), .val (.ref b28), .unset] [(.ref b3), (.ref b1)])) rfl (by rw [hml]; rfl) (Steps.refl _) (argsL := [(.ref b3)]) (rest := []) (lenOf pd_6 rfl) rfl (by show 2 * 0 + _ ≤ _; exact Nat.le_of_eq rfl) (hb hby at_98) (fun _ _ => ⟨rfl, rfl, (by decide : 22 + 0 ≤ _), (by decide : 200 + 0 ≤ _)⟩)
        dsimp only [Pt.U, Pt.locs, Pt.cells, Pt.slots] at X134 l134 y134 z134 st134 hQ134
        subst l134 y134 z134
        obtain ⟨rfl, N134q, K134q, F134a, F134b, F134c⟩ := hQ134
        have N134 := Fr.app N121 N134q
        have Z134 : n0 ≤ T134.heap.size := Nat.le_trans Z121 K134q.1
        have KS134 := Nat.le_trans KS121 K134q.1
        have OL134 := OL121.keep K134q (allS gn1 all0)
        have G135 : Exa Z T134.heap b1 "com/example/seriestrace/seriestrace/cli/Summary" := G122.keep K134q
        have G136 : Exa Z T134.heap b3 "com/example/seriestrace/seriestrace/check/Finding" := G123.keep K134q
        have G137 : Fld Z T134.heap b3 "com/example/seriestrace/seriestrace/check/Finding" "rule" "Lcom/example/seriestrace/seriestrace/check/Rule;" (.ref ru) := G124.keep K134q (ninS ne4.symm nin0)
        have G138 : Exa Z T134.heap b28 "com/example/seriestrace/seriestrace/check/Finding" := G125.keep K134q
        have G139 : Fld Z T134.heap b28 "com/example/seriestrace/seriestrace/check/Finding" "rule" "Lcom/example/seriestrace/seriestrace/check/Rule;" (.ref b37) := G126.keep K134q (ninS ne29.symm nin0)
        have G140 : Exa Z T134.heap b37 "com/example/seriestrace/seriestrace/check/Rule" := G127.keep K134q
        have G141 : Fld Z T134.heap b37 "com/example/seriestrace/seriestrace/check/Rule" "severity" "Lcom/example/seriestrace/seriestrace/check/Severity;" (.ref wa) := G128.keep K134q (ninS ne38.symm nin0)
        have G142 : Fld Z T134.heap ru "com/example/seriestrace/seriestrace/check/Rule" "severity" "Lcom/example/seriestrace/seriestrace/check/Severity;" (.ref er) := FR133.keep K134q (ninS neR133.symm nin0)
        have G143 : Exa Z T134.heap ru "com/example/seriestrace/seriestrace/check/Rule" := ER133.keep K134q
        have K144 : ∀ t, Steps p.tables e below (T134.setTop (mkF m 104 #[.val (.int p0), .val (.int p1), .val (.int p2), .val (.int (gu p0)), .val (.int (ge p1)), .val (.int (gw p2)), .val (.ref b1), .val (.ref b3), .val (.ref b28), .unset] [(.int (2 : Int32)), (.int (ge p1))])) t → Steps p.tables e below (s₁.setTop (mkF m 0 #[.val (.int p0), .val (.int p1), .val (.int p2), .unset, .unset, .unset, .unset, .unset, .unset, .unset] [])) t := by
          intro t kt
          refine K129 _ ?_
          show Steps p.tables e below (T121.setTop (mkF m 91 #[.val (.int p0), .val (.int p1), .val (.int p2), .val (.int (gu p0)), .val (.int (ge p1)), .val (.int (gw p2)), .val (.ref b1), .val (.ref b3), .val (.ref b28), .unset] [(.int (1 : Int32)), (.int (ge p1))])) _
          refine XS.icmpNo X121.here hx rfl (hb hby at_91) rfl (flt hc130).1 ?_
          show Steps p.tables e below (T121.setTop (mkF m 94 #[.val (.int p0), .val (.int p1), .val (.int p2), .val (.int (gu p0)), .val (.int (ge p1)), .val (.int (gw p2)), .val (.ref b1), .val (.ref b3), .val (.ref b28), .unset] [])) _
          refine XS.aload X121.here hx rfl (hb hby at_94) rfl rfl ?_
          show Steps p.tables e below (T121.setTop (mkF m 96 #[.val (.int p0), .val (.int p1), .val (.int p2), .val (.int (gu p0)), .val (.int (ge p1)), .val (.int (gw p2)), .val (.ref b1), .val (.ref b3), .val (.ref b28), .unset] [(.ref b1)])) _
          refine XS.aload X121.here hx rfl (hb hby at_96) rfl rfl ?_
          show Steps p.tables e below (T121.setTop (mkF m 98 #[.val (.int p0), .val (.int p1), .val (.int p2), .val (.int (gu p0)), .val (.int (ge p1)), .val (.int (gw p2)), .val (.ref b1), .val (.ref b3), .val (.ref b28), .unset] [(.ref b3), (.ref b1)])) _
          refine st134.trans ?_
          show Steps p.tables e below (T134.setTop (mkF m 101 #[.val (.int p0), .val (.int p1), .val (.int p2), .val (.int (gu p0)), .val (.int (ge p1)), .val (.int (gw p2)), .val (.ref b1), .val (.ref b3), .val (.ref b28), .unset] [])) _
          refine XS.iload X134.here hx rfl (hb hby at_101) rfl ?_
          show Steps p.tables e below (T134.setTop (mkF m 103 #[.val (.int p0), .val (.int p1), .val (.int p2), .val (.int (gu p0)), .val (.int (ge p1)), .val (.int (gw p2)), .val (.ref b1), .val (.ref b3), .val (.ref b28), .unset] [(.int (ge p1))])) _
          refine XS.iconst X134.here hx rfl (hb hby at_103) ?_
          exact kt
        by_cases hc145 : (ge p1) < (2 : Int32)
        · skip
          obtain ⟨cq146, kq146, q146a, q146b, q146c⟩ := isOf hZ rfl G135
          obtain ⟨_, _, ⟨T146, L146, k146, n146⟩, -, X146, ⟨Lc146, hQ146, l146, y146, z146⟩, st146⟩ := X134.virtualBack hx (y := (⟨"com/example/seriestrace/seriestrace/cli/Summary", "exitStatus", "()I"⟩ : MethodName)) (z := (⟨"com/example/seriestrace/seriestrace/cli/Summary", "exitStatus", "()I"⟩ : MethodName)) hown (mvT hZ (hw _ (List.mem_of_getElem? (i := 67) rfl))) (mvT hZ (hw _ (List.mem_of_getElem? (i := 68) rfl))) (notFace_of_selects (args := #[]) (mvT hZ (hw _ (List.mem_of_getElem? (i := 70) rfl)))) (mvT hZ (hw _ (List.mem_of_getElem? (i := 70) rfl))) (mvT hZ (hw _ (List.mem_of_getElem? (i := 69) rfl))) (by decide) (backOf (W := 0) (rm8 l Z a0 hw [] b1 ((0 : Int64) + (1 : Int64)) ((0 : Int64) + (1 : Int64)) T134.heap F134a F134b) hZ (hw _ (List.mem_of_getElem? (i := 71) rfl)) (hw _ (List.mem_of_getElem? (i := 3) rfl)) (by decide) (by decide)) q146a q146c (g := (mkF m 140 #[.val (.int p0), .val (.int p1), .val (.int p2), .val (.int (gu p0)), .val (.int (ge p1)), .val (.int (gw p2)), .val (.ref b1), .val (.ref b3), .val (.ref b28), .val (.int (2 : Int32))] [(.ref b1)])) rfl (by rw [hml]; rfl) (Steps.refl _) (argsL := []) (rest := []) (lenOf pd_7 rfl) rfl (by show 2 * 0 + _ ≤ _; exact Nat.le_of_eq rfl) (hb hby at_140) (fun _ _ => ⟨rfl, rfl, (by decide : 22 + 0 ≤ _), (by decide : 200 + 0 ≤ _)⟩)
          dsimp only [Pt.U, Pt.locs, Pt.cells, Pt.slots] at X146 l146 y146 z146 st146 hQ146
          subst l146 y146 z146
          obtain ⟨rfl, rfl, e146⟩ := hQ146
          try rw [List.append_nil] at X146
          have K147 : ∀ t, Steps p.tables e below (T146.setTop (mkF m 153 #[.val (.int p0), .val (.int p1), .val (.int p2), .val (.int (gu p0)), .val (.int (ge p1)), .val (.int (gw p2)), .val (.ref b1), .val (.ref b3), .val (.ref b28), .val (.int (2 : Int32))] [(.int (1 : Int32))])) t → Steps p.tables e below (s₁.setTop (mkF m 0 #[.val (.int p0), .val (.int p1), .val (.int p2), .unset, .unset, .unset, .unset, .unset, .unset, .unset] [])) t := by
            intro t kt
            refine K144 _ ?_
            show Steps p.tables e below (T134.setTop (mkF m 104 #[.val (.int p0), .val (.int p1), .val (.int p2), .val (.int (gu p0)), .val (.int (ge p1)), .val (.int (gw p2)), .val (.ref b1), .val (.ref b3), .val (.ref b28), .unset] [(.int (2 : Int32)), (.int (ge p1))])) _
            refine XS.icmpYes X134.here hx rfl (pc0 := 104) (pc' := 114) rfl (hb hby at_104) rfl (tlt hc145).1 (by decide) (by decide) ?_
            show Steps p.tables e below (T134.setTop (mkF m 114 #[.val (.int p0), .val (.int p1), .val (.int p2), .val (.int (gu p0)), .val (.int (ge p1)), .val (.int (gw p2)), .val (.ref b1), .val (.ref b3), .val (.ref b28), .unset] [])) _
            refine XS.iloadN X134.here hx rfl (hb hby at_114) rfl ?_
            show Steps p.tables e below (T134.setTop (mkF m 115 #[.val (.int p0), .val (.int p1), .val (.int p2), .val (.int (gu p0)), .val (.int (ge p1)), .val (.int (gw p2)), .val (.ref b1), .val (.ref b3), .val (.ref b28), .unset] [(.int (gu p0))])) _
            refine XS.ifNo X134.here hx rfl (hb hby at_115) rfl ((if0 _ _).trans (tlt (show (0 : Int32) < (gu p0) from (own_u1 hc120))).2.2.2) ?_
            show Steps p.tables e below (T134.setTop (mkF m 118 #[.val (.int p0), .val (.int p1), .val (.int p2), .val (.int (gu p0)), .val (.int (ge p1)), .val (.int (gw p2)), .val (.ref b1), .val (.ref b3), .val (.ref b28), .unset] [])) _
            refine XS.iconst X134.here hx rfl (hb hby at_118) ?_
            show Steps p.tables e below (T134.setTop (mkF m 119 #[.val (.int p0), .val (.int p1), .val (.int p2), .val (.int (gu p0)), .val (.int (ge p1)), .val (.int (gw p2)), .val (.ref b1), .val (.ref b3), .val (.ref b28), .unset] [(.int (2 : Int32))])) _
            refine XS.istore X134.here hx rfl (hb hby at_119) rfl (l' := #[.val (.int p0), .val (.int p1), .val (.int p2), .val (.int (gu p0)), .val (.int (ge p1)), .val (.int (gw p2)), .val (.ref b1), .val (.ref b3), .val (.ref b28), .val (.int (2 : Int32))]) rfl ?_
            show Steps p.tables e below (T134.setTop (mkF m 121 #[.val (.int p0), .val (.int p1), .val (.int p2), .val (.int (gu p0)), .val (.int (ge p1)), .val (.int (gw p2)), .val (.ref b1), .val (.ref b3), .val (.ref b28), .val (.int (2 : Int32))] [])) _
            refine XS.goto X134.here hx rfl (pc0 := 121) (pc' := 138) rfl (hb hby at_121) (by decide) (by decide) ?_
            show Steps p.tables e below (T134.setTop (mkF m 138 #[.val (.int p0), .val (.int p1), .val (.int p2), .val (.int (gu p0)), .val (.int (ge p1)), .val (.int (gw p2)), .val (.ref b1), .val (.ref b3), .val (.ref b28), .val (.int (2 : Int32))] [])) _
            refine XS.aload X134.here hx rfl (hb hby at_138) rfl rfl ?_
            show Steps p.tables e below (T134.setTop (mkF m 140 #[.val (.int p0), .val (.int p1), .val (.int p2), .val (.int (gu p0)), .val (.int (ge p1)), .val (.int (gw p2)), .val (.ref b1), .val (.ref b3), .val (.ref b28), .val (.int (2 : Int32))] [(.ref b1)])) _
            refine st146.trans ?_
            show Steps p.tables e below (T146.setTop (mkF m 143 #[.val (.int p0), .val (.int p1), .val (.int p2), .val (.int (gu p0)), .val (.int (ge p1)), .val (.int (gw p2)), .val (.ref b1), .val (.ref b3), .val (.ref b28), .val (.int (2 : Int32))] [(.int (f8 ((0 : Int64) + (1 : Int64)) ((0 : Int64) + (1 : Int64))))])) _
            refine XS.iload X146.here hx rfl (hb hby at_143) rfl ?_
            show Steps p.tables e below (T146.setTop (mkF m 145 #[.val (.int p0), .val (.int p1), .val (.int p2), .val (.int (gu p0)), .val (.int (ge p1)), .val (.int (gw p2)), .val (.ref b1), .val (.ref b3), .val (.ref b28), .val (.int (2 : Int32))] [(.int (2 : Int32)), (.int (f8 ((0 : Int64) + (1 : Int64)) ((0 : Int64) + (1 : Int64))))])) _
            refine XS.icmpNo X146.here hx rfl (hb hby at_145) rfl (teq (show (f8 ((0 : Int64) + (1 : Int64)) ((0 : Int64) + (1 : Int64))) = (2 : Int32) from (by decide))).2 ?_
            show Steps p.tables e below (T146.setTop (mkF m 148 #[.val (.int p0), .val (.int p1), .val (.int p2), .val (.int (gu p0)), .val (.int (ge p1)), .val (.int (gw p2)), .val (.ref b1), .val (.ref b3), .val (.ref b28), .val (.int (2 : Int32))] [])) _
            refine XS.iconst X146.here hx rfl (hb hby at_148) ?_
            show Steps p.tables e below (T146.setTop (mkF m 149 #[.val (.int p0), .val (.int p1), .val (.int p2), .val (.int (gu p0)), .val (.int (ge p1)), .val (.int (gw p2)), .val (.ref b1), .val (.ref b3), .val (.ref b28), .val (.int (2 : Int32))] [(.int (1 : Int32))])) _
            refine XS.goto X146.here hx rfl (pc0 := 149) (pc' := 153) rfl (hb hby at_149) (by decide) (by decide) ?_
            exact kt
          obtain ⟨fsQ, hr, hrun, hended, hRW⟩ := X146.leaveW (s := s) hS98 (by rw [e146]; exact KS134) (v := some (.int (1 : Int32))) (fun h => by rw [Bd.returns] at h; cases h)
          refine ⟨_, _, pre0 _ (K147 _ ?_), hrun, hended, _, _, rfl, ?_, hRW.1, hRW.2.1, hRW.2.2.1, hRW.2.2.2.mono (by decide) (by decide)⟩
          · show Steps p.tables e below (T146.setTop (mkF m 153 #[.val (.int p0), .val (.int p1), .val (.int p2), .val (.int (gu p0)), .val (.int (ge p1)), .val (.int (gw p2)), .val (.ref b1), .val (.ref b3), .val (.ref b28), .val (.int (2 : Int32))] [(.int (1 : Int32))])) _
            exact retN X146 hx (t := .boolean) Bd.returns (by simp) (hb hby at_153) hr
          · show Q0 Z p0 p1 p2 ru wa er h0 n0 _ T146.heap _
            rw [e146]
            exact ⟨rfl, N134⟩
        · skip
          have FR148 : Fld Z T134.heap ru "com/example/seriestrace/seriestrace/check/Rule" "severity" "Lcom/example/seriestrace/seriestrace/check/Severity;" (.ref er) := Fsev.ext OL134.2
          have ER148 : Exa Z T134.heap ru "com/example/seriestrace/seriestrace/check/Rule" := Eru.ext OL134.2
          have neR148 : b1 ≠ ru := (OL134.ne Eru.lt gn1).symm
          obtain ⟨cq149, kq149, q149a, q149b, q149c⟩ := isOf hZ rfl G135
          obtain ⟨_, _, ⟨T149, L149, k149, n149⟩, -, X149, ⟨Lc149, hQ149, l149, y149, z149⟩, st149⟩ := X134.virtualBack hx (y := (⟨"com/example/seriestrace/seriestrace/cli/Summary", "addFinding", "(Lcom/example/seriestrace/seriestrace/check/Finding;)V"⟩ : MethodName)) (z := (⟨"com/example/seriestrace/seriestrace/cli/Summary", "addFinding", "(Lcom/example/seriestrace/seriestrace/check/Finding;)V"⟩ : MethodName)) hown (mvT hZ (hw _ (List.mem_of_getElem? (i := 76) rfl))) (mvT hZ (hw _ (List.mem_of_getElem? (i := 77) rfl))) (notFace_of_selects (args := #[]) (mvT hZ (hw _ (List.mem_of_getElem? (i := 79) rfl)))) (mvT hZ (hw _ (List.mem_of_getElem? (i := 79) rfl))) (mvT hZ (hw _ (List.mem_of_getElem? (i := 78) rfl))) (by decide) (backOf (W := 0) (rm9e l Z a0 hw [] b1 b3 ((0 : Int64) + (1 : Int64)) ((0 : Int64) + (1 : Int64)) ((0 : Int64) + (1 : Int64)) ru er er T134.heap n0 Z134 F134a F134b F134c G135 gn1 G137 FR148 G136 ER148 (Ser.ext OL134.2) ne4 neR148 rfl) hZ (hw _ (List.mem_of_getElem? (i := 80) rfl)) (hw _ (List.mem_of_getElem? (i := 3) rfl)) (by decide) (by decide)) q149a q149c (g := (mkF m 111 #[.val (.int p0), .val (.int p1), .val (.int p2), .val (.int (gu p0)), .val (.int (ge p1)), .val (.int (gw p2)), .val (.ref b1), .val (.ref b3), .val (.ref b28), .unset] [(.ref b3), (.ref b1)])) rfl (by rw [hml]; rfl) (Steps.refl _) (argsL := [(.ref b3)]) (rest := []) (lenOf pd_6 rfl) rfl (by show 2 * 0 + _ ≤ _; exact Nat.le_of_eq rfl) (hb hby at_111) (fun _ _ => ⟨rfl, rfl, (by decide : 22 + 0 ≤ _), (by decide : 200 + 0 ≤ _)⟩)
          dsimp only [Pt.U, Pt.locs, Pt.cells, Pt.slots] at X149 l149 y149 z149 st149 hQ149
          subst l149 y149 z149
          obtain ⟨rfl, N149q, K149q, F149a, F149b, F149c⟩ := hQ149
          have N149 := Fr.app N134 N149q
          have Z149 : n0 ≤ T149.heap.size := Nat.le_trans Z134 K149q.1
          have KS149 := Nat.le_trans KS134 K149q.1
          have OL149 := OL134.keep K149q (allS gn1 all0)
          have G150 : Exa Z T149.heap b1 "com/example/seriestrace/seriestrace/cli/Summary" := G135.keep K149q
          have G151 : Exa Z T149.heap b3 "com/example/seriestrace/seriestrace/check/Finding" := G136.keep K149q
          have G152 : Fld Z T149.heap b3 "com/example/seriestrace/seriestrace/check/Finding" "rule" "Lcom/example/seriestrace/seriestrace/check/Rule;" (.ref ru) := G137.keep K149q (ninS ne4.symm nin0)
          have G153 : Exa Z T149.heap b28 "com/example/seriestrace/seriestrace/check/Finding" := G138.keep K149q
          have G154 : Fld Z T149.heap b28 "com/example/seriestrace/seriestrace/check/Finding" "rule" "Lcom/example/seriestrace/seriestrace/check/Rule;" (.ref b37) := G139.keep K149q (ninS ne29.symm nin0)
          have G155 : Exa Z T149.heap b37 "com/example/seriestrace/seriestrace/check/Rule" := G140.keep K149q
          have G156 : Fld Z T149.heap b37 "com/example/seriestrace/seriestrace/check/Rule" "severity" "Lcom/example/seriestrace/seriestrace/check/Severity;" (.ref wa) := G141.keep K149q (ninS ne38.symm nin0)
          have G157 : Fld Z T149.heap ru "com/example/seriestrace/seriestrace/check/Rule" "severity" "Lcom/example/seriestrace/seriestrace/check/Severity;" (.ref er) := FR148.keep K149q (ninS neR148.symm nin0)
          have G158 : Exa Z T149.heap ru "com/example/seriestrace/seriestrace/check/Rule" := ER148.keep K149q
          obtain ⟨cq159, kq159, q159a, q159b, q159c⟩ := isOf hZ rfl G150
          obtain ⟨_, _, ⟨T159, L159, k159, n159⟩, -, X159, ⟨Lc159, hQ159, l159, y159, z159⟩, st159⟩ := X149.virtualBack hx (y := (⟨"com/example/seriestrace/seriestrace/cli/Summary", "exitStatus", "()I"⟩ : MethodName)) (z := (⟨"com/example/seriestrace/seriestrace/cli/Summary", "exitStatus", "()I"⟩ : MethodName)) hown (mvT hZ (hw _ (List.mem_of_getElem? (i := 67) rfl))) (mvT hZ (hw _ (List.mem_of_getElem? (i := 68) rfl))) (notFace_of_selects (args := #[]) (mvT hZ (hw _ (List.mem_of_getElem? (i := 70) rfl)))) (mvT hZ (hw _ (List.mem_of_getElem? (i := 70) rfl))) (mvT hZ (hw _ (List.mem_of_getElem? (i := 69) rfl))) (by decide) (backOf (W := 0) (rm8 l Z a0 hw [] b1 ((0 : Int64) + (1 : Int64)) (((0 : Int64) + (1 : Int64)) + (1 : Int64)) T149.heap F149a F149b) hZ (hw _ (List.mem_of_getElem? (i := 71) rfl)) (hw _ (List.mem_of_getElem? (i := 3) rfl)) (by decide) (by decide)) q159a q159c (g := (mkF m 140 #[.val (.int p0), .val (.int p1), .val (.int p2), .val (.int (gu p0)), .val (.int (ge p1)), .val (.int (gw p2)), .val (.ref b1), .val (.ref b3), .val (.ref b28), .val (.int (2 : Int32))] [(.ref b1)])) rfl (by rw [hml]; rfl) (Steps.refl _) (argsL := []) (rest := []) (lenOf pd_7 rfl) rfl (by show 2 * 0 + _ ≤ _; exact Nat.le_of_eq rfl) (hb hby at_140) (fun _ _ => ⟨rfl, rfl, (by decide : 22 + 0 ≤ _), (by decide : 200 + 0 ≤ _)⟩)
          dsimp only [Pt.U, Pt.locs, Pt.cells, Pt.slots] at X159 l159 y159 z159 st159 hQ159
          subst l159 y159 z159
          obtain ⟨rfl, rfl, e159⟩ := hQ159
          try rw [List.append_nil] at X159
          have K160 : ∀ t, Steps p.tables e below (T159.setTop (mkF m 153 #[.val (.int p0), .val (.int p1), .val (.int p2), .val (.int (gu p0)), .val (.int (ge p1)), .val (.int (gw p2)), .val (.ref b1), .val (.ref b3), .val (.ref b28), .val (.int (2 : Int32))] [(.int (1 : Int32))])) t → Steps p.tables e below (s₁.setTop (mkF m 0 #[.val (.int p0), .val (.int p1), .val (.int p2), .unset, .unset, .unset, .unset, .unset, .unset, .unset] [])) t := by
            intro t kt
            refine K144 _ ?_
            show Steps p.tables e below (T134.setTop (mkF m 104 #[.val (.int p0), .val (.int p1), .val (.int p2), .val (.int (gu p0)), .val (.int (ge p1)), .val (.int (gw p2)), .val (.ref b1), .val (.ref b3), .val (.ref b28), .unset] [(.int (2 : Int32)), (.int (ge p1))])) _
            refine XS.icmpNo X134.here hx rfl (hb hby at_104) rfl (flt hc145).1 ?_
            show Steps p.tables e below (T134.setTop (mkF m 107 #[.val (.int p0), .val (.int p1), .val (.int p2), .val (.int (gu p0)), .val (.int (ge p1)), .val (.int (gw p2)), .val (.ref b1), .val (.ref b3), .val (.ref b28), .unset] [])) _
            refine XS.aload X134.here hx rfl (hb hby at_107) rfl rfl ?_
            show Steps p.tables e below (T134.setTop (mkF m 109 #[.val (.int p0), .val (.int p1), .val (.int p2), .val (.int (gu p0)), .val (.int (ge p1)), .val (.int (gw p2)), .val (.ref b1), .val (.ref b3), .val (.ref b28), .unset] [(.ref b1)])) _
            refine XS.aload X134.here hx rfl (hb hby at_109) rfl rfl ?_
            show Steps p.tables e below (T134.setTop (mkF m 111 #[.val (.int p0), .val (.int p1), .val (.int p2), .val (.int (gu p0)), .val (.int (ge p1)), .val (.int (gw p2)), .val (.ref b1), .val (.ref b3), .val (.ref b28), .unset] [(.ref b3), (.ref b1)])) _
            refine st149.trans ?_
            show Steps p.tables e below (T149.setTop (mkF m 114 #[.val (.int p0), .val (.int p1), .val (.int p2), .val (.int (gu p0)), .val (.int (ge p1)), .val (.int (gw p2)), .val (.ref b1), .val (.ref b3), .val (.ref b28), .unset] [])) _
            refine XS.iloadN X149.here hx rfl (hb hby at_114) rfl ?_
            show Steps p.tables e below (T149.setTop (mkF m 115 #[.val (.int p0), .val (.int p1), .val (.int p2), .val (.int (gu p0)), .val (.int (ge p1)), .val (.int (gw p2)), .val (.ref b1), .val (.ref b3), .val (.ref b28), .unset] [(.int (gu p0))])) _
            refine XS.ifNo X149.here hx rfl (hb hby at_115) rfl ((if0 _ _).trans (tlt (show (0 : Int32) < (gu p0) from (own_u1 hc120))).2.2.2) ?_
            show Steps p.tables e below (T149.setTop (mkF m 118 #[.val (.int p0), .val (.int p1), .val (.int p2), .val (.int (gu p0)), .val (.int (ge p1)), .val (.int (gw p2)), .val (.ref b1), .val (.ref b3), .val (.ref b28), .unset] [])) _
            refine XS.iconst X149.here hx rfl (hb hby at_118) ?_
            show Steps p.tables e below (T149.setTop (mkF m 119 #[.val (.int p0), .val (.int p1), .val (.int p2), .val (.int (gu p0)), .val (.int (ge p1)), .val (.int (gw p2)), .val (.ref b1), .val (.ref b3), .val (.ref b28), .unset] [(.int (2 : Int32))])) _
            refine XS.istore X149.here hx rfl (hb hby at_119) rfl (l' := #[.val (.int p0), .val (.int p1), .val (.int p2), .val (.int (gu p0)), .val (.int (ge p1)), .val (.int (gw p2)), .val (.ref b1), .val (.ref b3), .val (.ref b28), .val (.int (2 : Int32))]) rfl ?_
            show Steps p.tables e below (T149.setTop (mkF m 121 #[.val (.int p0), .val (.int p1), .val (.int p2), .val (.int (gu p0)), .val (.int (ge p1)), .val (.int (gw p2)), .val (.ref b1), .val (.ref b3), .val (.ref b28), .val (.int (2 : Int32))] [])) _
            refine XS.goto X149.here hx rfl (pc0 := 121) (pc' := 138) rfl (hb hby at_121) (by decide) (by decide) ?_
            show Steps p.tables e below (T149.setTop (mkF m 138 #[.val (.int p0), .val (.int p1), .val (.int p2), .val (.int (gu p0)), .val (.int (ge p1)), .val (.int (gw p2)), .val (.ref b1), .val (.ref b3), .val (.ref b28), .val (.int (2 : Int32))] [])) _
            refine XS.aload X149.here hx rfl (hb hby at_138) rfl rfl ?_
            show Steps p.tables e below (T149.setTop (mkF m 140 #[.val (.int p0), .val (.int p1), .val (.int p2), .val (.int (gu p0)), .val (.int (ge p1)), .val (.int (gw p2)), .val (.ref b1), .val (.ref b3), .val (.ref b28), .val (.int (2 : Int32))] [(.ref b1)])) _
            refine st159.trans ?_
            show Steps p.tables e below (T159.setTop (mkF m 143 #[.val (.int p0), .val (.int p1), .val (.int p2), .val (.int (gu p0)), .val (.int (ge p1)), .val (.int (gw p2)), .val (.ref b1), .val (.ref b3), .val (.ref b28), .val (.int (2 : Int32))] [(.int (f8 ((0 : Int64) + (1 : Int64)) (((0 : Int64) + (1 : Int64)) + (1 : Int64))))])) _
            refine XS.iload X159.here hx rfl (hb hby at_143) rfl ?_
            show Steps p.tables e below (T159.setTop (mkF m 145 #[.val (.int p0), .val (.int p1), .val (.int p2), .val (.int (gu p0)), .val (.int (ge p1)), .val (.int (gw p2)), .val (.ref b1), .val (.ref b3), .val (.ref b28), .val (.int (2 : Int32))] [(.int (2 : Int32)), (.int (f8 ((0 : Int64) + (1 : Int64)) (((0 : Int64) + (1 : Int64)) + (1 : Int64))))])) _
            refine XS.icmpNo X159.here hx rfl (hb hby at_145) rfl (teq (show (f8 ((0 : Int64) + (1 : Int64)) (((0 : Int64) + (1 : Int64)) + (1 : Int64))) = (2 : Int32) from (by decide))).2 ?_
            show Steps p.tables e below (T159.setTop (mkF m 148 #[.val (.int p0), .val (.int p1), .val (.int p2), .val (.int (gu p0)), .val (.int (ge p1)), .val (.int (gw p2)), .val (.ref b1), .val (.ref b3), .val (.ref b28), .val (.int (2 : Int32))] [])) _
            refine XS.iconst X159.here hx rfl (hb hby at_148) ?_
            show Steps p.tables e below (T159.setTop (mkF m 149 #[.val (.int p0), .val (.int p1), .val (.int p2), .val (.int (gu p0)), .val (.int (ge p1)), .val (.int (gw p2)), .val (.ref b1), .val (.ref b3), .val (.ref b28), .val (.int (2 : Int32))] [(.int (1 : Int32))])) _
            refine XS.goto X159.here hx rfl (pc0 := 149) (pc' := 153) rfl (hb hby at_149) (by decide) (by decide) ?_
            exact kt
          obtain ⟨fsQ, hr, hrun, hended, hRW⟩ := X159.leaveW (s := s) hS98 (by rw [e159]; exact KS149) (v := some (.int (1 : Int32))) (fun h => by rw [Bd.returns] at h; cases h)
          refine ⟨_, _, pre0 _ (K160 _ ?_), hrun, hended, _, _, rfl, ?_, hRW.1, hRW.2.1, hRW.2.2.1, hRW.2.2.2.mono (by decide) (by decide)⟩
          · show Steps p.tables e below (T159.setTop (mkF m 153 #[.val (.int p0), .val (.int p1), .val (.int p2), .val (.int (gu p0)), .val (.int (ge p1)), .val (.int (gw p2)), .val (.ref b1), .val (.ref b3), .val (.ref b28), .val (.int (2 : Int32))] [(.int (1 : Int32))])) _
            exact retN X159 hx (t := .boolean) Bd.returns (by simp) (hb hby at_153) hr
          · show Q0 Z p0 p1 p2 ru wa er h0 n0 _ T159.heap _
            rw [e159]
            exact ⟨rfl, N149⟩
    · skip
      have K161 : ∀ t, Steps p.tables e below (T111.setTop (mkF m 91 #[.val (.int p0), .val (.int p1), .val (.int p2), .val (.int (gu p0)), .val (.int (ge p1)), .val (.int (gw p2)), .val (.ref b1), .val (.ref b3), .val (.ref b28), .unset] [(.int (1 : Int32)), (.int (ge p1))])) t → Steps p.tables e below (s₁.setTop (mkF m 0 #[.val (.int p0), .val (.int p1), .val (.int p2), .unset, .unset, .unset, .unset, .unset, .unset, .unset] [])) t := by
        intro t kt
        refine K119 _ ?_
        show Steps p.tables e below (T111.setTop (mkF m 80 #[.val (.int p0), .val (.int p1), .val (.int p2), .val (.int (gu p0)), .val (.int (ge p1)), .val (.int (gw p2)), .val (.ref b1), .val (.ref b3), .val (.ref b28), .unset] [(.int (1 : Int32)), (.int (gu p0))])) _
        refine XS.icmpYes X111.here hx rfl (pc0 := 80) (pc' := 88) rfl (hb hby at_80) rfl (feq hc120).2 (by decide) (by decide) ?_
        show Steps p.tables e below (T111.setTop (mkF m 88 #[.val (.int p0), .val (.int p1), .val (.int p2), .val (.int (gu p0)), .val (.int (ge p1)), .val (.int (gw p2)), .val (.ref b1), .val (.ref b3), .val (.ref b28), .unset] [])) _
        refine XS.iload X111.here hx rfl (hb hby at_88) rfl ?_
        show Steps p.tables e below (T111.setTop (mkF m 90 #[.val (.int p0), .val (.int p1), .val (.int p2), .val (.int (gu p0)), .val (.int (ge p1)), .val (.int (gw p2)), .val (.ref b1), .val (.ref b3), .val (.ref b28), .unset] [(.int (ge p1))])) _
        refine XS.iconst X111.here hx rfl (hb hby at_90) ?_
        exact kt
      by_cases hc162 : (ge p1) < (1 : Int32)
      · skip
        obtain ⟨cq163, kq163, q163a, q163b, q163c⟩ := isOf hZ rfl G112
        obtain ⟨_, _, ⟨T163, L163, k163, n163⟩, -, X163, ⟨Lc163, hQ163, l163, y163, z163⟩, st163⟩ := X111.virtualBack hx (y := (⟨"com/example/seriestrace/seriestrace/cli/Summary", "exitStatus", "()I"⟩ : MethodName)) (z := (⟨"com/example/seriestrace/seriestrace/cli/Summary", "exitStatus", "()I"⟩ : MethodName)) hown (mvT hZ (hw _ (List.mem_of_getElem? (i := 67) rfl))) (mvT hZ (hw _ (List.mem_of_getElem? (i := 68) rfl))) (notFace_of_selects (args := #[]) (mvT hZ (hw _ (List.mem_of_getElem? (i := 70) rfl)))) (mvT hZ (hw _ (List.mem_of_getElem? (i := 70) rfl))) (mvT hZ (hw _ (List.mem_of_getElem? (i := 69) rfl))) (by decide) (backOf (W := 0) (rm8 l Z a0 hw [] b1 (0 : Int64) (0 : Int64) T111.heap F111a F111b) hZ (hw _ (List.mem_of_getElem? (i := 71) rfl)) (hw _ (List.mem_of_getElem? (i := 3) rfl)) (by decide) (by decide)) q163a q163c (g := (mkF m 140 #[.val (.int p0), .val (.int p1), .val (.int p2), .val (.int (gu p0)), .val (.int (ge p1)), .val (.int (gw p2)), .val (.ref b1), .val (.ref b3), .val (.ref b28), .val (.int (0 : Int32))] [(.ref b1)])) rfl (by rw [hml]; rfl) (Steps.refl _) (argsL := []) (rest := []) (lenOf pd_7 rfl) rfl (by show 2 * 0 + _ ≤ _; exact Nat.le_of_eq rfl) (hb hby at_140) (fun _ _ => ⟨rfl, rfl, (by decide : 22 + 0 ≤ _), (by decide : 200 + 0 ≤ _)⟩)
        dsimp only [Pt.U, Pt.locs, Pt.cells, Pt.slots] at X163 l163 y163 z163 st163 hQ163
        subst l163 y163 z163
        obtain ⟨rfl, rfl, e163⟩ := hQ163
        try rw [List.append_nil] at X163
        have K164 : ∀ t, Steps p.tables e below (T163.setTop (mkF m 153 #[.val (.int p0), .val (.int p1), .val (.int p2), .val (.int (gu p0)), .val (.int (ge p1)), .val (.int (gw p2)), .val (.ref b1), .val (.ref b3), .val (.ref b28), .val (.int (0 : Int32))] [(.int (1 : Int32))])) t → Steps p.tables e below (s₁.setTop (mkF m 0 #[.val (.int p0), .val (.int p1), .val (.int p2), .unset, .unset, .unset, .unset, .unset, .unset, .unset] [])) t := by
          intro t kt
          refine K161 _ ?_
          show Steps p.tables e below (T111.setTop (mkF m 91 #[.val (.int p0), .val (.int p1), .val (.int p2), .val (.int (gu p0)), .val (.int (ge p1)), .val (.int (gw p2)), .val (.ref b1), .val (.ref b3), .val (.ref b28), .unset] [(.int (1 : Int32)), (.int (ge p1))])) _
          refine XS.icmpYes X111.here hx rfl (pc0 := 91) (pc' := 101) rfl (hb hby at_91) rfl (tlt hc162).1 (by decide) (by decide) ?_
          show Steps p.tables e below (T111.setTop (mkF m 101 #[.val (.int p0), .val (.int p1), .val (.int p2), .val (.int (gu p0)), .val (.int (ge p1)), .val (.int (gw p2)), .val (.ref b1), .val (.ref b3), .val (.ref b28), .unset] [])) _
          refine XS.iload X111.here hx rfl (hb hby at_101) rfl ?_
          show Steps p.tables e below (T111.setTop (mkF m 103 #[.val (.int p0), .val (.int p1), .val (.int p2), .val (.int (gu p0)), .val (.int (ge p1)), .val (.int (gw p2)), .val (.ref b1), .val (.ref b3), .val (.ref b28), .unset] [(.int (ge p1))])) _
          refine XS.iconst X111.here hx rfl (hb hby at_103) ?_
          show Steps p.tables e below (T111.setTop (mkF m 104 #[.val (.int p0), .val (.int p1), .val (.int p2), .val (.int (gu p0)), .val (.int (ge p1)), .val (.int (gw p2)), .val (.ref b1), .val (.ref b3), .val (.ref b28), .unset] [(.int (2 : Int32)), (.int (ge p1))])) _
          refine XS.icmpYes X111.here hx rfl (pc0 := 104) (pc' := 114) rfl (hb hby at_104) rfl (tlt (show (ge p1) < (2 : Int32) from (own_e2 hc162))).1 (by decide) (by decide) ?_
          show Steps p.tables e below (T111.setTop (mkF m 114 #[.val (.int p0), .val (.int p1), .val (.int p2), .val (.int (gu p0)), .val (.int (ge p1)), .val (.int (gw p2)), .val (.ref b1), .val (.ref b3), .val (.ref b28), .unset] [])) _
          refine XS.iloadN X111.here hx rfl (hb hby at_114) rfl ?_
          show Steps p.tables e below (T111.setTop (mkF m 115 #[.val (.int p0), .val (.int p1), .val (.int p2), .val (.int (gu p0)), .val (.int (ge p1)), .val (.int (gw p2)), .val (.ref b1), .val (.ref b3), .val (.ref b28), .unset] [(.int (gu p0))])) _
          refine XS.ifYes X111.here hx rfl (pc0 := 115) (pc' := 124) rfl (hb hby at_115) rfl ((if0 _ _).trans (flt (show ¬ ((0 : Int32) < (gu p0)) from (own_u0 hc120))).2.2.2) (by decide) (by decide) ?_
          show Steps p.tables e below (T111.setTop (mkF m 124 #[.val (.int p0), .val (.int p1), .val (.int p2), .val (.int (gu p0)), .val (.int (ge p1)), .val (.int (gw p2)), .val (.ref b1), .val (.ref b3), .val (.ref b28), .unset] [])) _
          refine XS.iload X111.here hx rfl (hb hby at_124) rfl ?_
          show Steps p.tables e below (T111.setTop (mkF m 126 #[.val (.int p0), .val (.int p1), .val (.int p2), .val (.int (gu p0)), .val (.int (ge p1)), .val (.int (gw p2)), .val (.ref b1), .val (.ref b3), .val (.ref b28), .unset] [(.int (ge p1))])) _
          refine XS.ifYes X111.here hx rfl (pc0 := 126) (pc' := 135) rfl (hb hby at_126) rfl ((if0 _ _).trans (flt (show ¬ ((0 : Int32) < (ge p1)) from (own_e0 hc162))).2.2.2) (by decide) (by decide) ?_
          show Steps p.tables e below (T111.setTop (mkF m 135 #[.val (.int p0), .val (.int p1), .val (.int p2), .val (.int (gu p0)), .val (.int (ge p1)), .val (.int (gw p2)), .val (.ref b1), .val (.ref b3), .val (.ref b28), .unset] [])) _
          refine XS.iconst X111.here hx rfl (hb hby at_135) ?_
          show Steps p.tables e below (T111.setTop (mkF m 136 #[.val (.int p0), .val (.int p1), .val (.int p2), .val (.int (gu p0)), .val (.int (ge p1)), .val (.int (gw p2)), .val (.ref b1), .val (.ref b3), .val (.ref b28), .unset] [(.int (0 : Int32))])) _
          refine XS.istore X111.here hx rfl (hb hby at_136) rfl (l' := #[.val (.int p0), .val (.int p1), .val (.int p2), .val (.int (gu p0)), .val (.int (ge p1)), .val (.int (gw p2)), .val (.ref b1), .val (.ref b3), .val (.ref b28), .val (.int (0 : Int32))]) rfl ?_
          show Steps p.tables e below (T111.setTop (mkF m 138 #[.val (.int p0), .val (.int p1), .val (.int p2), .val (.int (gu p0)), .val (.int (ge p1)), .val (.int (gw p2)), .val (.ref b1), .val (.ref b3), .val (.ref b28), .val (.int (0 : Int32))] [])) _
          refine XS.aload X111.here hx rfl (hb hby at_138) rfl rfl ?_
          show Steps p.tables e below (T111.setTop (mkF m 140 #[.val (.int p0), .val (.int p1), .val (.int p2), .val (.int (gu p0)), .val (.int (ge p1)), .val (.int (gw p2)), .val (.ref b1), .val (.ref b3), .val (.ref b28), .val (.int (0 : Int32))] [(.ref b1)])) _
          refine st163.trans ?_
          show Steps p.tables e below (T163.setTop (mkF m 143 #[.val (.int p0), .val (.int p1), .val (.int p2), .val (.int (gu p0)), .val (.int (ge p1)), .val (.int (gw p2)), .val (.ref b1), .val (.ref b3), .val (.ref b28), .val (.int (0 : Int32))] [(.int (f8 (0 : Int64) (0 : Int64)))])) _
          refine XS.iload X163.here hx rfl (hb hby at_143) rfl ?_
          show Steps p.tables e below (T163.setTop (mkF m 145 #[.val (.int p0), .val (.int p1), .val (.int p2), .val (.int (gu p0)), .val (.int (ge p1)), .val (.int (gw p2)), .val (.ref b1), .val (.ref b3), .val (.ref b28), .val (.int (0 : Int32))] [(.int (0 : Int32)), (.int (f8 (0 : Int64) (0 : Int64)))])) _
          refine XS.icmpNo X163.here hx rfl (hb hby at_145) rfl (teq (show (f8 (0 : Int64) (0 : Int64)) = (0 : Int32) from (by decide))).2 ?_
          show Steps p.tables e below (T163.setTop (mkF m 148 #[.val (.int p0), .val (.int p1), .val (.int p2), .val (.int (gu p0)), .val (.int (ge p1)), .val (.int (gw p2)), .val (.ref b1), .val (.ref b3), .val (.ref b28), .val (.int (0 : Int32))] [])) _
          refine XS.iconst X163.here hx rfl (hb hby at_148) ?_
          show Steps p.tables e below (T163.setTop (mkF m 149 #[.val (.int p0), .val (.int p1), .val (.int p2), .val (.int (gu p0)), .val (.int (ge p1)), .val (.int (gw p2)), .val (.ref b1), .val (.ref b3), .val (.ref b28), .val (.int (0 : Int32))] [(.int (1 : Int32))])) _
          refine XS.goto X163.here hx rfl (pc0 := 149) (pc' := 153) rfl (hb hby at_149) (by decide) (by decide) ?_
          exact kt
        obtain ⟨fsQ, hr, hrun, hended, hRW⟩ := X163.leaveW (s := s) hS98 (by rw [e163]; exact KS111) (v := some (.int (1 : Int32))) (fun h => by rw [Bd.returns] at h; cases h)
        refine ⟨_, _, pre0 _ (K164 _ ?_), hrun, hended, _, _, rfl, ?_, hRW.1, hRW.2.1, hRW.2.2.1, hRW.2.2.2.mono (by decide) (by decide)⟩
        · show Steps p.tables e below (T163.setTop (mkF m 153 #[.val (.int p0), .val (.int p1), .val (.int p2), .val (.int (gu p0)), .val (.int (ge p1)), .val (.int (gw p2)), .val (.ref b1), .val (.ref b3), .val (.ref b28), .val (.int (0 : Int32))] [(.int (1 : Int32))])) _
          exact retN X163 hx (t := .boolean) Bd.returns (by simp) (hb hby at_153) hr
        · show Q0 Z p0 p1 p2 ru wa er h0 n0 _ T163.heap _
          rw [e163]
          exact ⟨rfl, N111⟩
      · skip
        have FR165 : Fld Z T111.heap ru "com/example/seriestrace/seriestrace/check/Rule" "severity" "Lcom/example/seriestrace/seriestrace/check/Severity;" (.ref er) := Fsev.ext OL111.2
        have ER165 : Exa Z T111.heap ru "com/example/seriestrace/seriestrace/check/Rule" := Eru.ext OL111.2
        have neR165 : b1 ≠ ru := (OL111.ne Eru.lt gn1).symm
        obtain ⟨cq166, kq166, q166a, q166b, q166c⟩ := isOf hZ rfl G112
        obtain ⟨_, _, ⟨T166, L166, k166, n166⟩, -, X166, ⟨Lc166, hQ166, l166, y166, z166⟩, st166⟩ := X111.virtualBack hx (y := (⟨"com/example/seriestrace/seriestrace/cli/Summary", "addFinding", "(Lcom/example/seriestrace/seriestrace/check/Finding;)V"⟩ : MethodName)) (z := (⟨"com/example/seriestrace/seriestrace/cli/Summary", "addFinding", "(Lcom/example/seriestrace/seriestrace/check/Finding;)V"⟩ : MethodName)) hown (mvT hZ (hw _ (List.mem_of_getElem? (i := 76) rfl))) (mvT hZ (hw _ (List.mem_of_getElem? (i := 77) rfl))) (notFace_of_selects (args := #[]) (mvT hZ (hw _ (List.mem_of_getElem? (i := 79) rfl)))) (mvT hZ (hw _ (List.mem_of_getElem? (i := 79) rfl))) (mvT hZ (hw _ (List.mem_of_getElem? (i := 78) rfl))) (by decide) (backOf (W := 0) (rm9e l Z a0 hw [] b1 b3 (0 : Int64) (0 : Int64) ((0 : Int64) + (1 : Int64)) ru er er T111.heap n0 Z111 F111a F111b F111c G112 gn1 G114 FR165 G113 ER165 (Ser.ext OL111.2) ne4 neR165 rfl) hZ (hw _ (List.mem_of_getElem? (i := 80) rfl)) (hw _ (List.mem_of_getElem? (i := 3) rfl)) (by decide) (by decide)) q166a q166c (g := (mkF m 98 #[.val (.int p0), .val (.int p1), .val (.int p2), .val (.int (gu p0)), .val (.int (ge p1)), .val (.int (gw p2)), .val (.ref b1), .val (.ref b3), .val (.ref b28), .unset] [(.ref b3), (.ref b1)])) rfl (by rw [hml]; rfl) (Steps.refl _) (argsL := [(.ref b3)]) (rest := []) (lenOf pd_6 rfl) rfl (by show 2 * 0 + _ ≤ _; exact Nat.le_of_eq rfl) (hb hby at_98) (fun _ _ => ⟨rfl, rfl, (by decide : 22 + 0 ≤ _), (by decide : 200 + 0 ≤ _)⟩)
        dsimp only [Pt.U, Pt.locs, Pt.cells, Pt.slots] at X166 l166 y166 z166 st166 hQ166
        subst l166 y166 z166
        obtain ⟨rfl, N166q, K166q, F166a, F166b, F166c⟩ := hQ166
        have N166 := Fr.app N111 N166q
        have Z166 : n0 ≤ T166.heap.size := Nat.le_trans Z111 K166q.1
        have KS166 := Nat.le_trans KS111 K166q.1
        have OL166 := OL111.keep K166q (allS gn1 all0)
        have G167 : Exa Z T166.heap b1 "com/example/seriestrace/seriestrace/cli/Summary" := G112.keep K166q
        have G168 : Exa Z T166.heap b3 "com/example/seriestrace/seriestrace/check/Finding" := G113.keep K166q
        have G169 : Fld Z T166.heap b3 "com/example/seriestrace/seriestrace/check/Finding" "rule" "Lcom/example/seriestrace/seriestrace/check/Rule;" (.ref ru) := G114.keep K166q (ninS ne4.symm nin0)
        have G170 : Exa Z T166.heap b28 "com/example/seriestrace/seriestrace/check/Finding" := G115.keep K166q
        have G171 : Fld Z T166.heap b28 "com/example/seriestrace/seriestrace/check/Finding" "rule" "Lcom/example/seriestrace/seriestrace/check/Rule;" (.ref b37) := G116.keep K166q (ninS ne29.symm nin0)
        have G172 : Exa Z T166.heap b37 "com/example/seriestrace/seriestrace/check/Rule" := G117.keep K166q
        have G173 : Fld Z T166.heap b37 "com/example/seriestrace/seriestrace/check/Rule" "severity" "Lcom/example/seriestrace/seriestrace/check/Severity;" (.ref wa) := G118.keep K166q (ninS ne38.symm nin0)
        have G174 : Fld Z T166.heap ru "com/example/seriestrace/seriestrace/check/Rule" "severity" "Lcom/example/seriestrace/seriestrace/check/Severity;" (.ref er) := FR165.keep K166q (ninS neR165.symm nin0)
        have G175 : Exa Z T166.heap ru "com/example/seriestrace/seriestrace/check/Rule" := ER165.keep K166q
        have K176 : ∀ t, Steps p.tables e below (T166.setTop (mkF m 104 #[.val (.int p0), .val (.int p1), .val (.int p2), .val (.int (gu p0)), .val (.int (ge p1)), .val (.int (gw p2)), .val (.ref b1), .val (.ref b3), .val (.ref b28), .unset] [(.int (2 : Int32)), (.int (ge p1))])) t → Steps p.tables e below (s₁.setTop (mkF m 0 #[.val (.int p0), .val (.int p1), .val (.int p2), .unset, .unset, .unset, .unset, .unset, .unset, .unset] [])) t := by
          intro t kt
          refine K161 _ ?_
          show Steps p.tables e below (T111.setTop (mkF m 91 #[.val (.int p0), .val (.int p1), .val (.int p2), .val (.int (gu p0)), .val (.int (ge p1)), .val (.int (gw p2)), .val (.ref b1), .val (.ref b3), .val (.ref b28), .unset] [(.int (1 : Int32)), (.int (ge p1))])) _
          refine XS.icmpNo X111.here hx rfl (hb hby at_91) rfl (flt hc162).1 ?_
          show Steps p.tables e below (T111.setTop (mkF m 94 #[.val (.int p0), .val (.int p1), .val (.int p2), .val (.int (gu p0)), .val (.int (ge p1)), .val (.int (gw p2)), .val (.ref b1), .val (.ref b3), .val (.ref b28), .unset] [])) _
          refine XS.aload X111.here hx rfl (hb hby at_94) rfl rfl ?_
          show Steps p.tables e below (T111.setTop (mkF m 96 #[.val (.int p0), .val (.int p1), .val (.int p2), .val (.int (gu p0)), .val (.int (ge p1)), .val (.int (gw p2)), .val (.ref b1), .val (.ref b3), .val (.ref b28), .unset] [(.ref b1)])) _
          refine XS.aload X111.here hx rfl (hb hby at_96) rfl rfl ?_
          show Steps p.tables e below (T111.setTop (mkF m 98 #[.val (.int p0), .val (.int p1), .val (.int p2), .val (.int (gu p0)), .val (.int (ge p1)), .val (.int (gw p2)), .val (.ref b1), .val (.ref b3), .val (.ref b28), .unset] [(.ref b3), (.ref b1)])) _
          refine st166.trans ?_
          show Steps p.tables e below (T166.setTop (mkF m 101 #[.val (.int p0), .val (.int p1), .val (.int p2), .val (.int (gu p0)), .val (.int (ge p1)), .val (.int (gw p2)), .val (.ref b1), .val (.ref b3), .val (.ref b28), .unset] [])) _
          refine XS.iload X166.here hx rfl (hb hby at_101) rfl ?_
          show Steps p.tables e below (T166.setTop (mkF m 103 #[.val (.int p0), .val (.int p1), .val (.int p2), .val (.int (gu p0)), .val (.int (ge p1)), .val (.int (gw p2)), .val (.ref b1), .val (.ref b3), .val (.ref b28), .unset] [(.int (ge p1))])) _
          refine XS.iconst X166.here hx rfl (hb hby at_103) ?_
          exact kt
        by_cases hc177 : (ge p1) < (2 : Int32)
        · skip
          obtain ⟨cq178, kq178, q178a, q178b, q178c⟩ := isOf hZ rfl G167
          obtain ⟨_, _, ⟨T178, L178, k178, n178⟩, -, X178, ⟨Lc178, hQ178, l178, y178, z178⟩, st178⟩ := X166.virtualBack hx (y := (⟨"com/example/seriestrace/seriestrace/cli/Summary", "exitStatus", "()I"⟩ : MethodName)) (z := (⟨"com/example/seriestrace/seriestrace/cli/Summary", "exitStatus", "()I"⟩ : MethodName)) hown (mvT hZ (hw _ (List.mem_of_getElem? (i := 67) rfl))) (mvT hZ (hw _ (List.mem_of_getElem? (i := 68) rfl))) (notFace_of_selects (args := #[]) (mvT hZ (hw _ (List.mem_of_getElem? (i := 70) rfl)))) (mvT hZ (hw _ (List.mem_of_getElem? (i := 70) rfl))) (mvT hZ (hw _ (List.mem_of_getElem? (i := 69) rfl))) (by decide) (backOf (W := 0) (rm8 l Z a0 hw [] b1 (0 : Int64) ((0 : Int64) + (1 : Int64)) T166.heap F166a F166b) hZ (hw _ (List.mem_of_getElem? (i := 71) rfl)) (hw _ (List.mem_of_getElem? (i := 3) rfl)) (by decide) (by decide)) q178a q178c (g := (mkF m 140 #[.val (.int p0), .val (.int p1), .val (.int p2), .val (.int (gu p0)), .val (.int (ge p1)), .val (.int (gw p2)), .val (.ref b1), .val (.ref b3), .val (.ref b28), .val (.int (1 : Int32))] [(.ref b1)])) rfl (by rw [hml]; rfl) (Steps.refl _) (argsL := []) (rest := []) (lenOf pd_7 rfl) rfl (by show 2 * 0 + _ ≤ _; exact Nat.le_of_eq rfl) (hb hby at_140) (fun _ _ => ⟨rfl, rfl, (by decide : 22 + 0 ≤ _), (by decide : 200 + 0 ≤ _)⟩)
          dsimp only [Pt.U, Pt.locs, Pt.cells, Pt.slots] at X178 l178 y178 z178 st178 hQ178
          subst l178 y178 z178
          obtain ⟨rfl, rfl, e178⟩ := hQ178
          try rw [List.append_nil] at X178
          have K179 : ∀ t, Steps p.tables e below (T178.setTop (mkF m 153 #[.val (.int p0), .val (.int p1), .val (.int p2), .val (.int (gu p0)), .val (.int (ge p1)), .val (.int (gw p2)), .val (.ref b1), .val (.ref b3), .val (.ref b28), .val (.int (1 : Int32))] [(.int (1 : Int32))])) t → Steps p.tables e below (s₁.setTop (mkF m 0 #[.val (.int p0), .val (.int p1), .val (.int p2), .unset, .unset, .unset, .unset, .unset, .unset, .unset] [])) t := by
            intro t kt
            refine K176 _ ?_
            show Steps p.tables e below (T166.setTop (mkF m 104 #[.val (.int p0), .val (.int p1), .val (.int p2), .val (.int (gu p0)), .val (.int (ge p1)), .val (.int (gw p2)), .val (.ref b1), .val (.ref b3), .val (.ref b28), .unset] [(.int (2 : Int32)), (.int (ge p1))])) _
            refine XS.icmpYes X166.here hx rfl (pc0 := 104) (pc' := 114) rfl (hb hby at_104) rfl (tlt hc177).1 (by decide) (by decide) ?_
            show Steps p.tables e below (T166.setTop (mkF m 114 #[.val (.int p0), .val (.int p1), .val (.int p2), .val (.int (gu p0)), .val (.int (ge p1)), .val (.int (gw p2)), .val (.ref b1), .val (.ref b3), .val (.ref b28), .unset] [])) _
            refine XS.iloadN X166.here hx rfl (hb hby at_114) rfl ?_
            show Steps p.tables e below (T166.setTop (mkF m 115 #[.val (.int p0), .val (.int p1), .val (.int p2), .val (.int (gu p0)), .val (.int (ge p1)), .val (.int (gw p2)), .val (.ref b1), .val (.ref b3), .val (.ref b28), .unset] [(.int (gu p0))])) _
            refine XS.ifYes X166.here hx rfl (pc0 := 115) (pc' := 124) rfl (hb hby at_115) rfl ((if0 _ _).trans (flt (show ¬ ((0 : Int32) < (gu p0)) from (own_u0 hc120))).2.2.2) (by decide) (by decide) ?_
            show Steps p.tables e below (T166.setTop (mkF m 124 #[.val (.int p0), .val (.int p1), .val (.int p2), .val (.int (gu p0)), .val (.int (ge p1)), .val (.int (gw p2)), .val (.ref b1), .val (.ref b3), .val (.ref b28), .unset] [])) _
            refine XS.iload X166.here hx rfl (hb hby at_124) rfl ?_
            show Steps p.tables e below (T166.setTop (mkF m 126 #[.val (.int p0), .val (.int p1), .val (.int p2), .val (.int (gu p0)), .val (.int (ge p1)), .val (.int (gw p2)), .val (.ref b1), .val (.ref b3), .val (.ref b28), .unset] [(.int (ge p1))])) _
            refine XS.ifNo X166.here hx rfl (hb hby at_126) rfl ((if0 _ _).trans (tlt (show (0 : Int32) < (ge p1) from (own_e1 hc162))).2.2.2) ?_
            show Steps p.tables e below (T166.setTop (mkF m 129 #[.val (.int p0), .val (.int p1), .val (.int p2), .val (.int (gu p0)), .val (.int (ge p1)), .val (.int (gw p2)), .val (.ref b1), .val (.ref b3), .val (.ref b28), .unset] [])) _
            refine XS.iconst X166.here hx rfl (hb hby at_129) ?_
            show Steps p.tables e below (T166.setTop (mkF m 130 #[.val (.int p0), .val (.int p1), .val (.int p2), .val (.int (gu p0)), .val (.int (ge p1)), .val (.int (gw p2)), .val (.ref b1), .val (.ref b3), .val (.ref b28), .unset] [(.int (1 : Int32))])) _
            refine XS.istore X166.here hx rfl (hb hby at_130) rfl (l' := #[.val (.int p0), .val (.int p1), .val (.int p2), .val (.int (gu p0)), .val (.int (ge p1)), .val (.int (gw p2)), .val (.ref b1), .val (.ref b3), .val (.ref b28), .val (.int (1 : Int32))]) rfl ?_
            show Steps p.tables e below (T166.setTop (mkF m 132 #[.val (.int p0), .val (.int p1), .val (.int p2), .val (.int (gu p0)), .val (.int (ge p1)), .val (.int (gw p2)), .val (.ref b1), .val (.ref b3), .val (.ref b28), .val (.int (1 : Int32))] [])) _
            refine XS.goto X166.here hx rfl (pc0 := 132) (pc' := 138) rfl (hb hby at_132) (by decide) (by decide) ?_
            show Steps p.tables e below (T166.setTop (mkF m 138 #[.val (.int p0), .val (.int p1), .val (.int p2), .val (.int (gu p0)), .val (.int (ge p1)), .val (.int (gw p2)), .val (.ref b1), .val (.ref b3), .val (.ref b28), .val (.int (1 : Int32))] [])) _
            refine XS.aload X166.here hx rfl (hb hby at_138) rfl rfl ?_
            show Steps p.tables e below (T166.setTop (mkF m 140 #[.val (.int p0), .val (.int p1), .val (.int p2), .val (.int (gu p0)), .val (.int (ge p1)), .val (.int (gw p2)), .val (.ref b1), .val (.ref b3), .val (.ref b28), .val (.int (1 : Int32))] [(.ref b1)])) _
            refine st178.trans ?_
            show Steps p.tables e below (T178.setTop (mkF m 143 #[.val (.int p0), .val (.int p1), .val (.int p2), .val (.int (gu p0)), .val (.int (ge p1)), .val (.int (gw p2)), .val (.ref b1), .val (.ref b3), .val (.ref b28), .val (.int (1 : Int32))] [(.int (f8 (0 : Int64) ((0 : Int64) + (1 : Int64))))])) _
            refine XS.iload X178.here hx rfl (hb hby at_143) rfl ?_
            show Steps p.tables e below (T178.setTop (mkF m 145 #[.val (.int p0), .val (.int p1), .val (.int p2), .val (.int (gu p0)), .val (.int (ge p1)), .val (.int (gw p2)), .val (.ref b1), .val (.ref b3), .val (.ref b28), .val (.int (1 : Int32))] [(.int (1 : Int32)), (.int (f8 (0 : Int64) ((0 : Int64) + (1 : Int64))))])) _
            refine XS.icmpNo X178.here hx rfl (hb hby at_145) rfl (teq (show (f8 (0 : Int64) ((0 : Int64) + (1 : Int64))) = (1 : Int32) from (by decide))).2 ?_
            show Steps p.tables e below (T178.setTop (mkF m 148 #[.val (.int p0), .val (.int p1), .val (.int p2), .val (.int (gu p0)), .val (.int (ge p1)), .val (.int (gw p2)), .val (.ref b1), .val (.ref b3), .val (.ref b28), .val (.int (1 : Int32))] [])) _
            refine XS.iconst X178.here hx rfl (hb hby at_148) ?_
            show Steps p.tables e below (T178.setTop (mkF m 149 #[.val (.int p0), .val (.int p1), .val (.int p2), .val (.int (gu p0)), .val (.int (ge p1)), .val (.int (gw p2)), .val (.ref b1), .val (.ref b3), .val (.ref b28), .val (.int (1 : Int32))] [(.int (1 : Int32))])) _
            refine XS.goto X178.here hx rfl (pc0 := 149) (pc' := 153) rfl (hb hby at_149) (by decide) (by decide) ?_
            exact kt
          obtain ⟨fsQ, hr, hrun, hended, hRW⟩ := X178.leaveW (s := s) hS98 (by rw [e178]; exact KS166) (v := some (.int (1 : Int32))) (fun h => by rw [Bd.returns] at h; cases h)
          refine ⟨_, _, pre0 _ (K179 _ ?_), hrun, hended, _, _, rfl, ?_, hRW.1, hRW.2.1, hRW.2.2.1, hRW.2.2.2.mono (by decide) (by decide)⟩
          · show Steps p.tables e below (T178.setTop (mkF m 153 #[.val (.int p0), .val (.int p1), .val (.int p2), .val (.int (gu p0)), .val (.int (ge p1)), .val (.int (gw p2)), .val (.ref b1), .val (.ref b3), .val (.ref b28), .val (.int (1 : Int32))] [(.int (1 : Int32))])) _
            exact retN X178 hx (t := .boolean) Bd.returns (by simp) (hb hby at_153) hr
          · show Q0 Z p0 p1 p2 ru wa er h0 n0 _ T178.heap _
            rw [e178]
            exact ⟨rfl, N166⟩
        · skip
          have FR180 : Fld Z T166.heap ru "com/example/seriestrace/seriestrace/check/Rule" "severity" "Lcom/example/seriestrace/seriestrace/check/Severity;" (.ref er) := Fsev.ext OL166.2
          have ER180 : Exa Z T166.heap ru "com/example/seriestrace/seriestrace/check/Rule" := Eru.ext OL166.2
          have neR180 : b1 ≠ ru := (OL166.ne Eru.lt gn1).symm
          obtain ⟨cq181, kq181, q181a, q181b, q181c⟩ := isOf hZ rfl G167
          obtain ⟨_, _, ⟨T181, L181, k181, n181⟩, -, X181, ⟨Lc181, hQ181, l181, y181, z181⟩, st181⟩ := X166.virtualBack hx (y := (⟨"com/example/seriestrace/seriestrace/cli/Summary", "addFinding", "(Lcom/example/seriestrace/seriestrace/check/Finding;)V"⟩ : MethodName)) (z := (⟨"com/example/seriestrace/seriestrace/cli/Summary", "addFinding", "(Lcom/example/seriestrace/seriestrace/check/Finding;)V"⟩ : MethodName)) hown (mvT hZ (hw _ (List.mem_of_getElem? (i := 76) rfl))) (mvT hZ (hw _ (List.mem_of_getElem? (i := 77) rfl))) (notFace_of_selects (args := #[]) (mvT hZ (hw _ (List.mem_of_getElem? (i := 79) rfl)))) (mvT hZ (hw _ (List.mem_of_getElem? (i := 79) rfl))) (mvT hZ (hw _ (List.mem_of_getElem? (i := 78) rfl))) (by decide) (backOf (W := 0) (rm9e l Z a0 hw [] b1 b3 (0 : Int64) ((0 : Int64) + (1 : Int64)) ((0 : Int64) + (1 : Int64)) ru er er T166.heap n0 Z166 F166a F166b F166c G167 gn1 G169 FR180 G168 ER180 (Ser.ext OL166.2) ne4 neR180 rfl) hZ (hw _ (List.mem_of_getElem? (i := 80) rfl)) (hw _ (List.mem_of_getElem? (i := 3) rfl)) (by decide) (by decide)) q181a q181c (g := (mkF m 111 #[.val (.int p0), .val (.int p1), .val (.int p2), .val (.int (gu p0)), .val (.int (ge p1)), .val (.int (gw p2)), .val (.ref b1), .val (.ref b3), .val (.ref b28), .unset] [(.ref b3), (.ref b1)])) rfl (by rw [hml]; rfl) (Steps.refl _) (argsL := [(.ref b3)]) (rest := []) (lenOf pd_6 rfl) rfl (by show 2 * 0 + _ ≤ _; exact Nat.le_of_eq rfl) (hb hby at_111) (fun _ _ => ⟨rfl, rfl, (by decide : 22 + 0 ≤ _), (by decide : 200 + 0 ≤ _)⟩)
          dsimp only [Pt.U, Pt.locs, Pt.cells, Pt.slots] at X181 l181 y181 z181 st181 hQ181
          subst l181 y181 z181
          obtain ⟨rfl, N181q, K181q, F181a, F181b, F181c⟩ := hQ181
          have N181 := Fr.app N166 N181q
          have Z181 : n0 ≤ T181.heap.size := Nat.le_trans Z166 K181q.1
          have KS181 := Nat.le_trans KS166 K181q.1
          have OL181 := OL166.keep K181q (allS gn1 all0)
          have G182 : Exa Z T181.heap b1 "com/example/seriestrace/seriestrace/cli/Summary" := G167.keep K181q
          have G183 : Exa Z T181.heap b3 "com/example/seriestrace/seriestrace/check/Finding" := G168.keep K181q
          have G184 : Fld Z T181.heap b3 "com/example/seriestrace/seriestrace/check/Finding" "rule" "Lcom/example/seriestrace/seriestrace/check/Rule;" (.ref ru) := G169.keep K181q (ninS ne4.symm nin0)
          have G185 : Exa Z T181.heap b28 "com/example/seriestrace/seriestrace/check/Finding" := G170.keep K181q
          have G186 : Fld Z T181.heap b28 "com/example/seriestrace/seriestrace/check/Finding" "rule" "Lcom/example/seriestrace/seriestrace/check/Rule;" (.ref b37) := G171.keep K181q (ninS ne29.symm nin0)
          have G187 : Exa Z T181.heap b37 "com/example/seriestrace/seriestrace/check/Rule" := G172.keep K181q
          have G188 : Fld Z T181.heap b37 "com/example/seriestrace/seriestrace/check/Rule" "severity" "Lcom/example/seriestrace/seriestrace/check/Severity;" (.ref wa) := G173.keep K181q (ninS ne38.symm nin0)
          have G189 : Fld Z T181.heap ru "com/example/seriestrace/seriestrace/check/Rule" "severity" "Lcom/example/seriestrace/seriestrace/check/Severity;" (.ref er) := FR180.keep K181q (ninS neR180.symm nin0)
          have G190 : Exa Z T181.heap ru "com/example/seriestrace/seriestrace/check/Rule" := ER180.keep K181q
          obtain ⟨cq191, kq191, q191a, q191b, q191c⟩ := isOf hZ rfl G182
          obtain ⟨_, _, ⟨T191, L191, k191, n191⟩, -, X191, ⟨Lc191, hQ191, l191, y191, z191⟩, st191⟩ := X181.virtualBack hx (y := (⟨"com/example/seriestrace/seriestrace/cli/Summary", "exitStatus", "()I"⟩ : MethodName)) (z := (⟨"com/example/seriestrace/seriestrace/cli/Summary", "exitStatus", "()I"⟩ : MethodName)) hown (mvT hZ (hw _ (List.mem_of_getElem? (i := 67) rfl))) (mvT hZ (hw _ (List.mem_of_getElem? (i := 68) rfl))) (notFace_of_selects (args := #[]) (mvT hZ (hw _ (List.mem_of_getElem? (i := 70) rfl)))) (mvT hZ (hw _ (List.mem_of_getElem? (i := 70) rfl))) (mvT hZ (hw _ (List.mem_of_getElem? (i := 69) rfl))) (by decide) (backOf (W := 0) (rm8 l Z a0 hw [] b1 (0 : Int64) (((0 : Int64) + (1 : Int64)) + (1 : Int64)) T181.heap F181a F181b) hZ (hw _ (List.mem_of_getElem? (i := 71) rfl)) (hw _ (List.mem_of_getElem? (i := 3) rfl)) (by decide) (by decide)) q191a q191c (g := (mkF m 140 #[.val (.int p0), .val (.int p1), .val (.int p2), .val (.int (gu p0)), .val (.int (ge p1)), .val (.int (gw p2)), .val (.ref b1), .val (.ref b3), .val (.ref b28), .val (.int (1 : Int32))] [(.ref b1)])) rfl (by rw [hml]; rfl) (Steps.refl _) (argsL := []) (rest := []) (lenOf pd_7 rfl) rfl (by show 2 * 0 + _ ≤ _; exact Nat.le_of_eq rfl) (hb hby at_140) (fun _ _ => ⟨rfl, rfl, (by decide : 22 + 0 ≤ _), (by decide : 200 + 0 ≤ _)⟩)
          dsimp only [Pt.U, Pt.locs, Pt.cells, Pt.slots] at X191 l191 y191 z191 st191 hQ191
          subst l191 y191 z191
          obtain ⟨rfl, rfl, e191⟩ := hQ191
          try rw [List.append_nil] at X191
          have K192 : ∀ t, Steps p.tables e below (T191.setTop (mkF m 153 #[.val (.int p0), .val (.int p1), .val (.int p2), .val (.int (gu p0)), .val (.int (ge p1)), .val (.int (gw p2)), .val (.ref b1), .val (.ref b3), .val (.ref b28), .val (.int (1 : Int32))] [(.int (1 : Int32))])) t → Steps p.tables e below (s₁.setTop (mkF m 0 #[.val (.int p0), .val (.int p1), .val (.int p2), .unset, .unset, .unset, .unset, .unset, .unset, .unset] [])) t := by
            intro t kt
            refine K176 _ ?_
            show Steps p.tables e below (T166.setTop (mkF m 104 #[.val (.int p0), .val (.int p1), .val (.int p2), .val (.int (gu p0)), .val (.int (ge p1)), .val (.int (gw p2)), .val (.ref b1), .val (.ref b3), .val (.ref b28), .unset] [(.int (2 : Int32)), (.int (ge p1))])) _
            refine XS.icmpNo X166.here hx rfl (hb hby at_104) rfl (flt hc177).1 ?_
            show Steps p.tables e below (T166.setTop (mkF m 107 #[.val (.int p0), .val (.int p1), .val (.int p2), .val (.int (gu p0)), .val (.int (ge p1)), .val (.int (gw p2)), .val (.ref b1), .val (.ref b3), .val (.ref b28), .unset] [])) _
            refine XS.aload X166.here hx rfl (hb hby at_107) rfl rfl ?_
            show Steps p.tables e below (T166.setTop (mkF m 109 #[.val (.int p0), .val (.int p1), .val (.int p2), .val (.int (gu p0)), .val (.int (ge p1)), .val (.int (gw p2)), .val (.ref b1), .val (.ref b3), .val (.ref b28), .unset] [(.ref b1)])) _
            refine XS.aload X166.here hx rfl (hb hby at_109) rfl rfl ?_
            show Steps p.tables e below (T166.setTop (mkF m 111 #[.val (.int p0), .val (.int p1), .val (.int p2), .val (.int (gu p0)), .val (.int (ge p1)), .val (.int (gw p2)), .val (.ref b1), .val (.ref b3), .val (.ref b28), .unset] [(.ref b3), (.ref b1)])) _
            refine st181.trans ?_
            show Steps p.tables e below (T181.setTop (mkF m 114 #[.val (.int p0), .val (.int p1), .val (.int p2), .val (.int (gu p0)), .val (.int (ge p1)), .val (.int (gw p2)), .val (.ref b1), .val (.ref b3), .val (.ref b28), .unset] [])) _
            refine XS.iloadN X181.here hx rfl (hb hby at_114) rfl ?_
            show Steps p.tables e below (T181.setTop (mkF m 115 #[.val (.int p0), .val (.int p1), .val (.int p2), .val (.int (gu p0)), .val (.int (ge p1)), .val (.int (gw p2)), .val (.ref b1), .val (.ref b3), .val (.ref b28), .unset] [(.int (gu p0))])) _
            refine XS.ifYes X181.here hx rfl (pc0 := 115) (pc' := 124) rfl (hb hby at_115) rfl ((if0 _ _).trans (flt (show ¬ ((0 : Int32) < (gu p0)) from (own_u0 hc120))).2.2.2) (by decide) (by decide) ?_
            show Steps p.tables e below (T181.setTop (mkF m 124 #[.val (.int p0), .val (.int p1), .val (.int p2), .val (.int (gu p0)), .val (.int (ge p1)), .val (.int (gw p2)), .val (.ref b1), .val (.ref b3), .val (.ref b28), .unset] [])) _
            refine XS.iload X181.here hx rfl (hb hby at_124) rfl ?_
            show Steps p.tables e below (T181.setTop (mkF m 126 #[.val (.int p0), .val (.int p1), .val (.int p2), .val (.int (gu p0)), .val (.int (ge p1)), .val (.int (gw p2)), .val (.ref b1), .val (.ref b3), .val (.ref b28), .unset] [(.int (ge p1))])) _
            refine XS.ifNo X181.here hx rfl (hb hby at_126) rfl ((if0 _ _).trans (tlt (show (0 : Int32) < (ge p1) from (own_e1 hc162))).2.2.2) ?_
            show Steps p.tables e below (T181.setTop (mkF m 129 #[.val (.int p0), .val (.int p1), .val (.int p2), .val (.int (gu p0)), .val (.int (ge p1)), .val (.int (gw p2)), .val (.ref b1), .val (.ref b3), .val (.ref b28), .unset] [])) _
            refine XS.iconst X181.here hx rfl (hb hby at_129) ?_
            show Steps p.tables e below (T181.setTop (mkF m 130 #[.val (.int p0), .val (.int p1), .val (.int p2), .val (.int (gu p0)), .val (.int (ge p1)), .val (.int (gw p2)), .val (.ref b1), .val (.ref b3), .val (.ref b28), .unset] [(.int (1 : Int32))])) _
            refine XS.istore X181.here hx rfl (hb hby at_130) rfl (l' := #[.val (.int p0), .val (.int p1), .val (.int p2), .val (.int (gu p0)), .val (.int (ge p1)), .val (.int (gw p2)), .val (.ref b1), .val (.ref b3), .val (.ref b28), .val (.int (1 : Int32))]) rfl ?_
            show Steps p.tables e below (T181.setTop (mkF m 132 #[.val (.int p0), .val (.int p1), .val (.int p2), .val (.int (gu p0)), .val (.int (ge p1)), .val (.int (gw p2)), .val (.ref b1), .val (.ref b3), .val (.ref b28), .val (.int (1 : Int32))] [])) _
            refine XS.goto X181.here hx rfl (pc0 := 132) (pc' := 138) rfl (hb hby at_132) (by decide) (by decide) ?_
            show Steps p.tables e below (T181.setTop (mkF m 138 #[.val (.int p0), .val (.int p1), .val (.int p2), .val (.int (gu p0)), .val (.int (ge p1)), .val (.int (gw p2)), .val (.ref b1), .val (.ref b3), .val (.ref b28), .val (.int (1 : Int32))] [])) _
            refine XS.aload X181.here hx rfl (hb hby at_138) rfl rfl ?_
            show Steps p.tables e below (T181.setTop (mkF m 140 #[.val (.int p0), .val (.int p1), .val (.int p2), .val (.int (gu p0)), .val (.int (ge p1)), .val (.int (gw p2)), .val (.ref b1), .val (.ref b3), .val (.ref b28), .val (.int (1 : Int32))] [(.ref b1)])) _
            refine st191.trans ?_
            show Steps p.tables e below (T191.setTop (mkF m 143 #[.val (.int p0), .val (.int p1), .val (.int p2), .val (.int (gu p0)), .val (.int (ge p1)), .val (.int (gw p2)), .val (.ref b1), .val (.ref b3), .val (.ref b28), .val (.int (1 : Int32))] [(.int (f8 (0 : Int64) (((0 : Int64) + (1 : Int64)) + (1 : Int64))))])) _
            refine XS.iload X191.here hx rfl (hb hby at_143) rfl ?_
            show Steps p.tables e below (T191.setTop (mkF m 145 #[.val (.int p0), .val (.int p1), .val (.int p2), .val (.int (gu p0)), .val (.int (ge p1)), .val (.int (gw p2)), .val (.ref b1), .val (.ref b3), .val (.ref b28), .val (.int (1 : Int32))] [(.int (1 : Int32)), (.int (f8 (0 : Int64) (((0 : Int64) + (1 : Int64)) + (1 : Int64))))])) _
            refine XS.icmpNo X191.here hx rfl (hb hby at_145) rfl (teq (show (f8 (0 : Int64) (((0 : Int64) + (1 : Int64)) + (1 : Int64))) = (1 : Int32) from (by decide))).2 ?_
            show Steps p.tables e below (T191.setTop (mkF m 148 #[.val (.int p0), .val (.int p1), .val (.int p2), .val (.int (gu p0)), .val (.int (ge p1)), .val (.int (gw p2)), .val (.ref b1), .val (.ref b3), .val (.ref b28), .val (.int (1 : Int32))] [])) _
            refine XS.iconst X191.here hx rfl (hb hby at_148) ?_
            show Steps p.tables e below (T191.setTop (mkF m 149 #[.val (.int p0), .val (.int p1), .val (.int p2), .val (.int (gu p0)), .val (.int (ge p1)), .val (.int (gw p2)), .val (.ref b1), .val (.ref b3), .val (.ref b28), .val (.int (1 : Int32))] [(.int (1 : Int32))])) _
            refine XS.goto X191.here hx rfl (pc0 := 149) (pc' := 153) rfl (hb hby at_149) (by decide) (by decide) ?_
            exact kt
          obtain ⟨fsQ, hr, hrun, hended, hRW⟩ := X191.leaveW (s := s) hS98 (by rw [e191]; exact KS181) (v := some (.int (1 : Int32))) (fun h => by rw [Bd.returns] at h; cases h)
          refine ⟨_, _, pre0 _ (K192 _ ?_), hrun, hended, _, _, rfl, ?_, hRW.1, hRW.2.1, hRW.2.2.1, hRW.2.2.2.mono (by decide) (by decide)⟩
          · show Steps p.tables e below (T191.setTop (mkF m 153 #[.val (.int p0), .val (.int p1), .val (.int p2), .val (.int (gu p0)), .val (.int (ge p1)), .val (.int (gw p2)), .val (.ref b1), .val (.ref b3), .val (.ref b28), .val (.int (1 : Int32))] [(.int (1 : Int32))])) _
            exact retN X191 hx (t := .boolean) Bd.returns (by simp) (hb hby at_153) hr
          · show Q0 Z p0 p1 p2 ru wa er h0 n0 _ T191.heap _
            rw [e191]
            exact ⟨rfl, N181⟩
  · skip
    have K193 : ∀ t, Steps p.tables e below (T98.setTop (mkF m 80 #[.val (.int p0), .val (.int p1), .val (.int p2), .val (.int (gu p0)), .val (.int (ge p1)), .val (.int (gw p2)), .val (.ref b1), .val (.ref b3), .val (.ref b28), .unset] [(.int (1 : Int32)), (.int (gu p0))])) t → Steps p.tables e below (s₁.setTop (mkF m 0 #[.val (.int p0), .val (.int p1), .val (.int p2), .unset, .unset, .unset, .unset, .unset, .unset, .unset] [])) t := by
      intro t kt
      refine K109 _ ?_
      show Steps p.tables e below (T98.setTop (mkF m 68 #[.val (.int p0), .val (.int p1), .val (.int p2), .val (.int (gu p0)), .val (.int (ge p1)), .val (.int (gw p2)), .val (.ref b1), .val (.ref b3), .val (.ref b28), .unset] [(.int (1 : Int32)), (.int (gw p2))])) _
      refine XS.icmpYes X98.here hx rfl (pc0 := 68) (pc' := 78) rfl (hb hby at_68) rfl (feq hc110).2 (by decide) (by decide) ?_
      show Steps p.tables e below (T98.setTop (mkF m 78 #[.val (.int p0), .val (.int p1), .val (.int p2), .val (.int (gu p0)), .val (.int (ge p1)), .val (.int (gw p2)), .val (.ref b1), .val (.ref b3), .val (.ref b28), .unset] [])) _
      refine XS.iloadN X98.here hx rfl (hb hby at_78) rfl ?_
      show Steps p.tables e below (T98.setTop (mkF m 79 #[.val (.int p0), .val (.int p1), .val (.int p2), .val (.int (gu p0)), .val (.int (ge p1)), .val (.int (gw p2)), .val (.ref b1), .val (.ref b3), .val (.ref b28), .unset] [(.int (gu p0))])) _
      refine XS.iconst X98.here hx rfl (hb hby at_79) ?_
      exact kt
    by_cases hc194 : (gu p0) = (1 : Int32)
    · skip
      obtain ⟨cq195, kq195, q195a, q195b, q195c⟩ := isOf hZ rfl G100
      obtain ⟨_, _, ⟨T195, L195, k195, n195⟩, -, X195, ⟨Lc195, hQ195, l195, y195, z195⟩, st195⟩ := X98.virtualBack hx (y := (⟨"com/example/seriestrace/seriestrace/cli/Summary", "addUnreadable", "()V"⟩ : MethodName)) (z := (⟨"com/example/seriestrace/seriestrace/cli/Summary", "addUnreadable", "()V"⟩ : MethodName)) hown (mvT hZ (hw _ (List.mem_of_getElem? (i := 95) rfl))) (mvT hZ (hw _ (List.mem_of_getElem? (i := 96) rfl))) (notFace_of_selects (args := #[]) (mvT hZ (hw _ (List.mem_of_getElem? (i := 98) rfl)))) (mvT hZ (hw _ (List.mem_of_getElem? (i := 98) rfl))) (mvT hZ (hw _ (List.mem_of_getElem? (i := 97) rfl))) (by decide) (backOf (W := 0) (rm12 l Z a0 hw [] b1 (0 : Int64) (0 : Int64) (0 : Int64) T98.heap n0 Z98 G101 G102 G103 G100 gn1) hZ (hw _ (List.mem_of_getElem? (i := 99) rfl)) (hw _ (List.mem_of_getElem? (i := 3) rfl)) (by decide) (by decide)) q195a q195c (g := (mkF m 85 #[.val (.int p0), .val (.int p1), .val (.int p2), .val (.int (gu p0)), .val (.int (ge p1)), .val (.int (gw p2)), .val (.ref b1), .val (.ref b3), .val (.ref b28), .unset] [(.ref b1)])) rfl (by rw [hml]; rfl) (Steps.refl _) (argsL := []) (rest := []) (lenOf pd_0 rfl) rfl (by show 2 * 0 + _ ≤ _; exact Nat.le_of_eq rfl) (hb hby at_85) (fun _ _ => ⟨rfl, rfl, (by decide : 22 + 0 ≤ _), (by decide : 200 + 0 ≤ _)⟩)
      dsimp only [Pt.U, Pt.locs, Pt.cells, Pt.slots] at X195 l195 y195 z195 st195 hQ195
      subst l195 y195 z195
      obtain ⟨rfl, N195q, K195q, F195a, F195b, F195c⟩ := hQ195
      have N195 := Fr.app N98 N195q
      have Z195 : n0 ≤ T195.heap.size := Nat.le_trans Z98 K195q.1
      have KS195 := Nat.le_trans (Nat.le_refl _) K195q.1
      have OL195 := OL98.keep K195q (allS gn1 all0)
      have G196 : Exa Z T195.heap b1 "com/example/seriestrace/seriestrace/cli/Summary" := G100.keep K195q
      have G197 : Exa Z T195.heap b3 "com/example/seriestrace/seriestrace/check/Finding" := G104.keep K195q
      have G198 : Fld Z T195.heap b3 "com/example/seriestrace/seriestrace/check/Finding" "rule" "Lcom/example/seriestrace/seriestrace/check/Rule;" (.ref ru) := G105.keep K195q (ninS ne4.symm nin0)
      have G199 : Exa Z T195.heap b28 "com/example/seriestrace/seriestrace/check/Finding" := G106.keep K195q
      have G200 : Fld Z T195.heap b28 "com/example/seriestrace/seriestrace/check/Finding" "rule" "Lcom/example/seriestrace/seriestrace/check/Rule;" (.ref b37) := F98q.keep K195q (ninS ne29.symm nin0)
      have G201 : Exa Z T195.heap b37 "com/example/seriestrace/seriestrace/check/Rule" := G107.keep K195q
      have G202 : Fld Z T195.heap b37 "com/example/seriestrace/seriestrace/check/Rule" "severity" "Lcom/example/seriestrace/seriestrace/check/Severity;" (.ref wa) := G108.keep K195q (ninS ne38.symm nin0)
      have K203 : ∀ t, Steps p.tables e below (T195.setTop (mkF m 91 #[.val (.int p0), .val (.int p1), .val (.int p2), .val (.int (gu p0)), .val (.int (ge p1)), .val (.int (gw p2)), .val (.ref b1), .val (.ref b3), .val (.ref b28), .unset] [(.int (1 : Int32)), (.int (ge p1))])) t → Steps p.tables e below (s₁.setTop (mkF m 0 #[.val (.int p0), .val (.int p1), .val (.int p2), .unset, .unset, .unset, .unset, .unset, .unset, .unset] [])) t := by
        intro t kt
        refine K193 _ ?_
        show Steps p.tables e below (T98.setTop (mkF m 80 #[.val (.int p0), .val (.int p1), .val (.int p2), .val (.int (gu p0)), .val (.int (ge p1)), .val (.int (gw p2)), .val (.ref b1), .val (.ref b3), .val (.ref b28), .unset] [(.int (1 : Int32)), (.int (gu p0))])) _
        refine XS.icmpNo X98.here hx rfl (hb hby at_80) rfl (teq hc194).2 ?_
        show Steps p.tables e below (T98.setTop (mkF m 83 #[.val (.int p0), .val (.int p1), .val (.int p2), .val (.int (gu p0)), .val (.int (ge p1)), .val (.int (gw p2)), .val (.ref b1), .val (.ref b3), .val (.ref b28), .unset] [])) _
        refine XS.aload X98.here hx rfl (hb hby at_83) rfl rfl ?_
        show Steps p.tables e below (T98.setTop (mkF m 85 #[.val (.int p0), .val (.int p1), .val (.int p2), .val (.int (gu p0)), .val (.int (ge p1)), .val (.int (gw p2)), .val (.ref b1), .val (.ref b3), .val (.ref b28), .unset] [(.ref b1)])) _
        refine st195.trans ?_
        show Steps p.tables e below (T195.setTop (mkF m 88 #[.val (.int p0), .val (.int p1), .val (.int p2), .val (.int (gu p0)), .val (.int (ge p1)), .val (.int (gw p2)), .val (.ref b1), .val (.ref b3), .val (.ref b28), .unset] [])) _
        refine XS.iload X195.here hx rfl (hb hby at_88) rfl ?_
        show Steps p.tables e below (T195.setTop (mkF m 90 #[.val (.int p0), .val (.int p1), .val (.int p2), .val (.int (gu p0)), .val (.int (ge p1)), .val (.int (gw p2)), .val (.ref b1), .val (.ref b3), .val (.ref b28), .unset] [(.int (ge p1))])) _
        refine XS.iconst X195.here hx rfl (hb hby at_90) ?_
        exact kt
      by_cases hc204 : (ge p1) < (1 : Int32)
      · skip
        obtain ⟨cq205, kq205, q205a, q205b, q205c⟩ := isOf hZ rfl G196
        obtain ⟨_, _, ⟨T205, L205, k205, n205⟩, -, X205, ⟨Lc205, hQ205, l205, y205, z205⟩, st205⟩ := X195.virtualBack hx (y := (⟨"com/example/seriestrace/seriestrace/cli/Summary", "exitStatus", "()I"⟩ : MethodName)) (z := (⟨"com/example/seriestrace/seriestrace/cli/Summary", "exitStatus", "()I"⟩ : MethodName)) hown (mvT hZ (hw _ (List.mem_of_getElem? (i := 67) rfl))) (mvT hZ (hw _ (List.mem_of_getElem? (i := 68) rfl))) (notFace_of_selects (args := #[]) (mvT hZ (hw _ (List.mem_of_getElem? (i := 70) rfl)))) (mvT hZ (hw _ (List.mem_of_getElem? (i := 70) rfl))) (mvT hZ (hw _ (List.mem_of_getElem? (i := 69) rfl))) (by decide) (backOf (W := 0) (rm8 l Z a0 hw [] b1 ((0 : Int64) + (1 : Int64)) (0 : Int64) T195.heap F195a F195b) hZ (hw _ (List.mem_of_getElem? (i := 71) rfl)) (hw _ (List.mem_of_getElem? (i := 3) rfl)) (by decide) (by decide)) q205a q205c (g := (mkF m 140 #[.val (.int p0), .val (.int p1), .val (.int p2), .val (.int (gu p0)), .val (.int (ge p1)), .val (.int (gw p2)), .val (.ref b1), .val (.ref b3), .val (.ref b28), .val (.int (2 : Int32))] [(.ref b1)])) rfl (by rw [hml]; rfl) (Steps.refl _) (argsL := []) (rest := []) (lenOf pd_7 rfl) rfl (by show 2 * 0 + _ ≤ _; exact Nat.le_of_eq rfl) (hb hby at_140) (fun _ _ => ⟨rfl, rfl, (by decide : 22 + 0 ≤ _), (by decide : 200 + 0 ≤ _)⟩)
        dsimp only [Pt.U, Pt.locs, Pt.cells, Pt.slots] at X205 l205 y205 z205 st205 hQ205
        subst l205 y205 z205
        obtain ⟨rfl, rfl, e205⟩ := hQ205
        try rw [List.append_nil] at X205
        have K206 : ∀ t, Steps p.tables e below (T205.setTop (mkF m 153 #[.val (.int p0), .val (.int p1), .val (.int p2), .val (.int (gu p0)), .val (.int (ge p1)), .val (.int (gw p2)), .val (.ref b1), .val (.ref b3), .val (.ref b28), .val (.int (2 : Int32))] [(.int (1 : Int32))])) t → Steps p.tables e below (s₁.setTop (mkF m 0 #[.val (.int p0), .val (.int p1), .val (.int p2), .unset, .unset, .unset, .unset, .unset, .unset, .unset] [])) t := by
          intro t kt
          refine K203 _ ?_
          show Steps p.tables e below (T195.setTop (mkF m 91 #[.val (.int p0), .val (.int p1), .val (.int p2), .val (.int (gu p0)), .val (.int (ge p1)), .val (.int (gw p2)), .val (.ref b1), .val (.ref b3), .val (.ref b28), .unset] [(.int (1 : Int32)), (.int (ge p1))])) _
          refine XS.icmpYes X195.here hx rfl (pc0 := 91) (pc' := 101) rfl (hb hby at_91) rfl (tlt hc204).1 (by decide) (by decide) ?_
          show Steps p.tables e below (T195.setTop (mkF m 101 #[.val (.int p0), .val (.int p1), .val (.int p2), .val (.int (gu p0)), .val (.int (ge p1)), .val (.int (gw p2)), .val (.ref b1), .val (.ref b3), .val (.ref b28), .unset] [])) _
          refine XS.iload X195.here hx rfl (hb hby at_101) rfl ?_
          show Steps p.tables e below (T195.setTop (mkF m 103 #[.val (.int p0), .val (.int p1), .val (.int p2), .val (.int (gu p0)), .val (.int (ge p1)), .val (.int (gw p2)), .val (.ref b1), .val (.ref b3), .val (.ref b28), .unset] [(.int (ge p1))])) _
          refine XS.iconst X195.here hx rfl (hb hby at_103) ?_
          show Steps p.tables e below (T195.setTop (mkF m 104 #[.val (.int p0), .val (.int p1), .val (.int p2), .val (.int (gu p0)), .val (.int (ge p1)), .val (.int (gw p2)), .val (.ref b1), .val (.ref b3), .val (.ref b28), .unset] [(.int (2 : Int32)), (.int (ge p1))])) _
          refine XS.icmpYes X195.here hx rfl (pc0 := 104) (pc' := 114) rfl (hb hby at_104) rfl (tlt (show (ge p1) < (2 : Int32) from (own_e2 hc204))).1 (by decide) (by decide) ?_
          show Steps p.tables e below (T195.setTop (mkF m 114 #[.val (.int p0), .val (.int p1), .val (.int p2), .val (.int (gu p0)), .val (.int (ge p1)), .val (.int (gw p2)), .val (.ref b1), .val (.ref b3), .val (.ref b28), .unset] [])) _
          refine XS.iloadN X195.here hx rfl (hb hby at_114) rfl ?_
          show Steps p.tables e below (T195.setTop (mkF m 115 #[.val (.int p0), .val (.int p1), .val (.int p2), .val (.int (gu p0)), .val (.int (ge p1)), .val (.int (gw p2)), .val (.ref b1), .val (.ref b3), .val (.ref b28), .unset] [(.int (gu p0))])) _
          refine XS.ifNo X195.here hx rfl (hb hby at_115) rfl ((if0 _ _).trans (tlt (show (0 : Int32) < (gu p0) from (own_u1 hc194))).2.2.2) ?_
          show Steps p.tables e below (T195.setTop (mkF m 118 #[.val (.int p0), .val (.int p1), .val (.int p2), .val (.int (gu p0)), .val (.int (ge p1)), .val (.int (gw p2)), .val (.ref b1), .val (.ref b3), .val (.ref b28), .unset] [])) _
          refine XS.iconst X195.here hx rfl (hb hby at_118) ?_
          show Steps p.tables e below (T195.setTop (mkF m 119 #[.val (.int p0), .val (.int p1), .val (.int p2), .val (.int (gu p0)), .val (.int (ge p1)), .val (.int (gw p2)), .val (.ref b1), .val (.ref b3), .val (.ref b28), .unset] [(.int (2 : Int32))])) _
          refine XS.istore X195.here hx rfl (hb hby at_119) rfl (l' := #[.val (.int p0), .val (.int p1), .val (.int p2), .val (.int (gu p0)), .val (.int (ge p1)), .val (.int (gw p2)), .val (.ref b1), .val (.ref b3), .val (.ref b28), .val (.int (2 : Int32))]) rfl ?_
          show Steps p.tables e below (T195.setTop (mkF m 121 #[.val (.int p0), .val (.int p1), .val (.int p2), .val (.int (gu p0)), .val (.int (ge p1)), .val (.int (gw p2)), .val (.ref b1), .val (.ref b3), .val (.ref b28), .val (.int (2 : Int32))] [])) _
          refine XS.goto X195.here hx rfl (pc0 := 121) (pc' := 138) rfl (hb hby at_121) (by decide) (by decide) ?_
          show Steps p.tables e below (T195.setTop (mkF m 138 #[.val (.int p0), .val (.int p1), .val (.int p2), .val (.int (gu p0)), .val (.int (ge p1)), .val (.int (gw p2)), .val (.ref b1), .val (.ref b3), .val (.ref b28), .val (.int (2 : Int32))] [])) _
          refine XS.aload X195.here hx rfl (hb hby at_138) rfl rfl ?_
          show Steps p.tables e below (T195.setTop (mkF m 140 #[.val (.int p0), .val (.int p1), .val (.int p2), .val (.int (gu p0)), .val (.int (ge p1)), .val (.int (gw p2)), .val (.ref b1), .val (.ref b3), .val (.ref b28), .val (.int (2 : Int32))] [(.ref b1)])) _
          refine st205.trans ?_
          show Steps p.tables e below (T205.setTop (mkF m 143 #[.val (.int p0), .val (.int p1), .val (.int p2), .val (.int (gu p0)), .val (.int (ge p1)), .val (.int (gw p2)), .val (.ref b1), .val (.ref b3), .val (.ref b28), .val (.int (2 : Int32))] [(.int (f8 ((0 : Int64) + (1 : Int64)) (0 : Int64)))])) _
          refine XS.iload X205.here hx rfl (hb hby at_143) rfl ?_
          show Steps p.tables e below (T205.setTop (mkF m 145 #[.val (.int p0), .val (.int p1), .val (.int p2), .val (.int (gu p0)), .val (.int (ge p1)), .val (.int (gw p2)), .val (.ref b1), .val (.ref b3), .val (.ref b28), .val (.int (2 : Int32))] [(.int (2 : Int32)), (.int (f8 ((0 : Int64) + (1 : Int64)) (0 : Int64)))])) _
          refine XS.icmpNo X205.here hx rfl (hb hby at_145) rfl (teq (show (f8 ((0 : Int64) + (1 : Int64)) (0 : Int64)) = (2 : Int32) from (by decide))).2 ?_
          show Steps p.tables e below (T205.setTop (mkF m 148 #[.val (.int p0), .val (.int p1), .val (.int p2), .val (.int (gu p0)), .val (.int (ge p1)), .val (.int (gw p2)), .val (.ref b1), .val (.ref b3), .val (.ref b28), .val (.int (2 : Int32))] [])) _
          refine XS.iconst X205.here hx rfl (hb hby at_148) ?_
          show Steps p.tables e below (T205.setTop (mkF m 149 #[.val (.int p0), .val (.int p1), .val (.int p2), .val (.int (gu p0)), .val (.int (ge p1)), .val (.int (gw p2)), .val (.ref b1), .val (.ref b3), .val (.ref b28), .val (.int (2 : Int32))] [(.int (1 : Int32))])) _
          refine XS.goto X205.here hx rfl (pc0 := 149) (pc' := 153) rfl (hb hby at_149) (by decide) (by decide) ?_
          exact kt
        obtain ⟨fsQ, hr, hrun, hended, hRW⟩ := X205.leaveW (s := s) hS98 (by rw [e205]; exact KS195) (v := some (.int (1 : Int32))) (fun h => by rw [Bd.returns] at h; cases h)
        refine ⟨_, _, pre0 _ (K206 _ ?_), hrun, hended, _, _, rfl, ?_, hRW.1, hRW.2.1, hRW.2.2.1, hRW.2.2.2.mono (by decide) (by decide)⟩
        · show Steps p.tables e below (T205.setTop (mkF m 153 #[.val (.int p0), .val (.int p1), .val (.int p2), .val (.int (gu p0)), .val (.int (ge p1)), .val (.int (gw p2)), .val (.ref b1), .val (.ref b3), .val (.ref b28), .val (.int (2 : Int32))] [(.int (1 : Int32))])) _
          exact retN X205 hx (t := .boolean) Bd.returns (by simp) (hb hby at_153) hr
        · show Q0 Z p0 p1 p2 ru wa er h0 n0 _ T205.heap _
          rw [e205]
          exact ⟨rfl, N195⟩
      · skip
        have FR207 : Fld Z T195.heap ru "com/example/seriestrace/seriestrace/check/Rule" "severity" "Lcom/example/seriestrace/seriestrace/check/Severity;" (.ref er) := Fsev.ext OL195.2
        have ER207 : Exa Z T195.heap ru "com/example/seriestrace/seriestrace/check/Rule" := Eru.ext OL195.2
        have neR207 : b1 ≠ ru := (OL195.ne Eru.lt gn1).symm
        obtain ⟨cq208, kq208, q208a, q208b, q208c⟩ := isOf hZ rfl G196
        obtain ⟨_, _, ⟨T208, L208, k208, n208⟩, -, X208, ⟨Lc208, hQ208, l208, y208, z208⟩, st208⟩ := X195.virtualBack hx (y := (⟨"com/example/seriestrace/seriestrace/cli/Summary", "addFinding", "(Lcom/example/seriestrace/seriestrace/check/Finding;)V"⟩ : MethodName)) (z := (⟨"com/example/seriestrace/seriestrace/cli/Summary", "addFinding", "(Lcom/example/seriestrace/seriestrace/check/Finding;)V"⟩ : MethodName)) hown (mvT hZ (hw _ (List.mem_of_getElem? (i := 76) rfl))) (mvT hZ (hw _ (List.mem_of_getElem? (i := 77) rfl))) (notFace_of_selects (args := #[]) (mvT hZ (hw _ (List.mem_of_getElem? (i := 79) rfl)))) (mvT hZ (hw _ (List.mem_of_getElem? (i := 79) rfl))) (mvT hZ (hw _ (List.mem_of_getElem? (i := 78) rfl))) (by decide) (backOf (W := 0) (rm9e l Z a0 hw [] b1 b3 ((0 : Int64) + (1 : Int64)) (0 : Int64) (0 : Int64) ru er er T195.heap n0 Z195 F195a F195b F195c G196 gn1 G198 FR207 G197 ER207 (Ser.ext OL195.2) ne4 neR207 rfl) hZ (hw _ (List.mem_of_getElem? (i := 80) rfl)) (hw _ (List.mem_of_getElem? (i := 3) rfl)) (by decide) (by decide)) q208a q208c (g := (mkF m 98 #[.val (.int p0), .val (.int p1), .val (.int p2), .val (.int (gu p0)), .val (.int (ge p1)), .val (.int (gw p2)), .val (.ref b1), .val (.ref b3), .val (.ref b28), .unset] [(.ref b3), (.ref b1)])) rfl (by rw [hml]; rfl) (Steps.refl _) (argsL := [(.ref b3)]) (rest := []) (lenOf pd_6 rfl) rfl (by show 2 * 0 + _ ≤ _; exact Nat.le_of_eq rfl) (hb hby at_98) (fun _ _ => ⟨rfl, rfl, (by decide : 22 + 0 ≤ _), (by decide : 200 + 0 ≤ _)⟩)
        dsimp only [Pt.U, Pt.locs, Pt.cells, Pt.slots] at X208 l208 y208 z208 st208 hQ208
        subst l208 y208 z208
        obtain ⟨rfl, N208q, K208q, F208a, F208b, F208c⟩ := hQ208
        have N208 := Fr.app N195 N208q
        have Z208 : n0 ≤ T208.heap.size := Nat.le_trans Z195 K208q.1
        have KS208 := Nat.le_trans KS195 K208q.1
        have OL208 := OL195.keep K208q (allS gn1 all0)
        have G209 : Exa Z T208.heap b1 "com/example/seriestrace/seriestrace/cli/Summary" := G196.keep K208q
        have G210 : Exa Z T208.heap b3 "com/example/seriestrace/seriestrace/check/Finding" := G197.keep K208q
        have G211 : Fld Z T208.heap b3 "com/example/seriestrace/seriestrace/check/Finding" "rule" "Lcom/example/seriestrace/seriestrace/check/Rule;" (.ref ru) := G198.keep K208q (ninS ne4.symm nin0)
        have G212 : Exa Z T208.heap b28 "com/example/seriestrace/seriestrace/check/Finding" := G199.keep K208q
        have G213 : Fld Z T208.heap b28 "com/example/seriestrace/seriestrace/check/Finding" "rule" "Lcom/example/seriestrace/seriestrace/check/Rule;" (.ref b37) := G200.keep K208q (ninS ne29.symm nin0)
        have G214 : Exa Z T208.heap b37 "com/example/seriestrace/seriestrace/check/Rule" := G201.keep K208q
        have G215 : Fld Z T208.heap b37 "com/example/seriestrace/seriestrace/check/Rule" "severity" "Lcom/example/seriestrace/seriestrace/check/Severity;" (.ref wa) := G202.keep K208q (ninS ne38.symm nin0)
        have G216 : Fld Z T208.heap ru "com/example/seriestrace/seriestrace/check/Rule" "severity" "Lcom/example/seriestrace/seriestrace/check/Severity;" (.ref er) := FR207.keep K208q (ninS neR207.symm nin0)
        have G217 : Exa Z T208.heap ru "com/example/seriestrace/seriestrace/check/Rule" := ER207.keep K208q
        have K218 : ∀ t, Steps p.tables e below (T208.setTop (mkF m 104 #[.val (.int p0), .val (.int p1), .val (.int p2), .val (.int (gu p0)), .val (.int (ge p1)), .val (.int (gw p2)), .val (.ref b1), .val (.ref b3), .val (.ref b28), .unset] [(.int (2 : Int32)), (.int (ge p1))])) t → Steps p.tables e below (s₁.setTop (mkF m 0 #[.val (.int p0), .val (.int p1), .val (.int p2), .unset, .unset, .unset, .unset, .unset, .unset, .unset] [])) t := by
          intro t kt
          refine K203 _ ?_
          show Steps p.tables e below (T195.setTop (mkF m 91 #[.val (.int p0), .val (.int p1), .val (.int p2), .val (.int (gu p0)), .val (.int (ge p1)), .val (.int (gw p2)), .val (.ref b1), .val (.ref b3), .val (.ref b28), .unset] [(.int (1 : Int32)), (.int (ge p1))])) _
          refine XS.icmpNo X195.here hx rfl (hb hby at_91) rfl (flt hc204).1 ?_
          show Steps p.tables e below (T195.setTop (mkF m 94 #[.val (.int p0), .val (.int p1), .val (.int p2), .val (.int (gu p0)), .val (.int (ge p1)), .val (.int (gw p2)), .val (.ref b1), .val (.ref b3), .val (.ref b28), .unset] [])) _
          refine XS.aload X195.here hx rfl (hb hby at_94) rfl rfl ?_
          show Steps p.tables e below (T195.setTop (mkF m 96 #[.val (.int p0), .val (.int p1), .val (.int p2), .val (.int (gu p0)), .val (.int (ge p1)), .val (.int (gw p2)), .val (.ref b1), .val (.ref b3), .val (.ref b28), .unset] [(.ref b1)])) _
          refine XS.aload X195.here hx rfl (hb hby at_96) rfl rfl ?_
          show Steps p.tables e below (T195.setTop (mkF m 98 #[.val (.int p0), .val (.int p1), .val (.int p2), .val (.int (gu p0)), .val (.int (ge p1)), .val (.int (gw p2)), .val (.ref b1), .val (.ref b3), .val (.ref b28), .unset] [(.ref b3), (.ref b1)])) _
          refine st208.trans ?_
          show Steps p.tables e below (T208.setTop (mkF m 101 #[.val (.int p0), .val (.int p1), .val (.int p2), .val (.int (gu p0)), .val (.int (ge p1)), .val (.int (gw p2)), .val (.ref b1), .val (.ref b3), .val (.ref b28), .unset] [])) _
          refine XS.iload X208.here hx rfl (hb hby at_101) rfl ?_
          show Steps p.tables e below (T208.setTop (mkF m 103 #[.val (.int p0), .val (.int p1), .val (.int p2), .val (.int (gu p0)), .val (.int (ge p1)), .val (.int (gw p2)), .val (.ref b1), .val (.ref b3), .val (.ref b28), .unset] [(.int (ge p1))])) _
          refine XS.iconst X208.here hx rfl (hb hby at_103) ?_
          exact kt
        by_cases hc219 : (ge p1) < (2 : Int32)
        · skip
          obtain ⟨cq220, kq220, q220a, q220b, q220c⟩ := isOf hZ rfl G209
          obtain ⟨_, _, ⟨T220, L220, k220, n220⟩, -, X220, ⟨Lc220, hQ220, l220, y220, z220⟩, st220⟩ := X208.virtualBack hx (y := (⟨"com/example/seriestrace/seriestrace/cli/Summary", "exitStatus", "()I"⟩ : MethodName)) (z := (⟨"com/example/seriestrace/seriestrace/cli/Summary", "exitStatus", "()I"⟩ : MethodName)) hown (mvT hZ (hw _ (List.mem_of_getElem? (i := 67) rfl))) (mvT hZ (hw _ (List.mem_of_getElem? (i := 68) rfl))) (notFace_of_selects (args := #[]) (mvT hZ (hw _ (List.mem_of_getElem? (i := 70) rfl)))) (mvT hZ (hw _ (List.mem_of_getElem? (i := 70) rfl))) (mvT hZ (hw _ (List.mem_of_getElem? (i := 69) rfl))) (by decide) (backOf (W := 0) (rm8 l Z a0 hw [] b1 ((0 : Int64) + (1 : Int64)) ((0 : Int64) + (1 : Int64)) T208.heap F208a F208b) hZ (hw _ (List.mem_of_getElem? (i := 71) rfl)) (hw _ (List.mem_of_getElem? (i := 3) rfl)) (by decide) (by decide)) q220a q220c (g := (mkF m 140 #[.val (.int p0), .val (.int p1), .val (.int p2), .val (.int (gu p0)), .val (.int (ge p1)), .val (.int (gw p2)), .val (.ref b1), .val (.ref b3), .val (.ref b28), .val (.int (2 : Int32))] [(.ref b1)])) rfl (by rw [hml]; rfl) (Steps.refl _) (argsL := []) (rest := []) (lenOf pd_7 rfl) rfl (by show 2 * 0 + _ ≤ _; exact Nat.le_of_eq rfl) (hb hby at_140) (fun _ _ => ⟨rfl, rfl, (by decide : 22 + 0 ≤ _), (by decide : 200 + 0 ≤ _)⟩)
          dsimp only [Pt.U, Pt.locs, Pt.cells, Pt.slots] at X220 l220 y220 z220 st220 hQ220
          subst l220 y220 z220
          obtain ⟨rfl, rfl, e220⟩ := hQ220
          try rw [List.append_nil] at X220
          have K221 : ∀ t, Steps p.tables e below (T220.setTop (mkF m 153 #[.val (.int p0), .val (.int p1), .val (.int p2), .val (.int (gu p0)), .val (.int (ge p1)), .val (.int (gw p2)), .val (.ref b1), .val (.ref b3), .val (.ref b28), .val (.int (2 : Int32))] [(.int (1 : Int32))])) t → Steps p.tables e below (s₁.setTop (mkF m 0 #[.val (.int p0), .val (.int p1), .val (.int p2), .unset, .unset, .unset, .unset, .unset, .unset, .unset] [])) t := by
            intro t kt
            refine K218 _ ?_
            show Steps p.tables e below (T208.setTop (mkF m 104 #[.val (.int p0), .val (.int p1), .val (.int p2), .val (.int (gu p0)), .val (.int (ge p1)), .val (.int (gw p2)), .val (.ref b1), .val (.ref b3), .val (.ref b28), .unset] [(.int (2 : Int32)), (.int (ge p1))])) _
            refine XS.icmpYes X208.here hx rfl (pc0 := 104) (pc' := 114) rfl (hb hby at_104) rfl (tlt hc219).1 (by decide) (by decide) ?_
            show Steps p.tables e below (T208.setTop (mkF m 114 #[.val (.int p0), .val (.int p1), .val (.int p2), .val (.int (gu p0)), .val (.int (ge p1)), .val (.int (gw p2)), .val (.ref b1), .val (.ref b3), .val (.ref b28), .unset] [])) _
            refine XS.iloadN X208.here hx rfl (hb hby at_114) rfl ?_
            show Steps p.tables e below (T208.setTop (mkF m 115 #[.val (.int p0), .val (.int p1), .val (.int p2), .val (.int (gu p0)), .val (.int (ge p1)), .val (.int (gw p2)), .val (.ref b1), .val (.ref b3), .val (.ref b28), .unset] [(.int (gu p0))])) _
            refine XS.ifNo X208.here hx rfl (hb hby at_115) rfl ((if0 _ _).trans (tlt (show (0 : Int32) < (gu p0) from (own_u1 hc194))).2.2.2) ?_
            show Steps p.tables e below (T208.setTop (mkF m 118 #[.val (.int p0), .val (.int p1), .val (.int p2), .val (.int (gu p0)), .val (.int (ge p1)), .val (.int (gw p2)), .val (.ref b1), .val (.ref b3), .val (.ref b28), .unset] [])) _
            refine XS.iconst X208.here hx rfl (hb hby at_118) ?_
            show Steps p.tables e below (T208.setTop (mkF m 119 #[.val (.int p0), .val (.int p1), .val (.int p2), .val (.int (gu p0)), .val (.int (ge p1)), .val (.int (gw p2)), .val (.ref b1), .val (.ref b3), .val (.ref b28), .unset] [(.int (2 : Int32))])) _
            refine XS.istore X208.here hx rfl (hb hby at_119) rfl (l' := #[.val (.int p0), .val (.int p1), .val (.int p2), .val (.int (gu p0)), .val (.int (ge p1)), .val (.int (gw p2)), .val (.ref b1), .val (.ref b3), .val (.ref b28), .val (.int (2 : Int32))]) rfl ?_
            show Steps p.tables e below (T208.setTop (mkF m 121 #[.val (.int p0), .val (.int p1), .val (.int p2), .val (.int (gu p0)), .val (.int (ge p1)), .val (.int (gw p2)), .val (.ref b1), .val (.ref b3), .val (.ref b28), .val (.int (2 : Int32))] [])) _
            refine XS.goto X208.here hx rfl (pc0 := 121) (pc' := 138) rfl (hb hby at_121) (by decide) (by decide) ?_
            show Steps p.tables e below (T208.setTop (mkF m 138 #[.val (.int p0), .val (.int p1), .val (.int p2), .val (.int (gu p0)), .val (.int (ge p1)), .val (.int (gw p2)), .val (.ref b1), .val (.ref b3), .val (.ref b28), .val (.int (2 : Int32))] [])) _
            refine XS.aload X208.here hx rfl (hb hby at_138) rfl rfl ?_
            show Steps p.tables e below (T208.setTop (mkF m 140 #[.val (.int p0), .val (.int p1), .val (.int p2), .val (.int (gu p0)), .val (.int (ge p1)), .val (.int (gw p2)), .val (.ref b1), .val (.ref b3), .val (.ref b28), .val (.int (2 : Int32))] [(.ref b1)])) _
            refine st220.trans ?_
            show Steps p.tables e below (T220.setTop (mkF m 143 #[.val (.int p0), .val (.int p1), .val (.int p2), .val (.int (gu p0)), .val (.int (ge p1)), .val (.int (gw p2)), .val (.ref b1), .val (.ref b3), .val (.ref b28), .val (.int (2 : Int32))] [(.int (f8 ((0 : Int64) + (1 : Int64)) ((0 : Int64) + (1 : Int64))))])) _
            refine XS.iload X220.here hx rfl (hb hby at_143) rfl ?_
            show Steps p.tables e below (T220.setTop (mkF m 145 #[.val (.int p0), .val (.int p1), .val (.int p2), .val (.int (gu p0)), .val (.int (ge p1)), .val (.int (gw p2)), .val (.ref b1), .val (.ref b3), .val (.ref b28), .val (.int (2 : Int32))] [(.int (2 : Int32)), (.int (f8 ((0 : Int64) + (1 : Int64)) ((0 : Int64) + (1 : Int64))))])) _
            refine XS.icmpNo X220.here hx rfl (hb hby at_145) rfl (teq (show (f8 ((0 : Int64) + (1 : Int64)) ((0 : Int64) + (1 : Int64))) = (2 : Int32) from (by decide))).2 ?_
            show Steps p.tables e below (T220.setTop (mkF m 148 #[.val (.int p0), .val (.int p1), .val (.int p2), .val (.int (gu p0)), .val (.int (ge p1)), .val (.int (gw p2)), .val (.ref b1), .val (.ref b3), .val (.ref b28), .val (.int (2 : Int32))] [])) _
            refine XS.iconst X220.here hx rfl (hb hby at_148) ?_
            show Steps p.tables e below (T220.setTop (mkF m 149 #[.val (.int p0), .val (.int p1), .val (.int p2), .val (.int (gu p0)), .val (.int (ge p1)), .val (.int (gw p2)), .val (.ref b1), .val (.ref b3), .val (.ref b28), .val (.int (2 : Int32))] [(.int (1 : Int32))])) _
            refine XS.goto X220.here hx rfl (pc0 := 149) (pc' := 153) rfl (hb hby at_149) (by decide) (by decide) ?_
            exact kt
          obtain ⟨fsQ, hr, hrun, hended, hRW⟩ := X220.leaveW (s := s) hS98 (by rw [e220]; exact KS208) (v := some (.int (1 : Int32))) (fun h => by rw [Bd.returns] at h; cases h)
          refine ⟨_, _, pre0 _ (K221 _ ?_), hrun, hended, _, _, rfl, ?_, hRW.1, hRW.2.1, hRW.2.2.1, hRW.2.2.2.mono (by decide) (by decide)⟩
          · show Steps p.tables e below (T220.setTop (mkF m 153 #[.val (.int p0), .val (.int p1), .val (.int p2), .val (.int (gu p0)), .val (.int (ge p1)), .val (.int (gw p2)), .val (.ref b1), .val (.ref b3), .val (.ref b28), .val (.int (2 : Int32))] [(.int (1 : Int32))])) _
            exact retN X220 hx (t := .boolean) Bd.returns (by simp) (hb hby at_153) hr
          · show Q0 Z p0 p1 p2 ru wa er h0 n0 _ T220.heap _
            rw [e220]
            exact ⟨rfl, N208⟩
        · skip
          have FR222 : Fld Z T208.heap ru "com/example/seriestrace/seriestrace/check/Rule" "severity" "Lcom/example/seriestrace/seriestrace/check/Severity;" (.ref er) := Fsev.ext OL208.2
          have ER222 : Exa Z T208.heap ru "com/example/seriestrace/seriestrace/check/Rule" := Eru.ext OL208.2
          have neR222 : b1 ≠ ru := (OL208.ne Eru.lt gn1).symm
          obtain ⟨cq223, kq223, q223a, q223b, q223c⟩ := isOf hZ rfl G209
          obtain ⟨_, _, ⟨T223, L223, k223, n223⟩, -, X223, ⟨Lc223, hQ223, l223, y223, z223⟩, st223⟩ := X208.virtualBack hx (y := (⟨"com/example/seriestrace/seriestrace/cli/Summary", "addFinding", "(Lcom/example/seriestrace/seriestrace/check/Finding;)V"⟩ : MethodName)) (z := (⟨"com/example/seriestrace/seriestrace/cli/Summary", "addFinding", "(Lcom/example/seriestrace/seriestrace/check/Finding;)V"⟩ : MethodName)) hown (mvT hZ (hw _ (List.mem_of_getElem? (i := 76) rfl))) (mvT hZ (hw _ (List.mem_of_getElem? (i := 77) rfl))) (notFace_of_selects (args := #[]) (mvT hZ (hw _ (List.mem_of_getElem? (i := 79) rfl)))) (mvT hZ (hw _ (List.mem_of_getElem? (i := 79) rfl))) (mvT hZ (hw _ (List.mem_of_getElem? (i := 78) rfl))) (by decide) (backOf (W := 0) (rm9e l Z a0 hw [] b1 b3 ((0 : Int64) + (1 : Int64)) ((0 : Int64) + (1 : Int64)) (0 : Int64) ru er er T208.heap n0 Z208 F208a F208b F208c G209 gn1 G211 FR222 G210 ER222 (Ser.ext OL208.2) ne4 neR222 rfl) hZ (hw _ (List.mem_of_getElem? (i := 80) rfl)) (hw _ (List.mem_of_getElem? (i := 3) rfl)) (by decide) (by decide)) q223a q223c (g := (mkF m 111 #[.val (.int p0), .val (.int p1), .val (.int p2), .val (.int (gu p0)), .val (.int (ge p1)), .val (.int (gw p2)), .val (.ref b1), .val (.ref b3), .val (.ref b28), .unset] [(.ref b3), (.ref b1)])) rfl (by rw [hml]; rfl) (Steps.refl _) (argsL := [(.ref b3)]) (rest := []) (lenOf pd_6 rfl) rfl (by show 2 * 0 + _ ≤ _; exact Nat.le_of_eq rfl) (hb hby at_111) (fun _ _ => ⟨rfl, rfl, (by decide : 22 + 0 ≤ _), (by decide : 200 + 0 ≤ _)⟩)
          dsimp only [Pt.U, Pt.locs, Pt.cells, Pt.slots] at X223 l223 y223 z223 st223 hQ223
          subst l223 y223 z223
          obtain ⟨rfl, N223q, K223q, F223a, F223b, F223c⟩ := hQ223
          have N223 := Fr.app N208 N223q
          have Z223 : n0 ≤ T223.heap.size := Nat.le_trans Z208 K223q.1
          have KS223 := Nat.le_trans KS208 K223q.1
          have OL223 := OL208.keep K223q (allS gn1 all0)
          have G224 : Exa Z T223.heap b1 "com/example/seriestrace/seriestrace/cli/Summary" := G209.keep K223q
          have G225 : Exa Z T223.heap b3 "com/example/seriestrace/seriestrace/check/Finding" := G210.keep K223q
          have G226 : Fld Z T223.heap b3 "com/example/seriestrace/seriestrace/check/Finding" "rule" "Lcom/example/seriestrace/seriestrace/check/Rule;" (.ref ru) := G211.keep K223q (ninS ne4.symm nin0)
          have G227 : Exa Z T223.heap b28 "com/example/seriestrace/seriestrace/check/Finding" := G212.keep K223q
          have G228 : Fld Z T223.heap b28 "com/example/seriestrace/seriestrace/check/Finding" "rule" "Lcom/example/seriestrace/seriestrace/check/Rule;" (.ref b37) := G213.keep K223q (ninS ne29.symm nin0)
          have G229 : Exa Z T223.heap b37 "com/example/seriestrace/seriestrace/check/Rule" := G214.keep K223q
          have G230 : Fld Z T223.heap b37 "com/example/seriestrace/seriestrace/check/Rule" "severity" "Lcom/example/seriestrace/seriestrace/check/Severity;" (.ref wa) := G215.keep K223q (ninS ne38.symm nin0)
          have G231 : Fld Z T223.heap ru "com/example/seriestrace/seriestrace/check/Rule" "severity" "Lcom/example/seriestrace/seriestrace/check/Severity;" (.ref er) := FR222.keep K223q (ninS neR222.symm nin0)
          have G232 : Exa Z T223.heap ru "com/example/seriestrace/seriestrace/check/Rule" := ER222.keep K223q
          obtain ⟨cq233, kq233, q233a, q233b, q233c⟩ := isOf hZ rfl G224
          obtain ⟨_, _, ⟨T233, L233, k233, n233⟩, -, X233, ⟨Lc233, hQ233, l233, y233, z233⟩, st233⟩ := X223.virtualBack hx (y := (⟨"com/example/seriestrace/seriestrace/cli/Summary", "exitStatus", "()I"⟩ : MethodName)) (z := (⟨"com/example/seriestrace/seriestrace/cli/Summary", "exitStatus", "()I"⟩ : MethodName)) hown (mvT hZ (hw _ (List.mem_of_getElem? (i := 67) rfl))) (mvT hZ (hw _ (List.mem_of_getElem? (i := 68) rfl))) (notFace_of_selects (args := #[]) (mvT hZ (hw _ (List.mem_of_getElem? (i := 70) rfl)))) (mvT hZ (hw _ (List.mem_of_getElem? (i := 70) rfl))) (mvT hZ (hw _ (List.mem_of_getElem? (i := 69) rfl))) (by decide) (backOf (W := 0) (rm8 l Z a0 hw [] b1 ((0 : Int64) + (1 : Int64)) (((0 : Int64) + (1 : Int64)) + (1 : Int64)) T223.heap F223a F223b) hZ (hw _ (List.mem_of_getElem? (i := 71) rfl)) (hw _ (List.mem_of_getElem? (i := 3) rfl)) (by decide) (by decide)) q233a q233c (g := (mkF m 140 #[.val (.int p0), .val (.int p1), .val (.int p2), .val (.int (gu p0)), .val (.int (ge p1)), .val (.int (gw p2)), .val (.ref b1), .val (.ref b3), .val (.ref b28), .val (.int (2 : Int32))] [(.ref b1)])) rfl (by rw [hml]; rfl) (Steps.refl _) (argsL := []) (rest := []) (lenOf pd_7 rfl) rfl (by show 2 * 0 + _ ≤ _; exact Nat.le_of_eq rfl) (hb hby at_140) (fun _ _ => ⟨rfl, rfl, (by decide : 22 + 0 ≤ _), (by decide : 200 + 0 ≤ _)⟩)
          dsimp only [Pt.U, Pt.locs, Pt.cells, Pt.slots] at X233 l233 y233 z233 st233 hQ233
          subst l233 y233 z233
          obtain ⟨rfl, rfl, e233⟩ := hQ233
          try rw [List.append_nil] at X233
          have K234 : ∀ t, Steps p.tables e below (T233.setTop (mkF m 153 #[.val (.int p0), .val (.int p1), .val (.int p2), .val (.int (gu p0)), .val (.int (ge p1)), .val (.int (gw p2)), .val (.ref b1), .val (.ref b3), .val (.ref b28), .val (.int (2 : Int32))] [(.int (1 : Int32))])) t → Steps p.tables e below (s₁.setTop (mkF m 0 #[.val (.int p0), .val (.int p1), .val (.int p2), .unset, .unset, .unset, .unset, .unset, .unset, .unset] [])) t := by
            intro t kt
            refine K218 _ ?_
            show Steps p.tables e below (T208.setTop (mkF m 104 #[.val (.int p0), .val (.int p1), .val (.int p2), .val (.int (gu p0)), .val (.int (ge p1)), .val (.int (gw p2)), .val (.ref b1), .val (.ref b3), .val (.ref b28), .unset] [(.int (2 : Int32)), (.int (ge p1))])) _
            refine XS.icmpNo X208.here hx rfl (hb hby at_104) rfl (flt hc219).1 ?_
            show Steps p.tables e below (T208.setTop (mkF m 107 #[.val (.int p0), .val (.int p1), .val (.int p2), .val (.int (gu p0)), .val (.int (ge p1)), .val (.int (gw p2)), .val (.ref b1), .val (.ref b3), .val (.ref b28), .unset] [])) _
            refine XS.aload X208.here hx rfl (hb hby at_107) rfl rfl ?_
            show Steps p.tables e below (T208.setTop (mkF m 109 #[.val (.int p0), .val (.int p1), .val (.int p2), .val (.int (gu p0)), .val (.int (ge p1)), .val (.int (gw p2)), .val (.ref b1), .val (.ref b3), .val (.ref b28), .unset] [(.ref b1)])) _
            refine XS.aload X208.here hx rfl (hb hby at_109) rfl rfl ?_
            show Steps p.tables e below (T208.setTop (mkF m 111 #[.val (.int p0), .val (.int p1), .val (.int p2), .val (.int (gu p0)), .val (.int (ge p1)), .val (.int (gw p2)), .val (.ref b1), .val (.ref b3), .val (.ref b28), .unset] [(.ref b3), (.ref b1)])) _
            refine st223.trans ?_
            show Steps p.tables e below (T223.setTop (mkF m 114 #[.val (.int p0), .val (.int p1), .val (.int p2), .val (.int (gu p0)), .val (.int (ge p1)), .val (.int (gw p2)), .val (.ref b1), .val (.ref b3), .val (.ref b28), .unset] [])) _
            refine XS.iloadN X223.here hx rfl (hb hby at_114) rfl ?_
            show Steps p.tables e below (T223.setTop (mkF m 115 #[.val (.int p0), .val (.int p1), .val (.int p2), .val (.int (gu p0)), .val (.int (ge p1)), .val (.int (gw p2)), .val (.ref b1), .val (.ref b3), .val (.ref b28), .unset] [(.int (gu p0))])) _
            refine XS.ifNo X223.here hx rfl (hb hby at_115) rfl ((if0 _ _).trans (tlt (show (0 : Int32) < (gu p0) from (own_u1 hc194))).2.2.2) ?_
            show Steps p.tables e below (T223.setTop (mkF m 118 #[.val (.int p0), .val (.int p1), .val (.int p2), .val (.int (gu p0)), .val (.int (ge p1)), .val (.int (gw p2)), .val (.ref b1), .val (.ref b3), .val (.ref b28), .unset] [])) _
            refine XS.iconst X223.here hx rfl (hb hby at_118) ?_
            show Steps p.tables e below (T223.setTop (mkF m 119 #[.val (.int p0), .val (.int p1), .val (.int p2), .val (.int (gu p0)), .val (.int (ge p1)), .val (.int (gw p2)), .val (.ref b1), .val (.ref b3), .val (.ref b28), .unset] [(.int (2 : Int32))])) _
            refine XS.istore X223.here hx rfl (hb hby at_119) rfl (l' := #[.val (.int p0), .val (.int p1), .val (.int p2), .val (.int (gu p0)), .val (.int (ge p1)), .val (.int (gw p2)), .val (.ref b1), .val (.ref b3), .val (.ref b28), .val (.int (2 : Int32))]) rfl ?_
            show Steps p.tables e below (T223.setTop (mkF m 121 #[.val (.int p0), .val (.int p1), .val (.int p2), .val (.int (gu p0)), .val (.int (ge p1)), .val (.int (gw p2)), .val (.ref b1), .val (.ref b3), .val (.ref b28), .val (.int (2 : Int32))] [])) _
            refine XS.goto X223.here hx rfl (pc0 := 121) (pc' := 138) rfl (hb hby at_121) (by decide) (by decide) ?_
            show Steps p.tables e below (T223.setTop (mkF m 138 #[.val (.int p0), .val (.int p1), .val (.int p2), .val (.int (gu p0)), .val (.int (ge p1)), .val (.int (gw p2)), .val (.ref b1), .val (.ref b3), .val (.ref b28), .val (.int (2 : Int32))] [])) _
            refine XS.aload X223.here hx rfl (hb hby at_138) rfl rfl ?_
            show Steps p.tables e below (T223.setTop (mkF m 140 #[.val (.int p0), .val (.int p1), .val (.int p2), .val (.int (gu p0)), .val (.int (ge p1)), .val (.int (gw p2)), .val (.ref b1), .val (.ref b3), .val (.ref b28), .val (.int (2 : Int32))] [(.ref b1)])) _
            refine st233.trans ?_
            show Steps p.tables e below (T233.setTop (mkF m 143 #[.val (.int p0), .val (.int p1), .val (.int p2), .val (.int (gu p0)), .val (.int (ge p1)), .val (.int (gw p2)), .val (.ref b1), .val (.ref b3), .val (.ref b28), .val (.int (2 : Int32))] [(.int (f8 ((0 : Int64) + (1 : Int64)) (((0 : Int64) + (1 : Int64)) + (1 : Int64))))])) _
            refine XS.iload X233.here hx rfl (hb hby at_143) rfl ?_
            show Steps p.tables e below (T233.setTop (mkF m 145 #[.val (.int p0), .val (.int p1), .val (.int p2), .val (.int (gu p0)), .val (.int (ge p1)), .val (.int (gw p2)), .val (.ref b1), .val (.ref b3), .val (.ref b28), .val (.int (2 : Int32))] [(.int (2 : Int32)), (.int (f8 ((0 : Int64) + (1 : Int64)) (((0 : Int64) + (1 : Int64)) + (1 : Int64))))])) _
            refine XS.icmpNo X233.here hx rfl (hb hby at_145) rfl (teq (show (f8 ((0 : Int64) + (1 : Int64)) (((0 : Int64) + (1 : Int64)) + (1 : Int64))) = (2 : Int32) from (by decide))).2 ?_
            show Steps p.tables e below (T233.setTop (mkF m 148 #[.val (.int p0), .val (.int p1), .val (.int p2), .val (.int (gu p0)), .val (.int (ge p1)), .val (.int (gw p2)), .val (.ref b1), .val (.ref b3), .val (.ref b28), .val (.int (2 : Int32))] [])) _
            refine XS.iconst X233.here hx rfl (hb hby at_148) ?_
            show Steps p.tables e below (T233.setTop (mkF m 149 #[.val (.int p0), .val (.int p1), .val (.int p2), .val (.int (gu p0)), .val (.int (ge p1)), .val (.int (gw p2)), .val (.ref b1), .val (.ref b3), .val (.ref b28), .val (.int (2 : Int32))] [(.int (1 : Int32))])) _
            refine XS.goto X233.here hx rfl (pc0 := 149) (pc' := 153) rfl (hb hby at_149) (by decide) (by decide) ?_
            exact kt
          obtain ⟨fsQ, hr, hrun, hended, hRW⟩ := X233.leaveW (s := s) hS98 (by rw [e233]; exact KS223) (v := some (.int (1 : Int32))) (fun h => by rw [Bd.returns] at h; cases h)
          refine ⟨_, _, pre0 _ (K234 _ ?_), hrun, hended, _, _, rfl, ?_, hRW.1, hRW.2.1, hRW.2.2.1, hRW.2.2.2.mono (by decide) (by decide)⟩
          · show Steps p.tables e below (T233.setTop (mkF m 153 #[.val (.int p0), .val (.int p1), .val (.int p2), .val (.int (gu p0)), .val (.int (ge p1)), .val (.int (gw p2)), .val (.ref b1), .val (.ref b3), .val (.ref b28), .val (.int (2 : Int32))] [(.int (1 : Int32))])) _
            exact retN X233 hx (t := .boolean) Bd.returns (by simp) (hb hby at_153) hr
          · show Q0 Z p0 p1 p2 ru wa er h0 n0 _ T233.heap _
            rw [e233]
            exact ⟨rfl, N223⟩
    · skip
      have K235 : ∀ t, Steps p.tables e below (T98.setTop (mkF m 91 #[.val (.int p0), .val (.int p1), .val (.int p2), .val (.int (gu p0)), .val (.int (ge p1)), .val (.int (gw p2)), .val (.ref b1), .val (.ref b3), .val (.ref b28), .unset] [(.int (1 : Int32)), (.int (ge p1))])) t → Steps p.tables e below (s₁.setTop (mkF m 0 #[.val (.int p0), .val (.int p1), .val (.int p2), .unset, .unset, .unset, .unset, .unset, .unset, .unset] [])) t := by
        intro t kt
        refine K193 _ ?_
        show Steps p.tables e below (T98.setTop (mkF m 80 #[.val (.int p0), .val (.int p1), .val (.int p2), .val (.int (gu p0)), .val (.int (ge p1)), .val (.int (gw p2)), .val (.ref b1), .val (.ref b3), .val (.ref b28), .unset] [(.int (1 : Int32)), (.int (gu p0))])) _
        refine XS.icmpYes X98.here hx rfl (pc0 := 80) (pc' := 88) rfl (hb hby at_80) rfl (feq hc194).2 (by decide) (by decide) ?_
        show Steps p.tables e below (T98.setTop (mkF m 88 #[.val (.int p0), .val (.int p1), .val (.int p2), .val (.int (gu p0)), .val (.int (ge p1)), .val (.int (gw p2)), .val (.ref b1), .val (.ref b3), .val (.ref b28), .unset] [])) _
        refine XS.iload X98.here hx rfl (hb hby at_88) rfl ?_
        show Steps p.tables e below (T98.setTop (mkF m 90 #[.val (.int p0), .val (.int p1), .val (.int p2), .val (.int (gu p0)), .val (.int (ge p1)), .val (.int (gw p2)), .val (.ref b1), .val (.ref b3), .val (.ref b28), .unset] [(.int (ge p1))])) _
        refine XS.iconst X98.here hx rfl (hb hby at_90) ?_
        exact kt
      by_cases hc236 : (ge p1) < (1 : Int32)
      · skip
        obtain ⟨cq237, kq237, q237a, q237b, q237c⟩ := isOf hZ rfl G100
        obtain ⟨_, _, ⟨T237, L237, k237, n237⟩, -, X237, ⟨Lc237, hQ237, l237, y237, z237⟩, st237⟩ := X98.virtualBack hx (y := (⟨"com/example/seriestrace/seriestrace/cli/Summary", "exitStatus", "()I"⟩ : MethodName)) (z := (⟨"com/example/seriestrace/seriestrace/cli/Summary", "exitStatus", "()I"⟩ : MethodName)) hown (mvT hZ (hw _ (List.mem_of_getElem? (i := 67) rfl))) (mvT hZ (hw _ (List.mem_of_getElem? (i := 68) rfl))) (notFace_of_selects (args := #[]) (mvT hZ (hw _ (List.mem_of_getElem? (i := 70) rfl)))) (mvT hZ (hw _ (List.mem_of_getElem? (i := 70) rfl))) (mvT hZ (hw _ (List.mem_of_getElem? (i := 69) rfl))) (by decide) (backOf (W := 0) (rm8 l Z a0 hw [] b1 (0 : Int64) (0 : Int64) T98.heap G101 G102) hZ (hw _ (List.mem_of_getElem? (i := 71) rfl)) (hw _ (List.mem_of_getElem? (i := 3) rfl)) (by decide) (by decide)) q237a q237c (g := (mkF m 140 #[.val (.int p0), .val (.int p1), .val (.int p2), .val (.int (gu p0)), .val (.int (ge p1)), .val (.int (gw p2)), .val (.ref b1), .val (.ref b3), .val (.ref b28), .val (.int (0 : Int32))] [(.ref b1)])) rfl (by rw [hml]; rfl) (Steps.refl _) (argsL := []) (rest := []) (lenOf pd_7 rfl) rfl (by show 2 * 0 + _ ≤ _; exact Nat.le_of_eq rfl) (hb hby at_140) (fun _ _ => ⟨rfl, rfl, (by decide : 22 + 0 ≤ _), (by decide : 200 + 0 ≤ _)⟩)
        dsimp only [Pt.U, Pt.locs, Pt.cells, Pt.slots] at X237 l237 y237 z237 st237 hQ237
        subst l237 y237 z237
        obtain ⟨rfl, rfl, e237⟩ := hQ237
        try rw [List.append_nil] at X237
        have K238 : ∀ t, Steps p.tables e below (T237.setTop (mkF m 153 #[.val (.int p0), .val (.int p1), .val (.int p2), .val (.int (gu p0)), .val (.int (ge p1)), .val (.int (gw p2)), .val (.ref b1), .val (.ref b3), .val (.ref b28), .val (.int (0 : Int32))] [(.int (1 : Int32))])) t → Steps p.tables e below (s₁.setTop (mkF m 0 #[.val (.int p0), .val (.int p1), .val (.int p2), .unset, .unset, .unset, .unset, .unset, .unset, .unset] [])) t := by
          intro t kt
          refine K235 _ ?_
          show Steps p.tables e below (T98.setTop (mkF m 91 #[.val (.int p0), .val (.int p1), .val (.int p2), .val (.int (gu p0)), .val (.int (ge p1)), .val (.int (gw p2)), .val (.ref b1), .val (.ref b3), .val (.ref b28), .unset] [(.int (1 : Int32)), (.int (ge p1))])) _
          refine XS.icmpYes X98.here hx rfl (pc0 := 91) (pc' := 101) rfl (hb hby at_91) rfl (tlt hc236).1 (by decide) (by decide) ?_
          show Steps p.tables e below (T98.setTop (mkF m 101 #[.val (.int p0), .val (.int p1), .val (.int p2), .val (.int (gu p0)), .val (.int (ge p1)), .val (.int (gw p2)), .val (.ref b1), .val (.ref b3), .val (.ref b28), .unset] [])) _
          refine XS.iload X98.here hx rfl (hb hby at_101) rfl ?_
          show Steps p.tables e below (T98.setTop (mkF m 103 #[.val (.int p0), .val (.int p1), .val (.int p2), .val (.int (gu p0)), .val (.int (ge p1)), .val (.int (gw p2)), .val (.ref b1), .val (.ref b3), .val (.ref b28), .unset] [(.int (ge p1))])) _
          refine XS.iconst X98.here hx rfl (hb hby at_103) ?_
          show Steps p.tables e below (T98.setTop (mkF m 104 #[.val (.int p0), .val (.int p1), .val (.int p2), .val (.int (gu p0)), .val (.int (ge p1)), .val (.int (gw p2)), .val (.ref b1), .val (.ref b3), .val (.ref b28), .unset] [(.int (2 : Int32)), (.int (ge p1))])) _
          refine XS.icmpYes X98.here hx rfl (pc0 := 104) (pc' := 114) rfl (hb hby at_104) rfl (tlt (show (ge p1) < (2 : Int32) from (own_e2 hc236))).1 (by decide) (by decide) ?_
          show Steps p.tables e below (T98.setTop (mkF m 114 #[.val (.int p0), .val (.int p1), .val (.int p2), .val (.int (gu p0)), .val (.int (ge p1)), .val (.int (gw p2)), .val (.ref b1), .val (.ref b3), .val (.ref b28), .unset] [])) _
          refine XS.iloadN X98.here hx rfl (hb hby at_114) rfl ?_
          show Steps p.tables e below (T98.setTop (mkF m 115 #[.val (.int p0), .val (.int p1), .val (.int p2), .val (.int (gu p0)), .val (.int (ge p1)), .val (.int (gw p2)), .val (.ref b1), .val (.ref b3), .val (.ref b28), .unset] [(.int (gu p0))])) _
          refine XS.ifYes X98.here hx rfl (pc0 := 115) (pc' := 124) rfl (hb hby at_115) rfl ((if0 _ _).trans (flt (show ¬ ((0 : Int32) < (gu p0)) from (own_u0 hc194))).2.2.2) (by decide) (by decide) ?_
          show Steps p.tables e below (T98.setTop (mkF m 124 #[.val (.int p0), .val (.int p1), .val (.int p2), .val (.int (gu p0)), .val (.int (ge p1)), .val (.int (gw p2)), .val (.ref b1), .val (.ref b3), .val (.ref b28), .unset] [])) _
          refine XS.iload X98.here hx rfl (hb hby at_124) rfl ?_
          show Steps p.tables e below (T98.setTop (mkF m 126 #[.val (.int p0), .val (.int p1), .val (.int p2), .val (.int (gu p0)), .val (.int (ge p1)), .val (.int (gw p2)), .val (.ref b1), .val (.ref b3), .val (.ref b28), .unset] [(.int (ge p1))])) _
          refine XS.ifYes X98.here hx rfl (pc0 := 126) (pc' := 135) rfl (hb hby at_126) rfl ((if0 _ _).trans (flt (show ¬ ((0 : Int32) < (ge p1)) from (own_e0 hc236))).2.2.2) (by decide) (by decide) ?_
          show Steps p.tables e below (T98.setTop (mkF m 135 #[.val (.int p0), .val (.int p1), .val (.int p2), .val (.int (gu p0)), .val (.int (ge p1)), .val (.int (gw p2)), .val (.ref b1), .val (.ref b3), .val (.ref b28), .unset] [])) _
          refine XS.iconst X98.here hx rfl (hb hby at_135) ?_
          show Steps p.tables e below (T98.setTop (mkF m 136 #[.val (.int p0), .val (.int p1), .val (.int p2), .val (.int (gu p0)), .val (.int (ge p1)), .val (.int (gw p2)), .val (.ref b1), .val (.ref b3), .val (.ref b28), .unset] [(.int (0 : Int32))])) _
          refine XS.istore X98.here hx rfl (hb hby at_136) rfl (l' := #[.val (.int p0), .val (.int p1), .val (.int p2), .val (.int (gu p0)), .val (.int (ge p1)), .val (.int (gw p2)), .val (.ref b1), .val (.ref b3), .val (.ref b28), .val (.int (0 : Int32))]) rfl ?_
          show Steps p.tables e below (T98.setTop (mkF m 138 #[.val (.int p0), .val (.int p1), .val (.int p2), .val (.int (gu p0)), .val (.int (ge p1)), .val (.int (gw p2)), .val (.ref b1), .val (.ref b3), .val (.ref b28), .val (.int (0 : Int32))] [])) _
          refine XS.aload X98.here hx rfl (hb hby at_138) rfl rfl ?_
          show Steps p.tables e below (T98.setTop (mkF m 140 #[.val (.int p0), .val (.int p1), .val (.int p2), .val (.int (gu p0)), .val (.int (ge p1)), .val (.int (gw p2)), .val (.ref b1), .val (.ref b3), .val (.ref b28), .val (.int (0 : Int32))] [(.ref b1)])) _
          refine st237.trans ?_
          show Steps p.tables e below (T237.setTop (mkF m 143 #[.val (.int p0), .val (.int p1), .val (.int p2), .val (.int (gu p0)), .val (.int (ge p1)), .val (.int (gw p2)), .val (.ref b1), .val (.ref b3), .val (.ref b28), .val (.int (0 : Int32))] [(.int (f8 (0 : Int64) (0 : Int64)))])) _
          refine XS.iload X237.here hx rfl (hb hby at_143) rfl ?_
          show Steps p.tables e below (T237.setTop (mkF m 145 #[.val (.int p0), .val (.int p1), .val (.int p2), .val (.int (gu p0)), .val (.int (ge p1)), .val (.int (gw p2)), .val (.ref b1), .val (.ref b3), .val (.ref b28), .val (.int (0 : Int32))] [(.int (0 : Int32)), (.int (f8 (0 : Int64) (0 : Int64)))])) _
          refine XS.icmpNo X237.here hx rfl (hb hby at_145) rfl (teq (show (f8 (0 : Int64) (0 : Int64)) = (0 : Int32) from (by decide))).2 ?_
          show Steps p.tables e below (T237.setTop (mkF m 148 #[.val (.int p0), .val (.int p1), .val (.int p2), .val (.int (gu p0)), .val (.int (ge p1)), .val (.int (gw p2)), .val (.ref b1), .val (.ref b3), .val (.ref b28), .val (.int (0 : Int32))] [])) _
          refine XS.iconst X237.here hx rfl (hb hby at_148) ?_
          show Steps p.tables e below (T237.setTop (mkF m 149 #[.val (.int p0), .val (.int p1), .val (.int p2), .val (.int (gu p0)), .val (.int (ge p1)), .val (.int (gw p2)), .val (.ref b1), .val (.ref b3), .val (.ref b28), .val (.int (0 : Int32))] [(.int (1 : Int32))])) _
          refine XS.goto X237.here hx rfl (pc0 := 149) (pc' := 153) rfl (hb hby at_149) (by decide) (by decide) ?_
          exact kt
        obtain ⟨fsQ, hr, hrun, hended, hRW⟩ := X237.leaveW (s := s) hS98 (by rw [e237]; exact (Nat.le_refl _)) (v := some (.int (1 : Int32))) (fun h => by rw [Bd.returns] at h; cases h)
        refine ⟨_, _, pre0 _ (K238 _ ?_), hrun, hended, _, _, rfl, ?_, hRW.1, hRW.2.1, hRW.2.2.1, hRW.2.2.2.mono (by decide) (by decide)⟩
        · show Steps p.tables e below (T237.setTop (mkF m 153 #[.val (.int p0), .val (.int p1), .val (.int p2), .val (.int (gu p0)), .val (.int (ge p1)), .val (.int (gw p2)), .val (.ref b1), .val (.ref b3), .val (.ref b28), .val (.int (0 : Int32))] [(.int (1 : Int32))])) _
          exact retN X237 hx (t := .boolean) Bd.returns (by simp) (hb hby at_153) hr
        · show Q0 Z p0 p1 p2 ru wa er h0 n0 _ T237.heap _
          rw [e237]
          exact ⟨rfl, N98⟩
      · skip
        have FR239 : Fld Z T98.heap ru "com/example/seriestrace/seriestrace/check/Rule" "severity" "Lcom/example/seriestrace/seriestrace/check/Severity;" (.ref er) := Fsev.ext OL98.2
        have ER239 : Exa Z T98.heap ru "com/example/seriestrace/seriestrace/check/Rule" := Eru.ext OL98.2
        have neR239 : b1 ≠ ru := (OL98.ne Eru.lt gn1).symm
        obtain ⟨cq240, kq240, q240a, q240b, q240c⟩ := isOf hZ rfl G100
        obtain ⟨_, _, ⟨T240, L240, k240, n240⟩, -, X240, ⟨Lc240, hQ240, l240, y240, z240⟩, st240⟩ := X98.virtualBack hx (y := (⟨"com/example/seriestrace/seriestrace/cli/Summary", "addFinding", "(Lcom/example/seriestrace/seriestrace/check/Finding;)V"⟩ : MethodName)) (z := (⟨"com/example/seriestrace/seriestrace/cli/Summary", "addFinding", "(Lcom/example/seriestrace/seriestrace/check/Finding;)V"⟩ : MethodName)) hown (mvT hZ (hw _ (List.mem_of_getElem? (i := 76) rfl))) (mvT hZ (hw _ (List.mem_of_getElem? (i := 77) rfl))) (notFace_of_selects (args := #[]) (mvT hZ (hw _ (List.mem_of_getElem? (i := 79) rfl)))) (mvT hZ (hw _ (List.mem_of_getElem? (i := 79) rfl))) (mvT hZ (hw _ (List.mem_of_getElem? (i := 78) rfl))) (by decide) (backOf (W := 0) (rm9e l Z a0 hw [] b1 b3 (0 : Int64) (0 : Int64) (0 : Int64) ru er er T98.heap n0 Z98 G101 G102 G103 G100 gn1 G105 FR239 G104 ER239 (Ser.ext OL98.2) ne4 neR239 rfl) hZ (hw _ (List.mem_of_getElem? (i := 80) rfl)) (hw _ (List.mem_of_getElem? (i := 3) rfl)) (by decide) (by decide)) q240a q240c (g := (mkF m 98 #[.val (.int p0), .val (.int p1), .val (.int p2), .val (.int (gu p0)), .val (.int (ge p1)), .val (.int (gw p2)), .val (.ref b1), .val (.ref b3), .val (.ref b28), .unset] [(.ref b3), (.ref b1)])) rfl (by rw [hml]; rfl) (Steps.refl _) (argsL := [(.ref b3)]) (rest := []) (lenOf pd_6 rfl) rfl (by show 2 * 0 + _ ≤ _; exact Nat.le_of_eq rfl) (hb hby at_98) (fun _ _ => ⟨rfl, rfl, (by decide : 22 + 0 ≤ _), (by decide : 200 + 0 ≤ _)⟩)
        dsimp only [Pt.U, Pt.locs, Pt.cells, Pt.slots] at X240 l240 y240 z240 st240 hQ240
        subst l240 y240 z240
        obtain ⟨rfl, N240q, K240q, F240a, F240b, F240c⟩ := hQ240
        have N240 := Fr.app N98 N240q
        have Z240 : n0 ≤ T240.heap.size := Nat.le_trans Z98 K240q.1
        have KS240 := Nat.le_trans (Nat.le_refl _) K240q.1
        have OL240 := OL98.keep K240q (allS gn1 all0)
        have G241 : Exa Z T240.heap b1 "com/example/seriestrace/seriestrace/cli/Summary" := G100.keep K240q
        have G242 : Exa Z T240.heap b3 "com/example/seriestrace/seriestrace/check/Finding" := G104.keep K240q
        have G243 : Fld Z T240.heap b3 "com/example/seriestrace/seriestrace/check/Finding" "rule" "Lcom/example/seriestrace/seriestrace/check/Rule;" (.ref ru) := G105.keep K240q (ninS ne4.symm nin0)
        have G244 : Exa Z T240.heap b28 "com/example/seriestrace/seriestrace/check/Finding" := G106.keep K240q
        have G245 : Fld Z T240.heap b28 "com/example/seriestrace/seriestrace/check/Finding" "rule" "Lcom/example/seriestrace/seriestrace/check/Rule;" (.ref b37) := F98q.keep K240q (ninS ne29.symm nin0)
        have G246 : Exa Z T240.heap b37 "com/example/seriestrace/seriestrace/check/Rule" := G107.keep K240q
        have G247 : Fld Z T240.heap b37 "com/example/seriestrace/seriestrace/check/Rule" "severity" "Lcom/example/seriestrace/seriestrace/check/Severity;" (.ref wa) := G108.keep K240q (ninS ne38.symm nin0)
        have G248 : Fld Z T240.heap ru "com/example/seriestrace/seriestrace/check/Rule" "severity" "Lcom/example/seriestrace/seriestrace/check/Severity;" (.ref er) := FR239.keep K240q (ninS neR239.symm nin0)
        have G249 : Exa Z T240.heap ru "com/example/seriestrace/seriestrace/check/Rule" := ER239.keep K240q
        have K250 : ∀ t, Steps p.tables e below (T240.setTop (mkF m 104 #[.val (.int p0), .val (.int p1), .val (.int p2), .val (.int (gu p0)), .val (.int (ge p1)), .val (.int (gw p2)), .val (.ref b1), .val (.ref b3), .val (.ref b28), .unset] [(.int (2 : Int32)), (.int (ge p1))])) t → Steps p.tables e below (s₁.setTop (mkF m 0 #[.val (.int p0), .val (.int p1), .val (.int p2), .unset, .unset, .unset, .unset, .unset, .unset, .unset] [])) t := by
          intro t kt
          refine K235 _ ?_
          show Steps p.tables e below (T98.setTop (mkF m 91 #[.val (.int p0), .val (.int p1), .val (.int p2), .val (.int (gu p0)), .val (.int (ge p1)), .val (.int (gw p2)), .val (.ref b1), .val (.ref b3), .val (.ref b28), .unset] [(.int (1 : Int32)), (.int (ge p1))])) _
          refine XS.icmpNo X98.here hx rfl (hb hby at_91) rfl (flt hc236).1 ?_
          show Steps p.tables e below (T98.setTop (mkF m 94 #[.val (.int p0), .val (.int p1), .val (.int p2), .val (.int (gu p0)), .val (.int (ge p1)), .val (.int (gw p2)), .val (.ref b1), .val (.ref b3), .val (.ref b28), .unset] [])) _
          refine XS.aload X98.here hx rfl (hb hby at_94) rfl rfl ?_
          show Steps p.tables e below (T98.setTop (mkF m 96 #[.val (.int p0), .val (.int p1), .val (.int p2), .val (.int (gu p0)), .val (.int (ge p1)), .val (.int (gw p2)), .val (.ref b1), .val (.ref b3), .val (.ref b28), .unset] [(.ref b1)])) _
          refine XS.aload X98.here hx rfl (hb hby at_96) rfl rfl ?_
          show Steps p.tables e below (T98.setTop (mkF m 98 #[.val (.int p0), .val (.int p1), .val (.int p2), .val (.int (gu p0)), .val (.int (ge p1)), .val (.int (gw p2)), .val (.ref b1), .val (.ref b3), .val (.ref b28), .unset] [(.ref b3), (.ref b1)])) _
          refine st240.trans ?_
          show Steps p.tables e below (T240.setTop (mkF m 101 #[.val (.int p0), .val (.int p1), .val (.int p2), .val (.int (gu p0)), .val (.int (ge p1)), .val (.int (gw p2)), .val (.ref b1), .val (.ref b3), .val (.ref b28), .unset] [])) _
          refine XS.iload X240.here hx rfl (hb hby at_101) rfl ?_
          show Steps p.tables e below (T240.setTop (mkF m 103 #[.val (.int p0), .val (.int p1), .val (.int p2), .val (.int (gu p0)), .val (.int (ge p1)), .val (.int (gw p2)), .val (.ref b1), .val (.ref b3), .val (.ref b28), .unset] [(.int (ge p1))])) _
          refine XS.iconst X240.here hx rfl (hb hby at_103) ?_
          exact kt
        by_cases hc251 : (ge p1) < (2 : Int32)
        · skip
          obtain ⟨cq252, kq252, q252a, q252b, q252c⟩ := isOf hZ rfl G241
          obtain ⟨_, _, ⟨T252, L252, k252, n252⟩, -, X252, ⟨Lc252, hQ252, l252, y252, z252⟩, st252⟩ := X240.virtualBack hx (y := (⟨"com/example/seriestrace/seriestrace/cli/Summary", "exitStatus", "()I"⟩ : MethodName)) (z := (⟨"com/example/seriestrace/seriestrace/cli/Summary", "exitStatus", "()I"⟩ : MethodName)) hown (mvT hZ (hw _ (List.mem_of_getElem? (i := 67) rfl))) (mvT hZ (hw _ (List.mem_of_getElem? (i := 68) rfl))) (notFace_of_selects (args := #[]) (mvT hZ (hw _ (List.mem_of_getElem? (i := 70) rfl)))) (mvT hZ (hw _ (List.mem_of_getElem? (i := 70) rfl))) (mvT hZ (hw _ (List.mem_of_getElem? (i := 69) rfl))) (by decide) (backOf (W := 0) (rm8 l Z a0 hw [] b1 (0 : Int64) ((0 : Int64) + (1 : Int64)) T240.heap F240a F240b) hZ (hw _ (List.mem_of_getElem? (i := 71) rfl)) (hw _ (List.mem_of_getElem? (i := 3) rfl)) (by decide) (by decide)) q252a q252c (g := (mkF m 140 #[.val (.int p0), .val (.int p1), .val (.int p2), .val (.int (gu p0)), .val (.int (ge p1)), .val (.int (gw p2)), .val (.ref b1), .val (.ref b3), .val (.ref b28), .val (.int (1 : Int32))] [(.ref b1)])) rfl (by rw [hml]; rfl) (Steps.refl _) (argsL := []) (rest := []) (lenOf pd_7 rfl) rfl (by show 2 * 0 + _ ≤ _; exact Nat.le_of_eq rfl) (hb hby at_140) (fun _ _ => ⟨rfl, rfl, (by decide : 22 + 0 ≤ _), (by decide : 200 + 0 ≤ _)⟩)
          dsimp only [Pt.U, Pt.locs, Pt.cells, Pt.slots] at X252 l252 y252 z252 st252 hQ252
          subst l252 y252 z252
          obtain ⟨rfl, rfl, e252⟩ := hQ252
          try rw [List.append_nil] at X252
          have K253 : ∀ t, Steps p.tables e below (T252.setTop (mkF m 153 #[.val (.int p0), .val (.int p1), .val (.int p2), .val (.int (gu p0)), .val (.int (ge p1)), .val (.int (gw p2)), .val (.ref b1), .val (.ref b3), .val (.ref b28), .val (.int (1 : Int32))] [(.int (1 : Int32))])) t → Steps p.tables e below (s₁.setTop (mkF m 0 #[.val (.int p0), .val (.int p1), .val (.int p2), .unset, .unset, .unset, .unset, .unset, .unset, .unset] [])) t := by
            intro t kt
            refine K250 _ ?_
            show Steps p.tables e below (T240.setTop (mkF m 104 #[.val (.int p0), .val (.int p1), .val (.int p2), .val (.int (gu p0)), .val (.int (ge p1)), .val (.int (gw p2)), .val (.ref b1), .val (.ref b3), .val (.ref b28), .unset] [(.int (2 : Int32)), (.int (ge p1))])) _
            refine XS.icmpYes X240.here hx rfl (pc0 := 104) (pc' := 114) rfl (hb hby at_104) rfl (tlt hc251).1 (by decide) (by decide) ?_
            show Steps p.tables e below (T240.setTop (mkF m 114 #[.val (.int p0), .val (.int p1), .val (.int p2), .val (.int (gu p0)), .val (.int (ge p1)), .val (.int (gw p2)), .val (.ref b1), .val (.ref b3), .val (.ref b28), .unset] [])) _
            refine XS.iloadN X240.here hx rfl (hb hby at_114) rfl ?_
            show Steps p.tables e below (T240.setTop (mkF m 115 #[.val (.int p0), .val (.int p1), .val (.int p2), .val (.int (gu p0)), .val (.int (ge p1)), .val (.int (gw p2)), .val (.ref b1), .val (.ref b3), .val (.ref b28), .unset] [(.int (gu p0))])) _
            refine XS.ifYes X240.here hx rfl (pc0 := 115) (pc' := 124) rfl (hb hby at_115) rfl ((if0 _ _).trans (flt (show ¬ ((0 : Int32) < (gu p0)) from (own_u0 hc194))).2.2.2) (by decide) (by decide) ?_
            show Steps p.tables e below (T240.setTop (mkF m 124 #[.val (.int p0), .val (.int p1), .val (.int p2), .val (.int (gu p0)), .val (.int (ge p1)), .val (.int (gw p2)), .val (.ref b1), .val (.ref b3), .val (.ref b28), .unset] [])) _
            refine XS.iload X240.here hx rfl (hb hby at_124) rfl ?_
            show Steps p.tables e below (T240.setTop (mkF m 126 #[.val (.int p0), .val (.int p1), .val (.int p2), .val (.int (gu p0)), .val (.int (ge p1)), .val (.int (gw p2)), .val (.ref b1), .val (.ref b3), .val (.ref b28), .unset] [(.int (ge p1))])) _
            refine XS.ifNo X240.here hx rfl (hb hby at_126) rfl ((if0 _ _).trans (tlt (show (0 : Int32) < (ge p1) from (own_e1 hc236))).2.2.2) ?_
            show Steps p.tables e below (T240.setTop (mkF m 129 #[.val (.int p0), .val (.int p1), .val (.int p2), .val (.int (gu p0)), .val (.int (ge p1)), .val (.int (gw p2)), .val (.ref b1), .val (.ref b3), .val (.ref b28), .unset] [])) _
            refine XS.iconst X240.here hx rfl (hb hby at_129) ?_
            show Steps p.tables e below (T240.setTop (mkF m 130 #[.val (.int p0), .val (.int p1), .val (.int p2), .val (.int (gu p0)), .val (.int (ge p1)), .val (.int (gw p2)), .val (.ref b1), .val (.ref b3), .val (.ref b28), .unset] [(.int (1 : Int32))])) _
            refine XS.istore X240.here hx rfl (hb hby at_130) rfl (l' := #[.val (.int p0), .val (.int p1), .val (.int p2), .val (.int (gu p0)), .val (.int (ge p1)), .val (.int (gw p2)), .val (.ref b1), .val (.ref b3), .val (.ref b28), .val (.int (1 : Int32))]) rfl ?_
            show Steps p.tables e below (T240.setTop (mkF m 132 #[.val (.int p0), .val (.int p1), .val (.int p2), .val (.int (gu p0)), .val (.int (ge p1)), .val (.int (gw p2)), .val (.ref b1), .val (.ref b3), .val (.ref b28), .val (.int (1 : Int32))] [])) _
            refine XS.goto X240.here hx rfl (pc0 := 132) (pc' := 138) rfl (hb hby at_132) (by decide) (by decide) ?_
            show Steps p.tables e below (T240.setTop (mkF m 138 #[.val (.int p0), .val (.int p1), .val (.int p2), .val (.int (gu p0)), .val (.int (ge p1)), .val (.int (gw p2)), .val (.ref b1), .val (.ref b3), .val (.ref b28), .val (.int (1 : Int32))] [])) _
            refine XS.aload X240.here hx rfl (hb hby at_138) rfl rfl ?_
            show Steps p.tables e below (T240.setTop (mkF m 140 #[.val (.int p0), .val (.int p1), .val (.int p2), .val (.int (gu p0)), .val (.int (ge p1)), .val (.int (gw p2)), .val (.ref b1), .val (.ref b3), .val (.ref b28), .val (.int (1 : Int32))] [(.ref b1)])) _
            refine st252.trans ?_
            show Steps p.tables e below (T252.setTop (mkF m 143 #[.val (.int p0), .val (.int p1), .val (.int p2), .val (.int (gu p0)), .val (.int (ge p1)), .val (.int (gw p2)), .val (.ref b1), .val (.ref b3), .val (.ref b28), .val (.int (1 : Int32))] [(.int (f8 (0 : Int64) ((0 : Int64) + (1 : Int64))))])) _
            refine XS.iload X252.here hx rfl (hb hby at_143) rfl ?_
            show Steps p.tables e below (T252.setTop (mkF m 145 #[.val (.int p0), .val (.int p1), .val (.int p2), .val (.int (gu p0)), .val (.int (ge p1)), .val (.int (gw p2)), .val (.ref b1), .val (.ref b3), .val (.ref b28), .val (.int (1 : Int32))] [(.int (1 : Int32)), (.int (f8 (0 : Int64) ((0 : Int64) + (1 : Int64))))])) _
            refine XS.icmpNo X252.here hx rfl (hb hby at_145) rfl (teq (show (f8 (0 : Int64) ((0 : Int64) + (1 : Int64))) = (1 : Int32) from (by decide))).2 ?_
            show Steps p.tables e below (T252.setTop (mkF m 148 #[.val (.int p0), .val (.int p1), .val (.int p2), .val (.int (gu p0)), .val (.int (ge p1)), .val (.int (gw p2)), .val (.ref b1), .val (.ref b3), .val (.ref b28), .val (.int (1 : Int32))] [])) _
            refine XS.iconst X252.here hx rfl (hb hby at_148) ?_
            show Steps p.tables e below (T252.setTop (mkF m 149 #[.val (.int p0), .val (.int p1), .val (.int p2), .val (.int (gu p0)), .val (.int (ge p1)), .val (.int (gw p2)), .val (.ref b1), .val (.ref b3), .val (.ref b28), .val (.int (1 : Int32))] [(.int (1 : Int32))])) _
            refine XS.goto X252.here hx rfl (pc0 := 149) (pc' := 153) rfl (hb hby at_149) (by decide) (by decide) ?_
            exact kt
          obtain ⟨fsQ, hr, hrun, hended, hRW⟩ := X252.leaveW (s := s) hS98 (by rw [e252]; exact KS240) (v := some (.int (1 : Int32))) (fun h => by rw [Bd.returns] at h; cases h)
          refine ⟨_, _, pre0 _ (K253 _ ?_), hrun, hended, _, _, rfl, ?_, hRW.1, hRW.2.1, hRW.2.2.1, hRW.2.2.2.mono (by decide) (by decide)⟩
          · show Steps p.tables e below (T252.setTop (mkF m 153 #[.val (.int p0), .val (.int p1), .val (.int p2), .val (.int (gu p0)), .val (.int (ge p1)), .val (.int (gw p2)), .val (.ref b1), .val (.ref b3), .val (.ref b28), .val (.int (1 : Int32))] [(.int (1 : Int32))])) _
            exact retN X252 hx (t := .boolean) Bd.returns (by simp) (hb hby at_153) hr
          · show Q0 Z p0 p1 p2 ru wa er h0 n0 _ T252.heap _
            rw [e252]
            exact ⟨rfl, N240⟩
        · skip
          have FR254 : Fld Z T240.heap ru "com/example/seriestrace/seriestrace/check/Rule" "severity" "Lcom/example/seriestrace/seriestrace/check/Severity;" (.ref er) := Fsev.ext OL240.2
          have ER254 : Exa Z T240.heap ru "com/example/seriestrace/seriestrace/check/Rule" := Eru.ext OL240.2
          have neR254 : b1 ≠ ru := (OL240.ne Eru.lt gn1).symm
          obtain ⟨cq255, kq255, q255a, q255b, q255c⟩ := isOf hZ rfl G241
          obtain ⟨_, _, ⟨T255, L255, k255, n255⟩, -, X255, ⟨Lc255, hQ255, l255, y255, z255⟩, st255⟩ := X240.virtualBack hx (y := (⟨"com/example/seriestrace/seriestrace/cli/Summary", "addFinding", "(Lcom/example/seriestrace/seriestrace/check/Finding;)V"⟩ : MethodName)) (z := (⟨"com/example/seriestrace/seriestrace/cli/Summary", "addFinding", "(Lcom/example/seriestrace/seriestrace/check/Finding;)V"⟩ : MethodName)) hown (mvT hZ (hw _ (List.mem_of_getElem? (i := 76) rfl))) (mvT hZ (hw _ (List.mem_of_getElem? (i := 77) rfl))) (notFace_of_selects (args := #[]) (mvT hZ (hw _ (List.mem_of_getElem? (i := 79) rfl)))) (mvT hZ (hw _ (List.mem_of_getElem? (i := 79) rfl))) (mvT hZ (hw _ (List.mem_of_getElem? (i := 78) rfl))) (by decide) (backOf (W := 0) (rm9e l Z a0 hw [] b1 b3 (0 : Int64) ((0 : Int64) + (1 : Int64)) (0 : Int64) ru er er T240.heap n0 Z240 F240a F240b F240c G241 gn1 G243 FR254 G242 ER254 (Ser.ext OL240.2) ne4 neR254 rfl) hZ (hw _ (List.mem_of_getElem? (i := 80) rfl)) (hw _ (List.mem_of_getElem? (i := 3) rfl)) (by decide) (by decide)) q255a q255c (g := (mkF m 111 #[.val (.int p0), .val (.int p1), .val (.int p2), .val (.int (gu p0)), .val (.int (ge p1)), .val (.int (gw p2)), .val (.ref b1), .val (.ref b3), .val (.ref b28), .unset] [(.ref b3), (.ref b1)])) rfl (by rw [hml]; rfl) (Steps.refl _) (argsL := [(.ref b3)]) (rest := []) (lenOf pd_6 rfl) rfl (by show 2 * 0 + _ ≤ _; exact Nat.le_of_eq rfl) (hb hby at_111) (fun _ _ => ⟨rfl, rfl, (by decide : 22 + 0 ≤ _), (by decide : 200 + 0 ≤ _)⟩)
          dsimp only [Pt.U, Pt.locs, Pt.cells, Pt.slots] at X255 l255 y255 z255 st255 hQ255
          subst l255 y255 z255
          obtain ⟨rfl, N255q, K255q, F255a, F255b, F255c⟩ := hQ255
          have N255 := Fr.app N240 N255q
          have Z255 : n0 ≤ T255.heap.size := Nat.le_trans Z240 K255q.1
          have KS255 := Nat.le_trans KS240 K255q.1
          have OL255 := OL240.keep K255q (allS gn1 all0)
          have G256 : Exa Z T255.heap b1 "com/example/seriestrace/seriestrace/cli/Summary" := G241.keep K255q
          have G257 : Exa Z T255.heap b3 "com/example/seriestrace/seriestrace/check/Finding" := G242.keep K255q
          have G258 : Fld Z T255.heap b3 "com/example/seriestrace/seriestrace/check/Finding" "rule" "Lcom/example/seriestrace/seriestrace/check/Rule;" (.ref ru) := G243.keep K255q (ninS ne4.symm nin0)
          have G259 : Exa Z T255.heap b28 "com/example/seriestrace/seriestrace/check/Finding" := G244.keep K255q
          have G260 : Fld Z T255.heap b28 "com/example/seriestrace/seriestrace/check/Finding" "rule" "Lcom/example/seriestrace/seriestrace/check/Rule;" (.ref b37) := G245.keep K255q (ninS ne29.symm nin0)
          have G261 : Exa Z T255.heap b37 "com/example/seriestrace/seriestrace/check/Rule" := G246.keep K255q
          have G262 : Fld Z T255.heap b37 "com/example/seriestrace/seriestrace/check/Rule" "severity" "Lcom/example/seriestrace/seriestrace/check/Severity;" (.ref wa) := G247.keep K255q (ninS ne38.symm nin0)
          have G263 : Fld Z T255.heap ru "com/example/seriestrace/seriestrace/check/Rule" "severity" "Lcom/example/seriestrace/seriestrace/check/Severity;" (.ref er) := FR254.keep K255q (ninS neR254.symm nin0)
          have G264 : Exa Z T255.heap ru "com/example/seriestrace/seriestrace/check/Rule" := ER254.keep K255q
          obtain ⟨cq265, kq265, q265a, q265b, q265c⟩ := isOf hZ rfl G256
          obtain ⟨_, _, ⟨T265, L265, k265, n265⟩, -, X265, ⟨Lc265, hQ265, l265, y265, z265⟩, st265⟩ := X255.virtualBack hx (y := (⟨"com/example/seriestrace/seriestrace/cli/Summary", "exitStatus", "()I"⟩ : MethodName)) (z := (⟨"com/example/seriestrace/seriestrace/cli/Summary", "exitStatus", "()I"⟩ : MethodName)) hown (mvT hZ (hw _ (List.mem_of_getElem? (i := 67) rfl))) (mvT hZ (hw _ (List.mem_of_getElem? (i := 68) rfl))) (notFace_of_selects (args := #[]) (mvT hZ (hw _ (List.mem_of_getElem? (i := 70) rfl)))) (mvT hZ (hw _ (List.mem_of_getElem? (i := 70) rfl))) (mvT hZ (hw _ (List.mem_of_getElem? (i := 69) rfl))) (by decide) (backOf (W := 0) (rm8 l Z a0 hw [] b1 (0 : Int64) (((0 : Int64) + (1 : Int64)) + (1 : Int64)) T255.heap F255a F255b) hZ (hw _ (List.mem_of_getElem? (i := 71) rfl)) (hw _ (List.mem_of_getElem? (i := 3) rfl)) (by decide) (by decide)) q265a q265c (g := (mkF m 140 #[.val (.int p0), .val (.int p1), .val (.int p2), .val (.int (gu p0)), .val (.int (ge p1)), .val (.int (gw p2)), .val (.ref b1), .val (.ref b3), .val (.ref b28), .val (.int (1 : Int32))] [(.ref b1)])) rfl (by rw [hml]; rfl) (Steps.refl _) (argsL := []) (rest := []) (lenOf pd_7 rfl) rfl (by show 2 * 0 + _ ≤ _; exact Nat.le_of_eq rfl) (hb hby at_140) (fun _ _ => ⟨rfl, rfl, (by decide : 22 + 0 ≤ _), (by decide : 200 + 0 ≤ _)⟩)
          dsimp only [Pt.U, Pt.locs, Pt.cells, Pt.slots] at X265 l265 y265 z265 st265 hQ265
          subst l265 y265 z265
          obtain ⟨rfl, rfl, e265⟩ := hQ265
          try rw [List.append_nil] at X265
          have K266 : ∀ t, Steps p.tables e below (T265.setTop (mkF m 153 #[.val (.int p0), .val (.int p1), .val (.int p2), .val (.int (gu p0)), .val (.int (ge p1)), .val (.int (gw p2)), .val (.ref b1), .val (.ref b3), .val (.ref b28), .val (.int (1 : Int32))] [(.int (1 : Int32))])) t → Steps p.tables e below (s₁.setTop (mkF m 0 #[.val (.int p0), .val (.int p1), .val (.int p2), .unset, .unset, .unset, .unset, .unset, .unset, .unset] [])) t := by
            intro t kt
            refine K250 _ ?_
            show Steps p.tables e below (T240.setTop (mkF m 104 #[.val (.int p0), .val (.int p1), .val (.int p2), .val (.int (gu p0)), .val (.int (ge p1)), .val (.int (gw p2)), .val (.ref b1), .val (.ref b3), .val (.ref b28), .unset] [(.int (2 : Int32)), (.int (ge p1))])) _
            refine XS.icmpNo X240.here hx rfl (hb hby at_104) rfl (flt hc251).1 ?_
            show Steps p.tables e below (T240.setTop (mkF m 107 #[.val (.int p0), .val (.int p1), .val (.int p2), .val (.int (gu p0)), .val (.int (ge p1)), .val (.int (gw p2)), .val (.ref b1), .val (.ref b3), .val (.ref b28), .unset] [])) _
            refine XS.aload X240.here hx rfl (hb hby at_107) rfl rfl ?_
            show Steps p.tables e below (T240.setTop (mkF m 109 #[.val (.int p0), .val (.int p1), .val (.int p2), .val (.int (gu p0)), .val (.int (ge p1)), .val (.int (gw p2)), .val (.ref b1), .val (.ref b3), .val (.ref b28), .unset] [(.ref b1)])) _
            refine XS.aload X240.here hx rfl (hb hby at_109) rfl rfl ?_
            show Steps p.tables e below (T240.setTop (mkF m 111 #[.val (.int p0), .val (.int p1), .val (.int p2), .val (.int (gu p0)), .val (.int (ge p1)), .val (.int (gw p2)), .val (.ref b1), .val (.ref b3), .val (.ref b28), .unset] [(.ref b3), (.ref b1)])) _
            refine st255.trans ?_
            show Steps p.tables e below (T255.setTop (mkF m 114 #[.val (.int p0), .val (.int p1), .val (.int p2), .val (.int (gu p0)), .val (.int (ge p1)), .val (.int (gw p2)), .val (.ref b1), .val (.ref b3), .val (.ref b28), .unset] [])) _
            refine XS.iloadN X255.here hx rfl (hb hby at_114) rfl ?_
            show Steps p.tables e below (T255.setTop (mkF m 115 #[.val (.int p0), .val (.int p1), .val (.int p2), .val (.int (gu p0)), .val (.int (ge p1)), .val (.int (gw p2)), .val (.ref b1), .val (.ref b3), .val (.ref b28), .unset] [(.int (gu p0))])) _
            refine XS.ifYes X255.here hx rfl (pc0 := 115) (pc' := 124) rfl (hb hby at_115) rfl ((if0 _ _).trans (flt (show ¬ ((0 : Int32) < (gu p0)) from (own_u0 hc194))).2.2.2) (by decide) (by decide) ?_
            show Steps p.tables e below (T255.setTop (mkF m 124 #[.val (.int p0), .val (.int p1), .val (.int p2), .val (.int (gu p0)), .val (.int (ge p1)), .val (.int (gw p2)), .val (.ref b1), .val (.ref b3), .val (.ref b28), .unset] [])) _
            refine XS.iload X255.here hx rfl (hb hby at_124) rfl ?_
            show Steps p.tables e below (T255.setTop (mkF m 126 #[.val (.int p0), .val (.int p1), .val (.int p2), .val (.int (gu p0)), .val (.int (ge p1)), .val (.int (gw p2)), .val (.ref b1), .val (.ref b3), .val (.ref b28), .unset] [(.int (ge p1))])) _
            refine XS.ifNo X255.here hx rfl (hb hby at_126) rfl ((if0 _ _).trans (tlt (show (0 : Int32) < (ge p1) from (own_e1 hc236))).2.2.2) ?_
            show Steps p.tables e below (T255.setTop (mkF m 129 #[.val (.int p0), .val (.int p1), .val (.int p2), .val (.int (gu p0)), .val (.int (ge p1)), .val (.int (gw p2)), .val (.ref b1), .val (.ref b3), .val (.ref b28), .unset] [])) _
            refine XS.iconst X255.here hx rfl (hb hby at_129) ?_
            show Steps p.tables e below (T255.setTop (mkF m 130 #[.val (.int p0), .val (.int p1), .val (.int p2), .val (.int (gu p0)), .val (.int (ge p1)), .val (.int (gw p2)), .val (.ref b1), .val (.ref b3), .val (.ref b28), .unset] [(.int (1 : Int32))])) _
            refine XS.istore X255.here hx rfl (hb hby at_130) rfl (l' := #[.val (.int p0), .val (.int p1), .val (.int p2), .val (.int (gu p0)), .val (.int (ge p1)), .val (.int (gw p2)), .val (.ref b1), .val (.ref b3), .val (.ref b28), .val (.int (1 : Int32))]) rfl ?_
            show Steps p.tables e below (T255.setTop (mkF m 132 #[.val (.int p0), .val (.int p1), .val (.int p2), .val (.int (gu p0)), .val (.int (ge p1)), .val (.int (gw p2)), .val (.ref b1), .val (.ref b3), .val (.ref b28), .val (.int (1 : Int32))] [])) _
            refine XS.goto X255.here hx rfl (pc0 := 132) (pc' := 138) rfl (hb hby at_132) (by decide) (by decide) ?_
            show Steps p.tables e below (T255.setTop (mkF m 138 #[.val (.int p0), .val (.int p1), .val (.int p2), .val (.int (gu p0)), .val (.int (ge p1)), .val (.int (gw p2)), .val (.ref b1), .val (.ref b3), .val (.ref b28), .val (.int (1 : Int32))] [])) _
            refine XS.aload X255.here hx rfl (hb hby at_138) rfl rfl ?_
            show Steps p.tables e below (T255.setTop (mkF m 140 #[.val (.int p0), .val (.int p1), .val (.int p2), .val (.int (gu p0)), .val (.int (ge p1)), .val (.int (gw p2)), .val (.ref b1), .val (.ref b3), .val (.ref b28), .val (.int (1 : Int32))] [(.ref b1)])) _
            refine st265.trans ?_
            show Steps p.tables e below (T265.setTop (mkF m 143 #[.val (.int p0), .val (.int p1), .val (.int p2), .val (.int (gu p0)), .val (.int (ge p1)), .val (.int (gw p2)), .val (.ref b1), .val (.ref b3), .val (.ref b28), .val (.int (1 : Int32))] [(.int (f8 (0 : Int64) (((0 : Int64) + (1 : Int64)) + (1 : Int64))))])) _
            refine XS.iload X265.here hx rfl (hb hby at_143) rfl ?_
            show Steps p.tables e below (T265.setTop (mkF m 145 #[.val (.int p0), .val (.int p1), .val (.int p2), .val (.int (gu p0)), .val (.int (ge p1)), .val (.int (gw p2)), .val (.ref b1), .val (.ref b3), .val (.ref b28), .val (.int (1 : Int32))] [(.int (1 : Int32)), (.int (f8 (0 : Int64) (((0 : Int64) + (1 : Int64)) + (1 : Int64))))])) _
            refine XS.icmpNo X265.here hx rfl (hb hby at_145) rfl (teq (show (f8 (0 : Int64) (((0 : Int64) + (1 : Int64)) + (1 : Int64))) = (1 : Int32) from (by decide))).2 ?_
            show Steps p.tables e below (T265.setTop (mkF m 148 #[.val (.int p0), .val (.int p1), .val (.int p2), .val (.int (gu p0)), .val (.int (ge p1)), .val (.int (gw p2)), .val (.ref b1), .val (.ref b3), .val (.ref b28), .val (.int (1 : Int32))] [])) _
            refine XS.iconst X265.here hx rfl (hb hby at_148) ?_
            show Steps p.tables e below (T265.setTop (mkF m 149 #[.val (.int p0), .val (.int p1), .val (.int p2), .val (.int (gu p0)), .val (.int (ge p1)), .val (.int (gw p2)), .val (.ref b1), .val (.ref b3), .val (.ref b28), .val (.int (1 : Int32))] [(.int (1 : Int32))])) _
            refine XS.goto X265.here hx rfl (pc0 := 149) (pc' := 153) rfl (hb hby at_149) (by decide) (by decide) ?_
            exact kt
          obtain ⟨fsQ, hr, hrun, hended, hRW⟩ := X265.leaveW (s := s) hS98 (by rw [e265]; exact KS255) (v := some (.int (1 : Int32))) (fun h => by rw [Bd.returns] at h; cases h)
          refine ⟨_, _, pre0 _ (K266 _ ?_), hrun, hended, _, _, rfl, ?_, hRW.1, hRW.2.1, hRW.2.2.1, hRW.2.2.2.mono (by decide) (by decide)⟩
          · show Steps p.tables e below (T265.setTop (mkF m 153 #[.val (.int p0), .val (.int p1), .val (.int p2), .val (.int (gu p0)), .val (.int (ge p1)), .val (.int (gw p2)), .val (.ref b1), .val (.ref b3), .val (.ref b28), .val (.int (1 : Int32))] [(.int (1 : Int32))])) _
            exact retN X265 hx (t := .boolean) Bd.returns (by simp) (hb hby at_153) hr
          · show Q0 Z p0 p1 p2 ru wa er h0 n0 _ T265.heap _
            rw [e265]
            exact ⟨rfl, N255⟩
theorem own_eqi {args : Array Value} {s : State} {t : Term} {k : Int32} (h : (Jvm.Cond.eq t (.int k)).value args s none s [] = some true) : t.eval args s none [] s = some (.int k) := by
  simp only [Cond.value, Term.eval] at h
  cases ht : t.eval args s none [] s with
  | none => simp [ht] at h
  | some x => cases x <;> simp [ht] at h ⊢ <;> exact h
theorem own_eqr {args : Array Value} {s : State} {t u : Term} {x y : Addr} (h : (Jvm.Cond.eq t u).value args s none s [] = some true) (hu : u.eval args s none [] s = some (.ref y)) : t.eval args s none [] s = some (.ref y) := by
  simp only [Cond.value, hu] at h
  cases ht : t.eval args s none [] s with
  | none => simp [ht] at h
  | some x => cases x <;> simp [ht] at h ⊢ <;> exact h
theorem own_start {s : State} {args : Array Value} (hw : ∀ d ∈ tables_1, d.before args s = true) (hn : narrow_1.value args s none s [] = some true) :
    ∃ ru wa er : Addr, Sta s s.heap "com/example/seriestrace/seriestrace/check/Rule" "RECORD_UNREADABLE" "Lcom/example/seriestrace/seriestrace/check/Rule;" (.ref ru) ∧ Sta s s.heap "com/example/seriestrace/seriestrace/check/Severity" "WARNING" "Lcom/example/seriestrace/seriestrace/check/Severity;" (.ref wa) ∧ Sta s s.heap "com/example/seriestrace/seriestrace/check/Severity" "ERROR" "Lcom/example/seriestrace/seriestrace/check/Severity;" (.ref er) ∧ Exa s s.heap ru "com/example/seriestrace/seriestrace/check/Rule" ∧ Fld s s.heap ru "com/example/seriestrace/seriestrace/check/Rule" "severity" "Lcom/example/seriestrace/seriestrace/check/Severity;" (.ref er) ∧ ¬ wa = er := by
  obtain ⟨n1, hn⟩ := and_e hn
  obtain ⟨n2, hn⟩ := and_e hn
  obtain ⟨n3, hn⟩ := and_e hn
  obtain ⟨n4, hn⟩ := and_e hn
  obtain ⟨n5, n6⟩ := and_e hn
  obtain ⟨ru, e1⟩ := exa_v n1
  obtain ⟨wa, e2⟩ := exa_v n2
  obtain ⟨er, e3⟩ := exa_v n3
  have f4 := (fld_at e2).symm.trans (own_eqi n4)
  have f5 := (fld_at e3).symm.trans (own_eqi n5)
  have f6 := (fld_at e1).symm.trans (own_eqr (x := 0) n6 e3)
  exact ⟨ru, wa, er, Sta.start e1 (Or.inr ⟨(hw _ (List.mem_of_getElem? (i := 14) rfl)), (hw _ (List.mem_of_getElem? (i := 15) rfl))⟩), Sta.start e2 (Or.inr ⟨(hw _ (List.mem_of_getElem? (i := 54) rfl)), (hw _ (List.mem_of_getElem? (i := 55) rfl))⟩), Sta.start e3 (Or.inr ⟨(hw _ (List.mem_of_getElem? (i := 54) rfl)), (hw _ (List.mem_of_getElem? (i := 92) rfl))⟩), Exa.start e1 n1, Fld.start f6, Fld.ne (Fld.start f4) (Fld.start f5) (fun z => by cases z)⟩
set_option maxRecDepth 65536 in
set_option maxHeartbeats 40000000 in
theorem comes_1 {Post : Tables → Env → Array Value → State → Outcome → State → Prop} (hpost : ∀ tb e args s v u, (limb_1_1.after args s (.returned v) u = true ∧ limb_1_2.after args s (.returned v) u = true ∧ True) → ReturnedEndW s (.returned v) u (Jvm.fieldLocs frame_1_writes args s ++ Jvm.arrayLocs frame_1_arrays args s ++ Jvm.staticLocs frame_1_statics s) 32 6272 → Post tb e args s (.returned v) u) :
    ArmFor flags0 classFile x code maxLocals ret World_1 tables_1 room_1 Calls_1 rest_1 Pre_1 Post := by
  intro l hfl _ _ p e ha hc hk s m args below hf hA hF happ hP
  obtain ⟨hcalls, hrest, hpre⟩ := hP
  obtain ⟨-, -, -, hnamed, -, -, -, hat⟩ := (Spec.applies_iff hf).mp happ
  obtain ⟨hg, hn⟩ := and_e (Cond.before_iff.mp (show (Jvm.Cond.and given_1 narrow_1).before args s = true from hpre))
  obtain ⟨hcount, hk0⟩ := and_e hg
  obtain ⟨hi0, hk1⟩ := and_e hk0
  obtain ⟨hi1, hk2⟩ := and_e hk1
  have hi2 := hk2
  obtain ⟨w0, w1, w2, rfl⟩ : ∃ w0 w1 w2 : Value, args = #[w0, w1, w2] := by
    have hs : args.size = 3 := by simpa [Cond.value, given_1] using hcount
    obtain ⟨L⟩ := args
    match L, hs with
    | [w0, w1, w2], _ => exact ⟨w0, w1, w2, rfl⟩
  have hw := fun d (hd : d ∈ tables_1) => atoms_spec (ws := Jvm.Cond.code x code maxLocals ret :: tables_1) hat d (List.mem_cons_of_mem _ hd)
  obtain ⟨i0, ei0⟩ := is_v hi0
  obtain rfl : w0 = (.int i0) := Option.some.inj ei0
  obtain ⟨i1, ei1⟩ := is_v hi1
  obtain rfl : w1 = (.int i1) := Option.some.inj ei1
  obtain ⟨i2, ei2⟩ := is_v hi2
  obtain rfl : w2 = (.int i2) := Option.some.inj ei2
  obtain ⟨ru, wa, er, Sru, Swa, Ser, Eru, Fsev, hwe⟩ := own_start hw hn
  obtain ⟨n, o, h1, h2, h3, v, L, rfl, hQ, hq⟩ := rm0 l s _ hw tables_1 i0 i1 i2 ru wa er s.heap s.heap.size (Nat.le_refl _) (Old.start s) Sru Swa Ser Eru Fsev hwe p e ha hc hk s m _ below hf ((Spec.applies_iff_loose hf).mp happ).1 ⟨rfl, State.Warmed39.refl s, rfl⟩ trivial
  obtain ⟨rfl, N⟩ : v = some (.int 1) ∧ Fr s.heap.size L := by
    exact ⟨hQ.1, hQ.2⟩
  refine ⟨n, _, h1, h2, h3, hpost _ _ _ _ _ _ ⟨Cond.after_iff.mpr rfl, Cond.after_iff.mpr (eq_i res_at (Term.int_eval (1)) rfl), trivial⟩ ⟨hq.1, hq.2.1, hq.2.2.1, (hq.2.2.2.sift fun y hy => Or.inr (N y hy)).mono (by decide) (by decide)⟩⟩
theorem main_1_1 : Claimed_1_1 := comes_1 fun _ _ _ _ _ _ h hF => ⟨h.1, hF⟩
theorem main_1_2 : Claimed_1_2 := comes_1 fun _ _ _ _ _ _ h hF => ⟨h.2.1, hF⟩
end Jvm.Pilot.@@N@@
namespace Jvm.Pilot.@@N@@
open Jvm Jvm.ClassFile Sem Op Lib Jvm.Free Jvm.Stand Jvm.Pilot.@@N@@.Jvm.D
/-! MADE BY PROGRAM (witnessworld.py) out of the Statement's table words and the real class files: 20 classes; the members and pool entries that the words name. The judged class is class 1, her method 1. -/
namespace start1
open Jvm.ClassFile
def u (s : String) : CpInfo := .utf8 (stringToUtf16 s)
/-- a pool by its gaps: so many unusable entries, then the entry; so many at the end -/
def gap : Nat → List CpInfo → List CpInfo
  | 0, r => r
  | n + 1, r => .unusable :: gap n r
def poolList (es : List (Nat × CpInfo)) (last : Nat) : List CpInfo := es.foldr (fun e r => gap e.1 (e.2 :: r)) (gap last [])
def pool (es : List (Nat × CpInfo)) (last : Nat) : Array CpInfo := ⟨poolList es last⟩
def fileOf (pool : Array CpInfo) (this : Nat) (attrs : Array Attribute := #[]) (ms : Array MethodInfo := #[]) (fl : Nat := 33) (sup : Nat := 0) (ifs : Array Nat := #[]) (fds : Array FieldInfo := #[]) : ClassFile where
  minorVersion := 0
  majorVersion := 65
  constantPool := pool
  accessFlags := fl
  thisClass := this
  superClass := sup
  interfaces := ifs
  fields := fds
  methods := ms
  attributes := attrs
def plain (name : String) (sup : Option ClassId) : Class where
  name := name
  kind := .ordinary
  loader := none
  accessFlags := 33
  super := sup
  interfaces := #[]
  cf := none
  fields := #[]
  methods := #[]
  instanceTypes := #[]
  staticTypes := #[]
  resolved := #[]
  callSites := []
  init := .initialized
  statics := none
  mirror := none

def pool0 : Array CpInfo := pool [(5, u "<init>"), (0, u "()V"), (1, .class_ 10), (1, u "java/lang/Object")] 113

def k0c0 : Code := { maxStack := 0, maxLocals := 1, code := object_method_1_code, exceptionTable := #[], attributes := #[] }
def k0m0 : Method := { name := "<init>", desc := "()V", sig := { parameters := [], returnType := none }, accessFlags := 1, code := some k0c0 }
/-- java/lang/Object -/
def k0 : Class := { plain "java/lang/Object" none with
  accessFlags := 33
  interfaces := #[]
  cf := some (fileOf pool0 8 #[] #[{ accessFlags := 1, nameIndex := 5, descriptorIndex := 6, attributes := #[] }] 33 0 #[] #[])
  fields := #[]
  methods := #[k0m0]
  instanceTypes := #[]
  staticTypes := #[]
  resolved := Array.replicate 124 none
  statics := none }

def pool1 : Array CpInfo := pool [(2, .class_ 4), (0, .nameAndType 5 6), (0, u "java/lang/Object"), (0, u "<init>"), (0, u "()V"), (0, .integer 2147483647), (0, .class_ 9), (0, u "com/example/seriestrace/seriestrace/cli/Summary"), (0, .methodref 8 3), (0, .class_ 12), (0, u "com/example/seriestrace/seriestrace/check/Finding"), (0, .fieldref 14 15), (0, .class_ 16), (0, .nameAndType 17 18), (0, u "com/example/seriestrace/seriestrace/check/Rule"), (0, u "RECORD_UNREADABLE"), (0, u "Lcom/example/seriestrace/seriestrace/check/Rule;"), (0, .string 20), (0, u "e"), (0, .methodref 11 22), (0, .nameAndType 5 23), (0, u "(Lcom/example/seriestrace/seriestrace/check/Rule;Lcom/example/seriestrace/seriestrace/check/FieldRef;Ljava/lang/String;)V"), (0, .string 25), (0, u "w"), (0, .fieldref 27 28), (0, .class_ 29), (0, .nameAndType 30 31), (0, u "com/example/seriestrace/seriestrace/check/Severity"), (0, u "WARNING"), (0, u "Lcom/example/seriestrace/seriestrace/check/Severity;"), (0, .methodref 14 33), (0, .nameAndType 5 34), (0, u "(Ljava/lang/String;Lcom/example/seriestrace/seriestrace/check/Severity;)V"), (0, .methodref 8 36), (0, .nameAndType 37 38), (0, u "addFinding"), (0, u "(Lcom/example/seriestrace/seriestrace/check/Finding;)V"), (0, .methodref 8 40), (0, .nameAndType 41 6), (0, u "addUnreadable"), (0, .methodref 8 43), (0, .nameAndType 44 45), (0, u "exitStatus"), (0, u "()I"), (0, .class_ 47), (0, u "com/example/seriestrace/seriestrace/cli/SummaryExitStatusPinLaw"), (2, u "law"), (0, u "(III)Z")] 3

def k1m0 : Method := { name := "<init>", desc := "()V", sig := { parameters := [], returnType := none }, accessFlags := 1, code := none }
def k1c1 : Code := { maxStack := 6, maxLocals := 10, code := code, exceptionTable := #[], attributes := #[] }
def k1m1 : Method := { name := "law", desc := "(III)Z", sig := { parameters := [.int, .int, .int], returnType := some .boolean }, accessFlags := 9, code := some k1c1 }
/-- com/example/seriestrace/seriestrace/cli/SummaryExitStatusPinLaw -/
def k1 : Class := { plain "com/example/seriestrace/seriestrace/cli/SummaryExitStatusPinLaw" (some 0) with
  accessFlags := 49
  interfaces := #[]
  cf := some (fileOf pool1 46 #[] #[{ accessFlags := 1, nameIndex := 5, descriptorIndex := 6, attributes := #[] }, { accessFlags := 9, nameIndex := 50, descriptorIndex := 51, attributes := #[] }] 49 2 #[] #[])
  fields := #[]
  methods := #[k1m0, k1m1]
  instanceTypes := #[]
  staticTypes := #[]
  resolved := Array.replicate 55 none
  statics := none }

def pool2 : Array CpInfo := pool [(1, .methodref 2 3), (0, .class_ 4), (0, .nameAndType 5 6), (0, u "java/lang/Object"), (0, u "<init>"), (0, u "()V"), (1, .class_ 10), (1, u "com/example/seriestrace/seriestrace/cli/Summary"), (0, u "records"), (0, u "J"), (32, u "statements"), (5, u "headings"), (0, .fieldref 8 53), (0, .nameAndType 54 12), (0, u "unreadable"), (0, .methodref 56 57), (0, .class_ 58), (0, .nameAndType 59 60), (0, u "com/example/seriestrace/seriestrace/check/Finding"), (0, u "severity"), (0, u "()Lcom/example/seriestrace/seriestrace/check/Severity;"), (0, .fieldref 62 63), (0, .class_ 64), (0, .nameAndType 65 66), (0, u "com/example/seriestrace/seriestrace/check/Severity"), (0, u "ERROR"), (0, u "Lcom/example/seriestrace/seriestrace/check/Severity;"), (0, .fieldref 8 68), (0, .nameAndType 69 12), (0, u "errors"), (0, .fieldref 8 71), (0, .nameAndType 72 12), (0, u "warnings"), (26, u "addUnreadable"), (0, u "addFinding"), (0, u "(Lcom/example/seriestrace/seriestrace/check/Finding;)V"), (0, u "exitStatus"), (0, u "()I")] 6

def k2c0 : Code := { maxStack := 1, maxLocals := 1, code := prog_29_method_1_code, exceptionTable := #[], attributes := #[] }
def k2m0 : Method := { name := "<init>", desc := "()V", sig := { parameters := [], returnType := none }, accessFlags := 0, code := some k2c0 }
def k2c1 : Code := { maxStack := 5, maxLocals := 1, code := prog_29_method_3_code, exceptionTable := #[], attributes := #[] }
def k2m1 : Method := { name := "addUnreadable", desc := "()V", sig := { parameters := [], returnType := none }, accessFlags := 0, code := some k2c1 }
def k2c2 : Code := { maxStack := 5, maxLocals := 2, code := prog_29_method_4_code, exceptionTable := #[], attributes := #[] }
def k2m2 : Method := { name := "addFinding", desc := "(Lcom/example/seriestrace/seriestrace/check/Finding;)V", sig := { parameters := [(.object "com/example/seriestrace/seriestrace/check/Finding")], returnType := none }, accessFlags := 0, code := some k2c2 }
def k2c3 : Code := { maxStack := 4, maxLocals := 1, code := prog_29_method_5_code, exceptionTable := #[], attributes := #[] }
def k2m3 : Method := { name := "exitStatus", desc := "()I", sig := { parameters := [], returnType := some .int }, accessFlags := 0, code := some k2c3 }
/-- com/example/seriestrace/seriestrace/cli/Summary -/
def k2 : Class := { plain "com/example/seriestrace/seriestrace/cli/Summary" (some 0) with
  accessFlags := 48
  interfaces := #[]
  cf := some (fileOf pool2 8 #[] #[{ accessFlags := 0, nameIndex := 5, descriptorIndex := 6, attributes := #[] }, { accessFlags := 0, nameIndex := 99, descriptorIndex := 6, attributes := #[] }, { accessFlags := 0, nameIndex := 100, descriptorIndex := 101, attributes := #[] }, { accessFlags := 0, nameIndex := 102, descriptorIndex := 103, attributes := #[] }] 48 2 #[] #[{ accessFlags := 2, nameIndex := 11, descriptorIndex := 12, attributes := #[] }, { accessFlags := 2, nameIndex := 54, descriptorIndex := 12, attributes := #[] }, { accessFlags := 2, nameIndex := 45, descriptorIndex := 12, attributes := #[] }, { accessFlags := 2, nameIndex := 51, descriptorIndex := 12, attributes := #[] }, { accessFlags := 2, nameIndex := 69, descriptorIndex := 12, attributes := #[] }, { accessFlags := 2, nameIndex := 72, descriptorIndex := 12, attributes := #[] }])
  fields := #[{ name := "records", type := .long, accessFlags := 2, slot := 0, constantValue := 0 }, { name := "unreadable", type := .long, accessFlags := 2, slot := 1, constantValue := 0 }, { name := "statements", type := .long, accessFlags := 2, slot := 2, constantValue := 0 }, { name := "headings", type := .long, accessFlags := 2, slot := 3, constantValue := 0 }, { name := "errors", type := .long, accessFlags := 2, slot := 4, constantValue := 0 }, { name := "warnings", type := .long, accessFlags := 2, slot := 5, constantValue := 0 }]
  methods := #[k2m0, k2m1, k2m2, k2m3]
  instanceTypes := #[.long, .long, .long, .long, .long, .long]
  staticTypes := #[]
  resolved := Array.replicate 110 none
  statics := none }

def pool3 : Array CpInfo := pool [(1, .methodref 2 3), (0, .class_ 4), (0, .nameAndType 5 6), (0, u "java/lang/Object"), (0, u "<init>"), (0, u "()V"), (0, .class_ 8), (0, u "java/lang/Record")] 13

def k3c0 : Code := { maxStack := 1, maxLocals := 1, code := jdk_30_method_1_code, exceptionTable := #[], attributes := #[] }
def k3m0 : Method := { name := "<init>", desc := "()V", sig := { parameters := [], returnType := none }, accessFlags := 4, code := some k3c0 }
/-- java/lang/Record -/
def k3 : Class := { plain "java/lang/Record" (some 0) with
  accessFlags := 1057
  interfaces := #[]
  cf := some (fileOf pool3 7 #[] #[{ accessFlags := 4, nameIndex := 5, descriptorIndex := 6, attributes := #[] }] 1057 2 #[] #[])
  fields := #[]
  methods := #[k3m0]
  instanceTypes := #[]
  staticTypes := #[]
  resolved := Array.replicate 22 none
  statics := none }

def pool4 : Array CpInfo := pool [(1, .methodref 2 3), (0, .class_ 4), (0, .nameAndType 5 6), (0, u "java/lang/Record"), (0, u "<init>"), (0, u "()V"), (0, .string 8), (0, u "rule"), (0, .methodref 10 11), (0, .class_ 12), (0, .nameAndType 13 14), (0, u "java/util/Objects"), (0, u "requireNonNull"), (0, u "(Ljava/lang/Object;Ljava/lang/String;)Ljava/lang/Object;"), (0, .string 16), (0, u "message"), (0, .fieldref 18 19), (0, .class_ 20), (0, .nameAndType 8 21), (0, u "com/example/seriestrace/seriestrace/check/Finding"), (0, u "Lcom/example/seriestrace/seriestrace/check/Rule;"), (0, .fieldref 18 23), (0, .nameAndType 24 25), (0, u "field"), (0, u "Lcom/example/seriestrace/seriestrace/check/FieldRef;"), (0, .fieldref 18 27), (0, .nameAndType 16 28), (0, u "Ljava/lang/String;"), (0, .fieldref 18 30), (0, .nameAndType 31 32), (0, u "proposal"), (0, u "Lcom/example/seriestrace/seriestrace/marc/DataField;"), (0, .methodref 18 34), (0, .nameAndType 5 35), (0, u "(Lcom/example/seriestrace/seriestrace/check/Rule;Lcom/example/seriestrace/seriestrace/check/FieldRef;Ljava/lang/String;Lcom/example/seriestrace/seriestrace/marc/DataField;)V"), (0, .methodref 37 38), (0, .class_ 39), (0, .nameAndType 40 41), (0, u "com/example/seriestrace/seriestrace/check/Rule"), (0, u "severity"), (0, u "()Lcom/example/seriestrace/seriestrace/check/Severity;"), (48, u "REPORT_ORDER"), (0, u "Ljava/util/Comparator;"), (5, u "(Lcom/example/seriestrace/seriestrace/check/Rule;Lcom/example/seriestrace/seriestrace/check/FieldRef;Ljava/lang/String;)V")] 48

def k4c0 : Code := { maxStack := 2, maxLocals := 5, code := prog_12_method_1_code, exceptionTable := #[], attributes := #[] }
def k4m0 : Method := { name := "<init>", desc := "(Lcom/example/seriestrace/seriestrace/check/Rule;Lcom/example/seriestrace/seriestrace/check/FieldRef;Ljava/lang/String;Lcom/example/seriestrace/seriestrace/marc/DataField;)V", sig := { parameters := [(.object "com/example/seriestrace/seriestrace/check/Rule"), (.object "com/example/seriestrace/seriestrace/check/FieldRef"), (.object "java/lang/String"), (.object "com/example/seriestrace/seriestrace/marc/DataField")], returnType := none }, accessFlags := 1, code := some k4c0 }
def k4c1 : Code := { maxStack := 5, maxLocals := 4, code := prog_12_method_2_code, exceptionTable := #[], attributes := #[] }
def k4m1 : Method := { name := "<init>", desc := "(Lcom/example/seriestrace/seriestrace/check/Rule;Lcom/example/seriestrace/seriestrace/check/FieldRef;Ljava/lang/String;)V", sig := { parameters := [(.object "com/example/seriestrace/seriestrace/check/Rule"), (.object "com/example/seriestrace/seriestrace/check/FieldRef"), (.object "java/lang/String")], returnType := none }, accessFlags := 1, code := some k4c1 }
def k4c2 : Code := { maxStack := 1, maxLocals := 1, code := prog_12_method_3_code, exceptionTable := #[], attributes := #[] }
def k4m2 : Method := { name := "severity", desc := "()Lcom/example/seriestrace/seriestrace/check/Severity;", sig := { parameters := [], returnType := some (.object "com/example/seriestrace/seriestrace/check/Severity") }, accessFlags := 1, code := some k4c2 }
/-- com/example/seriestrace/seriestrace/check/Finding -/
def k4 : Class := { plain "com/example/seriestrace/seriestrace/check/Finding" (some 3) with
  accessFlags := 49
  interfaces := #[]
  cf := some (fileOf pool4 18 #[] #[{ accessFlags := 1, nameIndex := 5, descriptorIndex := 35, attributes := #[] }, { accessFlags := 1, nameIndex := 5, descriptorIndex := 97, attributes := #[] }, { accessFlags := 1, nameIndex := 40, descriptorIndex := 41, attributes := #[] }] 49 2 #[] #[{ accessFlags := 18, nameIndex := 8, descriptorIndex := 21, attributes := #[] }, { accessFlags := 18, nameIndex := 24, descriptorIndex := 25, attributes := #[] }, { accessFlags := 18, nameIndex := 16, descriptorIndex := 28, attributes := #[] }, { accessFlags := 18, nameIndex := 31, descriptorIndex := 32, attributes := #[] }, { accessFlags := 25, nameIndex := 90, descriptorIndex := 91, attributes := #[] }])
  fields := #[{ name := "rule", type := (.object "com/example/seriestrace/seriestrace/check/Rule"), accessFlags := 18, slot := 0, constantValue := 0 }, { name := "field", type := (.object "com/example/seriestrace/seriestrace/check/FieldRef"), accessFlags := 18, slot := 1, constantValue := 0 }, { name := "message", type := (.object "java/lang/String"), accessFlags := 18, slot := 2, constantValue := 0 }, { name := "proposal", type := (.object "com/example/seriestrace/seriestrace/marc/DataField"), accessFlags := 18, slot := 3, constantValue := 0 }, { name := "REPORT_ORDER", type := (.object "java/util/Comparator"), accessFlags := 25, slot := 0, constantValue := 0 }]
  methods := #[k4m0, k4m1, k4m2]
  instanceTypes := #[(.object "com/example/seriestrace/seriestrace/check/Rule"), (.object "com/example/seriestrace/seriestrace/check/FieldRef"), (.object "java/lang/String"), (.object "com/example/seriestrace/seriestrace/marc/DataField")]
  staticTypes := #[(.object "java/util/Comparator")]
  resolved := Array.replicate 146 none
  statics := none }

def pool5 : Array CpInfo := pool [(1, .methodref 2 3), (0, .class_ 4), (0, .nameAndType 5 6), (0, u "java/lang/Record"), (0, u "<init>"), (0, u "()V"), (0, .string 8), (0, u "name"), (0, .methodref 10 11), (0, .class_ 12), (0, .nameAndType 13 14), (0, u "java/util/Objects"), (0, u "requireNonNull"), (0, u "(Ljava/lang/Object;Ljava/lang/String;)Ljava/lang/Object;"), (0, .string 16), (0, u "severity"), (0, .fieldref 18 19), (0, .class_ 20), (0, .nameAndType 8 21), (0, u "com/example/seriestrace/seriestrace/check/Rule"), (0, u "Ljava/lang/String;"), (0, .fieldref 18 23), (0, .nameAndType 16 24), (0, u "Lcom/example/seriestrace/seriestrace/check/Severity;"), (21, u "(Ljava/lang/String;Lcom/example/seriestrace/seriestrace/check/Severity;)V"), (2, u "RECORD_UNREADABLE"), (0, u "Lcom/example/seriestrace/seriestrace/check/Rule;"), (6, u "()Lcom/example/seriestrace/seriestrace/check/Severity;")] 22

def k5c0 : Code := { maxStack := 2, maxLocals := 3, code := prog_16_method_1_code, exceptionTable := #[], attributes := #[] }
def k5m0 : Method := { name := "<init>", desc := "(Ljava/lang/String;Lcom/example/seriestrace/seriestrace/check/Severity;)V", sig := { parameters := [(.object "java/lang/String"), (.object "com/example/seriestrace/seriestrace/check/Severity")], returnType := none }, accessFlags := 1, code := some k5c0 }
def k5c1 : Code := { maxStack := 1, maxLocals := 1, code := prog_16_method_6_code, exceptionTable := #[], attributes := #[] }
def k5m1 : Method := { name := "severity", desc := "()Lcom/example/seriestrace/seriestrace/check/Severity;", sig := { parameters := [], returnType := some (.object "com/example/seriestrace/seriestrace/check/Severity") }, accessFlags := 1, code := some k5c1 }
/-- com/example/seriestrace/seriestrace/check/Rule -/
def k5 : Class := { plain "com/example/seriestrace/seriestrace/check/Rule" (some 3) with
  accessFlags := 49
  interfaces := #[]
  cf := some (fileOf pool5 18 #[] #[{ accessFlags := 1, nameIndex := 5, descriptorIndex := 46, attributes := #[] }, { accessFlags := 1, nameIndex := 16, descriptorIndex := 57, attributes := #[] }] 49 2 #[] #[{ accessFlags := 18, nameIndex := 8, descriptorIndex := 21, attributes := #[] }, { accessFlags := 18, nameIndex := 16, descriptorIndex := 24, attributes := #[] }, { accessFlags := 25, nameIndex := 49, descriptorIndex := 50, attributes := #[] }])
  fields := #[{ name := "name", type := (.object "java/lang/String"), accessFlags := 18, slot := 0, constantValue := 0 }, { name := "severity", type := (.object "com/example/seriestrace/seriestrace/check/Severity"), accessFlags := 18, slot := 1, constantValue := 0 }, { name := "RECORD_UNREADABLE", type := (.object "com/example/seriestrace/seriestrace/check/Rule"), accessFlags := 25, slot := 0, constantValue := 0 }]
  methods := #[k5m0, k5m1]
  instanceTypes := #[(.object "java/lang/String"), (.object "com/example/seriestrace/seriestrace/check/Severity")]
  staticTypes := #[(.object "com/example/seriestrace/seriestrace/check/Rule")]
  resolved := Array.replicate 80 none
  statics := some 0 }

def pool6 : Array CpInfo := pool [(1, .class_ 2), (0, u "java/io/Serializable"), (0, .class_ 4), (0, u "java/lang/Object")] 2

/-- java/io/Serializable -/
def k6 : Class := { plain "java/io/Serializable" (some 0) with
  accessFlags := 1537
  interfaces := #[]
  cf := some (fileOf pool6 1 #[] #[] 1537 3 #[] #[])
  fields := #[]
  methods := #[]
  instanceTypes := #[]
  staticTypes := #[]
  resolved := Array.replicate 7 none
  statics := none }

def pool7 : Array CpInfo := pool [(1, .class_ 2), (0, u "java/lang/Comparable"), (0, .class_ 4), (0, u "java/lang/Object")] 7

/-- java/lang/Comparable -/
def k7 : Class := { plain "java/lang/Comparable" (some 0) with
  accessFlags := 1537
  interfaces := #[]
  cf := some (fileOf pool7 1 #[] #[] 1537 3 #[] #[])
  fields := #[]
  methods := #[]
  instanceTypes := #[]
  staticTypes := #[]
  resolved := Array.replicate 12 none
  statics := none }

def pool8 : Array CpInfo := pool [(2, .class_ 4), (1, u "java/lang/CharSequence"), (42, .class_ 48), (0, u "java/lang/CharSequence$1CodePointIterator"), (10, .class_ 60), (0, u "java/lang/CharSequence$1CharIterator"), (5, .class_ 67), (0, u "java/lang/Object")] 63

/-- java/lang/CharSequence -/
def k8 : Class := { plain "java/lang/CharSequence" (some 0) with
  accessFlags := 1537
  interfaces := #[]
  cf := some (fileOf pool8 2 #[.nestMembers #[47, 59]] #[] 1537 66 #[] #[])
  fields := #[]
  methods := #[]
  instanceTypes := #[]
  staticTypes := #[]
  resolved := Array.replicate 131 none
  statics := none }

def pool9 : Array CpInfo := pool [(1, .class_ 2), (0, u "java/lang/constant/Constable"), (0, .class_ 4), (0, u "java/lang/Object")] 6

/-- java/lang/constant/Constable -/
def k9 : Class := { plain "java/lang/constant/Constable" (some 0) with
  accessFlags := 1537
  interfaces := #[]
  cf := some (fileOf pool9 1 #[] #[] 1537 3 #[] #[])
  fields := #[]
  methods := #[]
  instanceTypes := #[]
  staticTypes := #[]
  resolved := Array.replicate 11 none
  statics := none }

def pool10 : Array CpInfo := pool [(1, .class_ 2), (0, u "java/lang/constant/ConstantDesc"), (0, .class_ 4), (0, u "java/lang/Object")] 32

/-- java/lang/constant/ConstantDesc -/
def k10 : Class := { plain "java/lang/constant/ConstantDesc" (some 0) with
  accessFlags := 1537
  interfaces := #[]
  cf := some (fileOf pool10 1 #[] #[] 1537 3 #[] #[])
  fields := #[]
  methods := #[]
  instanceTypes := #[]
  staticTypes := #[]
  resolved := Array.replicate 37 none
  statics := none }

def pool11 : Array CpInfo := pool [(2, .class_ 4), (1, u "java/lang/Object"), (0, u "<init>"), (0, u "()V"), (3, .class_ 12), (1, u "java/lang/String"), (0, u "value"), (0, u "[B"), (2, u "coder"), (0, u "B"), (2, u "hash"), (0, u "I"), (2, u "hashIsZero"), (0, u "Z"), (13, u "COMPACT_STRINGS"), (534, .class_ 576), (0, u "java/lang/CharSequence"), (22, u "CASE_INSENSITIVE_ORDER"), (0, u "Ljava/util/Comparator;"), (500, u "serialPersistentFields"), (0, u "[Ljava/io/ObjectStreamField;"), (0, .class_ 1104), (0, u "java/lang/String$CaseInsensitiveComparator"), (1, .class_ 1107), (0, u "java/io/Serializable"), (0, .class_ 1109), (0, u "java/lang/Comparable"), (0, .class_ 1111), (0, u "java/lang/constant/Constable"), (0, .class_ 1113), (0, u "java/lang/constant/ConstantDesc"), (2, u "serialVersionUID"), (0, u "J"), (3, u "REPL"), (0, u "C"), (2, u "LATIN1"), (1, u "UTF16")] 323

def k11m0 : Method := { name := "<init>", desc := "()V", sig := { parameters := [], returnType := none }, accessFlags := 1, code := none }
/-- java/lang/String -/
def k11 : Class := { plain "java/lang/String" (some 0) with
  accessFlags := 49
  interfaces := #[6, 7, 8, 9, 10]
  cf := some (fileOf pool11 10 #[.nestMembers #[1103]] #[{ accessFlags := 1, nameIndex := 5, descriptorIndex := 6, attributes := #[] }] 49 2 #[1106, 1108, 575, 1110, 1112] #[{ accessFlags := 18, nameIndex := 13, descriptorIndex := 14, attributes := #[] }, { accessFlags := 18, nameIndex := 17, descriptorIndex := 18, attributes := #[] }, { accessFlags := 2, nameIndex := 21, descriptorIndex := 22, attributes := #[] }, { accessFlags := 2, nameIndex := 25, descriptorIndex := 26, attributes := #[] }, { accessFlags := 26, nameIndex := 1116, descriptorIndex := 1117, attributes := #[] }, { accessFlags := 24, nameIndex := 40, descriptorIndex := 26, attributes := #[] }, { accessFlags := 26, nameIndex := 1101, descriptorIndex := 1102, attributes := #[] }, { accessFlags := 26, nameIndex := 1121, descriptorIndex := 1122, attributes := #[] }, { accessFlags := 25, nameIndex := 599, descriptorIndex := 600, attributes := #[] }, { accessFlags := 24, nameIndex := 1125, descriptorIndex := 18, attributes := #[] }, { accessFlags := 24, nameIndex := 1127, descriptorIndex := 18, attributes := #[] }])
  fields := #[{ name := "value", type := (.array .byte), accessFlags := 18, slot := 0, constantValue := 0 }, { name := "coder", type := .byte, accessFlags := 18, slot := 1, constantValue := 0 }, { name := "hash", type := .int, accessFlags := 2, slot := 2, constantValue := 0 }, { name := "hashIsZero", type := .boolean, accessFlags := 2, slot := 3, constantValue := 0 }, { name := "serialVersionUID", type := .long, accessFlags := 26, slot := 0, constantValue := 0 }, { name := "COMPACT_STRINGS", type := .boolean, accessFlags := 24, slot := 1, constantValue := 0 }, { name := "serialPersistentFields", type := (.array (.object "java/io/ObjectStreamField")), accessFlags := 26, slot := 2, constantValue := 0 }, { name := "REPL", type := .char, accessFlags := 26, slot := 3, constantValue := 0 }, { name := "CASE_INSENSITIVE_ORDER", type := (.object "java/util/Comparator"), accessFlags := 25, slot := 4, constantValue := 0 }, { name := "LATIN1", type := .byte, accessFlags := 24, slot := 5, constantValue := 0 }, { name := "UTF16", type := .byte, accessFlags := 24, slot := 6, constantValue := 0 }]
  methods := #[k11m0]
  instanceTypes := #[(.array .byte), .byte, .int, .boolean]
  staticTypes := #[.long, .boolean, (.array (.object "java/io/ObjectStreamField")), .char, (.object "java/util/Comparator"), .byte, .byte]
  resolved := Array.replicate 1451 none
  statics := none }

def pool12 : Array CpInfo := pool [(2, .class_ 4), (1, u "java/lang/Object"), (0, u "<init>"), (0, u "()V"), (35, .class_ 44), (1, u "java/util/Objects"), (0, u "requireNonNull"), (48, u "(Ljava/lang/Object;Ljava/lang/String;)Ljava/lang/Object;")] 89

def k12m0 : Method := { name := "<init>", desc := "()V", sig := { parameters := [], returnType := none }, accessFlags := 2, code := none }
def k12c1 : Code := { maxStack := 3, maxLocals := 2, code := jdk_31_method_11_code, exceptionTable := #[], attributes := #[] }
def k12m1 : Method := { name := "requireNonNull", desc := "(Ljava/lang/Object;Ljava/lang/String;)Ljava/lang/Object;", sig := { parameters := [(.object "java/lang/Object"), (.object "java/lang/String")], returnType := some (.object "java/lang/Object") }, accessFlags := 9, code := some k12c1 }
/-- java/util/Objects -/
def k12 : Class := { plain "java/util/Objects" (some 0) with
  accessFlags := 49
  interfaces := #[]
  cf := some (fileOf pool12 42 #[] #[{ accessFlags := 2, nameIndex := 5, descriptorIndex := 6, attributes := #[] }, { accessFlags := 9, nameIndex := 45, descriptorIndex := 94, attributes := #[] }] 49 2 #[] #[])
  fields := #[]
  methods := #[k12m0, k12m1]
  instanceTypes := #[]
  staticTypes := #[]
  resolved := Array.replicate 184 none
  statics := none }

def pool13 : Array CpInfo := pool [(2, .class_ 4), (1, u "java/lang/Enum"), (0, u "name"), (0, u "Ljava/lang/String;"), (2, u "ordinal"), (0, u "I"), (1, .class_ 14), (1, u "java/lang/Object"), (4, u "hash"), (86, .class_ 108), (1, u "java/lang/Enum$EnumDesc"), (2, .class_ 112), (0, u "java/lang/constant/Constable"), (0, .class_ 114), (0, u "java/lang/Comparable"), (0, .class_ 116), (0, u "java/io/Serializable")] 87

/-- java/lang/Enum -/
def k13 : Class := { plain "java/lang/Enum" (some 0) with
  accessFlags := 1057
  interfaces := #[9, 7, 6]
  cf := some (fileOf pool13 2 #[.nestMembers #[106]] #[] 1057 12 #[111, 113, 115] #[{ accessFlags := 18, nameIndex := 5, descriptorIndex := 6, attributes := #[] }, { accessFlags := 18, nameIndex := 9, descriptorIndex := 10, attributes := #[] }, { accessFlags := 2, nameIndex := 19, descriptorIndex := 10, attributes := #[] }])
  fields := #[{ name := "name", type := (.object "java/lang/String"), accessFlags := 18, slot := 0, constantValue := 0 }, { name := "ordinal", type := .int, accessFlags := 18, slot := 1, constantValue := 0 }, { name := "hash", type := .int, accessFlags := 2, slot := 2, constantValue := 0 }]
  methods := #[]
  instanceTypes := #[(.object "java/lang/String"), .int, .int]
  staticTypes := #[]
  resolved := Array.replicate 204 none
  statics := none }

def pool14 : Array CpInfo := pool [(1, .class_ 2), (0, u "com/example/seriestrace/seriestrace/check/Severity"), (2, u "ERROR"), (0, u "Lcom/example/seriestrace/seriestrace/check/Severity;"), (2, u "WARNING"), (2, u "$VALUES"), (0, u "[Lcom/example/seriestrace/seriestrace/check/Severity;"), (6, .class_ 22), (1, u "java/lang/Enum")] 41

/-- com/example/seriestrace/seriestrace/check/Severity -/
def k14 : Class := { plain "com/example/seriestrace/seriestrace/check/Severity" (some 13) with
  accessFlags := 16433
  interfaces := #[]
  cf := some (fileOf pool14 1 #[] #[] 16433 20 #[] #[{ accessFlags := 16409, nameIndex := 5, descriptorIndex := 6, attributes := #[] }, { accessFlags := 16409, nameIndex := 9, descriptorIndex := 6, attributes := #[] }, { accessFlags := 4122, nameIndex := 12, descriptorIndex := 13, attributes := #[] }])
  fields := #[{ name := "ERROR", type := (.object "com/example/seriestrace/seriestrace/check/Severity"), accessFlags := 16409, slot := 0, constantValue := 0 }, { name := "WARNING", type := (.object "com/example/seriestrace/seriestrace/check/Severity"), accessFlags := 16409, slot := 1, constantValue := 0 }, { name := "$VALUES", type := (.array (.object "com/example/seriestrace/seriestrace/check/Severity")), accessFlags := 4122, slot := 2, constantValue := 0 }]
  methods := #[]
  instanceTypes := #[(.object "java/lang/String"), .int, .int]
  staticTypes := #[(.object "com/example/seriestrace/seriestrace/check/Severity"), (.object "com/example/seriestrace/seriestrace/check/Severity"), (.array (.object "com/example/seriestrace/seriestrace/check/Severity"))]
  resolved := Array.replicate 64 none
  statics := some 1 }

def pool15 : Array CpInfo := pool [(1, u "java/lang/Cloneable"), (0, .class_ 1), (0, u "java/lang/Object"), (0, .class_ 3)] 3

/-- java/lang/Cloneable -/
def k15 : Class := { plain "java/lang/Cloneable" (some 0) with
  accessFlags := 1537
  interfaces := #[]
  cf := some (fileOf pool15 2 #[] #[] 1537 4 #[] #[])
  fields := #[]
  methods := #[]
  instanceTypes := #[]
  staticTypes := #[]
  resolved := Array.replicate 8 none
  statics := none }

/-- the primitive byte -/
def k16 : Class := { plain "byte" none with kind := .primitive 'B', accessFlags := 0x411 }
/-- [B -/
def k17 : Class := { plain "[B" (some 0) with kind := .array 16 .byte, interfaces := #[15, 6], accessFlags := 1041 }

/-- the primitive int -/
def k18 : Class := { plain "int" none with kind := .primitive 'I', accessFlags := 0x411 }
/-- [I -/
def k19 : Class := { plain "[I" (some 0) with kind := .array 18 .int, interfaces := #[15, 6], accessFlags := 1041 }

def heap : Heap := #[{ cls := 5, slots := #[.ref 4], vm := .statics 5 },
  { cls := 14, slots := #[.ref 3, .ref 2, .null], vm := .statics 14 },
  { cls := 14, slots := #[.null, .int 1, .int 0], vm := .none },
  { cls := 14, slots := #[.null, .int 0, .int 0], vm := .none },
  { cls := 5, slots := #[.null, .ref 3], vm := .none }]
def classes : Array Class := #[k0, k1, k2, k3, k4, k5, k6, k7, k8, k9, k10, k11, k12, k13, k14, k15, k16, k17, k18, k19]
def interned : List (Array UInt16 × Addr) := []
def slotsUsed : Nat := 12
def theMethod : MethodId := ⟨1, 1⟩
def args0 : Array Value := #[.int 5, .int 5, .int 5]
def aboutOver (below : List Frame) : State where
  vm := { classes := classes, interned := interned.toArray }
  heap := heap
  slotsUsed := slotsUsed
  threads := #[{ frames := .invoking theMethod args0 :: below }]
def below0 : List Frame := [.native { method := ⟨0, 0⟩, args := #[] }]
def about1 : State := aboutOver below0
def p0 : Program := .bare "" "" ""
def e0 : Env := launch0.env 0 0 0
theorem w_frames : about1.frames = Frame.invoking theMethod args0 :: below0 := rfl
set_option maxRecDepth 65536 in
theorem w_args : argsFit about1.vm theMethod args0 = true := by decide +kernel
set_option maxRecDepth 65536 in
theorem w_heap : heapFits about1 = true := by decide +kernel
set_option maxRecDepth 65536 in
theorem w_runnable : about1.curStatus? = some .runnable := by decide +kernel
set_option maxRecDepth 65536 in
theorem w_alone : about1.alone = true := by decide +kernel
set_option maxRecDepth 65536 in
theorem w_named : about1.methodNamed? x = some theMethod := by decide +kernel
set_option maxRecDepth 65536 in
theorem w_hears : about1.hears theMethod below0 = true := by decide +kernel
set_option maxRecDepth 65536 in
theorem w_ripe : about1.ripe theMethod args0 below0 = true := by decide +kernel
theorem w_running : about1.status = .running := rfl
set_option maxRecDepth 65536 in
theorem w_room : about1.hasRoom e0.platform room_1 = true :=
  launch0.hasRoom_least _ room_1 (by decide +kernel) (by decide +kernel) (by decide +kernel) (by decide +kernel) (by decide +kernel) (by decide +kernel)
theorem allAtoms_all (ts : List Jvm.Cond) (a : Array Jvm.Value) (st : Jvm.State) : (allAtoms ts).before a st = ts.all (fun c => c.before a st) := by
  induction ts with
  | nil => rfl
  | cons c t ih =>
    show (Jvm.Cond.and c (allAtoms t)).before a st = _
    rw [Jvm.Cond.before_and, ih, List.all_cons]
def words1 : List Jvm.Cond := Jvm.Cond.code x code maxLocals ret :: tables_1
/-- a 'code' word, met by the world's own term for the bytes: nothing is compared byte by byte -/
theorem code_word {y : MethodName} {bytes : ByteArray} {mx : Nat} {rt : Option FieldType} {a : Array Value} {s : State} {m : MethodId} {meth : Method} {c : Code} (h1 : s.methodNamed? y = some m) (h2 : s.vm.method? m = some meth) (h3 : meth.code = some c) (h4 : c.code = bytes)
    (h5 : (c.maxLocals == mx && c.exceptionTable.isEmpty && decide (c.maxStack ≤ mostOperands) && decide (meth.sig.returnType = rt) && !meth.locks && decide (parseMethodDescriptor y.desc = some meth.sig)) = true) : (Jvm.Cond.code y bytes mx rt).before a s = true := by
  simp only [Bool.and_eq_true, beq_iff_eq, Bool.not_eq_true', decide_eq_true_eq] at h5
  obtain ⟨⟨⟨⟨⟨g1, g2⟩, g3⟩, g4⟩, g5⟩, g6⟩ := h5
  simp [Cond.before, Cond.holds, Cond.value, h1, h2, h3, h4, g1, g2, g3, g4, g5, g6]
def isCode : Jvm.Cond → Bool
  | .code _ _ _ _ => true
  | _ => false
theorem all_split {L : List Jvm.Cond} {P : Jvm.Cond → Bool} (h1 : L.all (fun c => isCode c || P c) = true) (h2 : ∀ c ∈ L.filter isCode, P c = true) : L.all P = true := by
  refine List.all_eq_true.mpr fun c hc => ?_
  have h := List.all_eq_true.mp h1 c hc
  rcases Bool.eq_false_or_eq_true (isCode c) with hi | hi
  · exact h2 c (List.mem_filter.mpr ⟨hc, hi⟩)
  · simpa [hi] using h
set_option maxRecDepth 65536 in
theorem w_c0 : (Jvm.Cond.code x code maxLocals ret).before args0 about1 = true := code_word (m := ⟨1, 1⟩) (meth := k1m1) (c := k1c1) (by decide +kernel) rfl rfl rfl (by decide +kernel)
set_option maxRecDepth 65536 in
theorem w_c1 : (Jvm.Cond.code ({ cls := "com/example/seriestrace/seriestrace/cli/Summary", name := "<init>", desc := "()V" } : Jvm.MethodName) prog_29_method_1_code (1 : Nat) (Option.none : Option Jvm.ClassFile.FieldType)).before args0 about1 = true := code_word (m := ⟨2, 0⟩) (meth := k2m0) (c := k2c0) (by decide +kernel) rfl rfl rfl (by decide +kernel)
set_option maxRecDepth 65536 in
theorem w_c2 : (Jvm.Cond.code ({ cls := "java/lang/Object", name := "<init>", desc := "()V" } : Jvm.MethodName) object_method_1_code (1 : Nat) (Option.none : Option Jvm.ClassFile.FieldType)).before args0 about1 = true := code_word (m := ⟨0, 0⟩) (meth := k0m0) (c := k0c0) (by decide +kernel) rfl rfl rfl (by decide +kernel)
set_option maxRecDepth 65536 in
theorem w_c3 : (Jvm.Cond.code ({ cls := "com/example/seriestrace/seriestrace/check/Finding", name := "<init>", desc := "(Lcom/example/seriestrace/seriestrace/check/Rule;Lcom/example/seriestrace/seriestrace/check/FieldRef;Ljava/lang/String;)V" } : Jvm.MethodName) prog_12_method_2_code (4 : Nat) (Option.none : Option Jvm.ClassFile.FieldType)).before args0 about1 = true := code_word (m := ⟨4, 1⟩) (meth := k4m1) (c := k4c1) (by decide +kernel) rfl rfl rfl (by decide +kernel)
set_option maxRecDepth 65536 in
theorem w_c4 : (Jvm.Cond.code ({ cls := "com/example/seriestrace/seriestrace/check/Finding", name := "<init>", desc := "(Lcom/example/seriestrace/seriestrace/check/Rule;Lcom/example/seriestrace/seriestrace/check/FieldRef;Ljava/lang/String;Lcom/example/seriestrace/seriestrace/marc/DataField;)V" } : Jvm.MethodName) prog_12_method_1_code (5 : Nat) (Option.none : Option Jvm.ClassFile.FieldType)).before args0 about1 = true := code_word (m := ⟨4, 0⟩) (meth := k4m0) (c := k4c0) (by decide +kernel) rfl rfl rfl (by decide +kernel)
set_option maxRecDepth 65536 in
theorem w_c5 : (Jvm.Cond.code ({ cls := "java/lang/Record", name := "<init>", desc := "()V" } : Jvm.MethodName) jdk_30_method_1_code (1 : Nat) (Option.none : Option Jvm.ClassFile.FieldType)).before args0 about1 = true := code_word (m := ⟨3, 0⟩) (meth := k3m0) (c := k3c0) (by decide +kernel) rfl rfl rfl (by decide +kernel)
set_option maxRecDepth 65536 in
theorem w_c6 : (Jvm.Cond.code ({ cls := "java/util/Objects", name := "requireNonNull", desc := "(Ljava/lang/Object;Ljava/lang/String;)Ljava/lang/Object;" } : Jvm.MethodName) jdk_31_method_11_code (2 : Nat) (Option.some (Jvm.ClassFile.FieldType.object "java/lang/Object"))).before args0 about1 = true := code_word (m := ⟨12, 1⟩) (meth := k12m1) (c := k12c1) (by decide +kernel) rfl rfl rfl (by decide +kernel)
set_option maxRecDepth 65536 in
theorem w_c7 : (Jvm.Cond.code ({ cls := "com/example/seriestrace/seriestrace/check/Rule", name := "<init>", desc := "(Ljava/lang/String;Lcom/example/seriestrace/seriestrace/check/Severity;)V" } : Jvm.MethodName) prog_16_method_1_code (3 : Nat) (Option.none : Option Jvm.ClassFile.FieldType)).before args0 about1 = true := code_word (m := ⟨5, 0⟩) (meth := k5m0) (c := k5c0) (by decide +kernel) rfl rfl rfl (by decide +kernel)
set_option maxRecDepth 65536 in
theorem w_c8 : (Jvm.Cond.code ({ cls := "com/example/seriestrace/seriestrace/cli/Summary", name := "exitStatus", desc := "()I" } : Jvm.MethodName) prog_29_method_5_code (1 : Nat) (Option.some Jvm.ClassFile.FieldType.int)).before args0 about1 = true := code_word (m := ⟨2, 3⟩) (meth := k2m3) (c := k2c3) (by decide +kernel) rfl rfl rfl (by decide +kernel)
set_option maxRecDepth 65536 in
theorem w_c9 : (Jvm.Cond.code ({ cls := "com/example/seriestrace/seriestrace/cli/Summary", name := "addFinding", desc := "(Lcom/example/seriestrace/seriestrace/check/Finding;)V" } : Jvm.MethodName) prog_29_method_4_code (2 : Nat) (Option.none : Option Jvm.ClassFile.FieldType)).before args0 about1 = true := code_word (m := ⟨2, 2⟩) (meth := k2m2) (c := k2c2) (by decide +kernel) rfl rfl rfl (by decide +kernel)
set_option maxRecDepth 65536 in
theorem w_c10 : (Jvm.Cond.code ({ cls := "com/example/seriestrace/seriestrace/check/Finding", name := "severity", desc := "()Lcom/example/seriestrace/seriestrace/check/Severity;" } : Jvm.MethodName) prog_12_method_3_code (1 : Nat) (Option.some (Jvm.ClassFile.FieldType.object "com/example/seriestrace/seriestrace/check/Severity"))).before args0 about1 = true := code_word (m := ⟨4, 2⟩) (meth := k4m2) (c := k4c2) (by decide +kernel) rfl rfl rfl (by decide +kernel)
set_option maxRecDepth 65536 in
theorem w_c11 : (Jvm.Cond.code ({ cls := "com/example/seriestrace/seriestrace/check/Rule", name := "severity", desc := "()Lcom/example/seriestrace/seriestrace/check/Severity;" } : Jvm.MethodName) prog_16_method_6_code (1 : Nat) (Option.some (Jvm.ClassFile.FieldType.object "com/example/seriestrace/seriestrace/check/Severity"))).before args0 about1 = true := code_word (m := ⟨5, 1⟩) (meth := k5m1) (c := k5c1) (by decide +kernel) rfl rfl rfl (by decide +kernel)
set_option maxRecDepth 65536 in
theorem w_c12 : (Jvm.Cond.code ({ cls := "com/example/seriestrace/seriestrace/cli/Summary", name := "addUnreadable", desc := "()V" } : Jvm.MethodName) prog_29_method_3_code (1 : Nat) (Option.none : Option Jvm.ClassFile.FieldType)).before args0 about1 = true := code_word (m := ⟨2, 1⟩) (meth := k2m1) (c := k2c1) (by decide +kernel) rfl rfl rfl (by decide +kernel)
def codes1 : List Jvm.Cond := [Jvm.Cond.code x code maxLocals ret, Jvm.Cond.code ({ cls := "com/example/seriestrace/seriestrace/cli/Summary", name := "<init>", desc := "()V" } : Jvm.MethodName) prog_29_method_1_code (1 : Nat) (Option.none : Option Jvm.ClassFile.FieldType), Jvm.Cond.code ({ cls := "java/lang/Object", name := "<init>", desc := "()V" } : Jvm.MethodName) object_method_1_code (1 : Nat) (Option.none : Option Jvm.ClassFile.FieldType), Jvm.Cond.code ({ cls := "com/example/seriestrace/seriestrace/check/Finding", name := "<init>", desc := "(Lcom/example/seriestrace/seriestrace/check/Rule;Lcom/example/seriestrace/seriestrace/check/FieldRef;Ljava/lang/String;)V" } : Jvm.MethodName) prog_12_method_2_code (4 : Nat) (Option.none : Option Jvm.ClassFile.FieldType), Jvm.Cond.code ({ cls := "com/example/seriestrace/seriestrace/check/Finding", name := "<init>", desc := "(Lcom/example/seriestrace/seriestrace/check/Rule;Lcom/example/seriestrace/seriestrace/check/FieldRef;Ljava/lang/String;Lcom/example/seriestrace/seriestrace/marc/DataField;)V" } : Jvm.MethodName) prog_12_method_1_code (5 : Nat) (Option.none : Option Jvm.ClassFile.FieldType), Jvm.Cond.code ({ cls := "java/lang/Record", name := "<init>", desc := "()V" } : Jvm.MethodName) jdk_30_method_1_code (1 : Nat) (Option.none : Option Jvm.ClassFile.FieldType), Jvm.Cond.code ({ cls := "java/util/Objects", name := "requireNonNull", desc := "(Ljava/lang/Object;Ljava/lang/String;)Ljava/lang/Object;" } : Jvm.MethodName) jdk_31_method_11_code (2 : Nat) (Option.some (Jvm.ClassFile.FieldType.object "java/lang/Object")), Jvm.Cond.code ({ cls := "com/example/seriestrace/seriestrace/check/Rule", name := "<init>", desc := "(Ljava/lang/String;Lcom/example/seriestrace/seriestrace/check/Severity;)V" } : Jvm.MethodName) prog_16_method_1_code (3 : Nat) (Option.none : Option Jvm.ClassFile.FieldType), Jvm.Cond.code ({ cls := "com/example/seriestrace/seriestrace/cli/Summary", name := "exitStatus", desc := "()I" } : Jvm.MethodName) prog_29_method_5_code (1 : Nat) (Option.some Jvm.ClassFile.FieldType.int), Jvm.Cond.code ({ cls := "com/example/seriestrace/seriestrace/cli/Summary", name := "addFinding", desc := "(Lcom/example/seriestrace/seriestrace/check/Finding;)V" } : Jvm.MethodName) prog_29_method_4_code (2 : Nat) (Option.none : Option Jvm.ClassFile.FieldType), Jvm.Cond.code ({ cls := "com/example/seriestrace/seriestrace/check/Finding", name := "severity", desc := "()Lcom/example/seriestrace/seriestrace/check/Severity;" } : Jvm.MethodName) prog_12_method_3_code (1 : Nat) (Option.some (Jvm.ClassFile.FieldType.object "com/example/seriestrace/seriestrace/check/Severity")), Jvm.Cond.code ({ cls := "com/example/seriestrace/seriestrace/check/Rule", name := "severity", desc := "()Lcom/example/seriestrace/seriestrace/check/Severity;" } : Jvm.MethodName) prog_16_method_6_code (1 : Nat) (Option.some (Jvm.ClassFile.FieldType.object "com/example/seriestrace/seriestrace/check/Severity")), Jvm.Cond.code ({ cls := "com/example/seriestrace/seriestrace/cli/Summary", name := "addUnreadable", desc := "()V" } : Jvm.MethodName) prog_29_method_3_code (1 : Nat) (Option.none : Option Jvm.ClassFile.FieldType)]
set_option maxRecDepth 65536 in
theorem codes_eq : words1.filter isCode = codes1 := rfl
theorem w_codes : ∀ c ∈ words1.filter isCode, c.before args0 about1 = true := by
  rw [codes_eq]
  intro c hc
  simp only [codes1, List.mem_cons, List.not_mem_nil, or_false] at hc
  rcases hc with rfl | rfl | rfl | rfl | rfl | rfl | rfl | rfl | rfl | rfl | rfl | rfl | rfl
  · exact w_c0
  · exact w_c1
  · exact w_c2
  · exact w_c3
  · exact w_c4
  · exact w_c5
  · exact w_c6
  · exact w_c7
  · exact w_c8
  · exact w_c9
  · exact w_c10
  · exact w_c11
  · exact w_c12
set_option maxRecDepth 65536 in
theorem w_t1 : (words1.take 24).all (fun c => isCode c || c.before args0 about1) = true := by decide +kernel
set_option maxRecDepth 65536 in
theorem w_t2 : ((words1.drop 24).take 24).all (fun c => isCode c || c.before args0 about1) = true := by decide +kernel
set_option maxRecDepth 65536 in
theorem w_t3 : (((words1.drop 24).drop 24).take 24).all (fun c => isCode c || c.before args0 about1) = true := by decide +kernel
set_option maxRecDepth 65536 in
theorem w_t4 : ((((words1.drop 24).drop 24).drop 24).take 24).all (fun c => isCode c || c.before args0 about1) = true := by decide +kernel
set_option maxRecDepth 65536 in
theorem w_t5 : ((((words1.drop 24).drop 24).drop 24).drop 24).all (fun c => isCode c || c.before args0 about1) = true := by decide +kernel
theorem w_tables : (allAtoms (Jvm.Cond.code x code maxLocals ret :: tables_1)).before args0 about1 = true := by
  rw [allAtoms_all]
  show words1.all (fun c => c.before args0 about1) = true
  refine all_split ?_ w_codes
  rw [← List.take_append_drop 24 words1, List.all_append, w_t1, ← List.take_append_drop 24 (words1.drop 24), List.all_append, w_t2, ← List.take_append_drop 24 ((words1.drop 24).drop 24), List.all_append, w_t3, ← List.take_append_drop 24 (((words1.drop 24).drop 24).drop 24), List.all_append, w_t4, w_t5]
  rfl
set_option maxRecDepth 65536 in
theorem w_case : (Jvm.Cond.and given_1 narrow_1).before args0 about1 = true := by decide +kernel
theorem w_applies : (headSpec (Jvm.Cond.code x code maxLocals ret :: tables_1) room_1).applies x e0.platform about1 = true :=
  (Spec.applies_iff w_frames).mpr ⟨w_running, w_runnable, w_alone, w_named, w_hears, w_ripe, w_room, w_tables⟩
theorem atStart : AtStart classFile x code maxLocals ret World_1 tables_1 room_1 Calls_1 rest_1 Pre_1 launch0 p0 e0 about1 theMethod args0 below0 :=
  ⟨lists_1, trivial, launch0.admits_env _ _ _, launch0.least_env, fairChoices_fair.cas, fairChoices_fair.clock, w_frames, w_args, w_heap, w_applies, trivial, trivial, w_case⟩
end start1
theorem witness_1 : WitnessClaimed_1 := ⟨start1.p0, start1.e0, start1.about1, start1.theMethod, start1.args0, start1.below0, start1.atStart⟩
end Jvm.Pilot.@@N@@
