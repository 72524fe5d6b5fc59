import JvmDerived
import JvmDerived.Pilot.@@N@@Statement
import JvmDerived.Pilot.@@N@@Code
set_option linter.unusedVariables false
set_option linter.unusedSimpArgs false
namespace Jvm.Pilot.@@N@@
open Jvm Jvm.ClassFile Sem Op Lib Jvm.Free Jvm.Stand Jvm.LawKit Jvm.RoadKit Bundle Jvm.Pilot.@@N@@.Jvm.D
-- BY HAND: shifts as BitVec's
theorem own_lshl (x : Int64) (q : Int32) (k : Nat) (hk : q.toBitVec.toNat % 64 = k) : (x <<< (q &&& 0x3f).toInt64).toBitVec = x.toBitVec <<< k := by
  show x.toBitVec <<< ((q &&& 0x3f).toInt64.toBitVec.smod 64) = _
  rw [BitVec.shiftLeft_eq', (sm64 q k hk).1, smod64 k (sm64 q k hk).2]
theorem own_lushr (x : Int64) (q : Int32) (k : Nat) (hk : q.toBitVec.toNat % 64 = k) : ((x.toUInt64 >>> (q &&& 0x3f).toInt64.toUInt64).toInt64).toBitVec = x.toBitVec >>> k := by
  have h5 := (sm64 q k hk).2
  show x.toBitVec >>> ((q &&& 0x3f).toInt64.toBitVec % 64) = _
  rw [BitVec.ushiftRight_eq', BitVec.toNat_umod, (sm64 q k hk).1, BitVec.toNat_ofNat]
  congr 1
  show k % 2 ^ 64 % 64 = k
  omega
theorem own_iushr (x q : Int32) (k : Nat) (hk : q.toBitVec.toNat % 32 = k) : ((x.toUInt32 >>> (q &&& 31).toUInt32).toInt32).toBitVec = x.toBitVec >>> k := by
  have h1 : (q &&& 31).toBitVec.toNat = k := by
    show (q.toBitVec &&& (31 : Int32).toBitVec).toNat = _
    rw [BitVec.toNat_and, show (31 : Int32).toBitVec.toNat = 2 ^ 5 - 1 from by decide, Nat.and_two_pow_sub_one_eq_mod]; exact hk
  show x.toBitVec >>> ((q &&& 31).toBitVec % 32) = _
  rw [BitVec.ushiftRight_eq', BitVec.toNat_umod, h1]
  congr 1
  exact Nat.mod_eq_of_lt (by show k < 32; omega)
theorem ef_1 (m : MethodId) (x0 : Addr) (x1 : Int64) : entryFrame m #[(.ref x0), (.long x1)] 3 = mkF m 0 #[.val (.ref x0), .val (.long x1), .second] [] := by first | (simp [entryFrame, mkF, argsToLocals, Value.category]; done) | rfl
theorem pn_0 : plainName "com/example/moonclaim/moonclaim/engine/Rng" = true := by first | (simp [plainName, overriddenIn]; done) | decide +kernel
theorem d1_0 : decode prog_13_method_1_code 0 = .ok (.aload_n 0, 1) := by decide +kernel
theorem d1_1 : decode prog_13_method_1_code 1 = .ok (.invokespecial 1, 3) := by decide +kernel
theorem d1_4 : decode prog_13_method_1_code 4 = .ok (.aload_n 0, 1) := by decide +kernel
theorem d1_5 : decode prog_13_method_1_code 5 = .ok (.lload_n 1, 1) := by decide +kernel
theorem d1_6 : decode prog_13_method_1_code 6 = .ok (.putfield 7, 3) := by decide +kernel
theorem d1_9 : decode prog_13_method_1_code 9 = .ok (.return_, 1) := by decide +kernel
def Q1 (Z : State) (o0 : Addr) (q1 : Int64) (u : Value) (h0 : Heap) (n0 : Nat) (v : Option Value) (h : Heap) (L : List Loc) : Prop := v = none ∧ Fr n0 L ∧ Keep h0 h [o0] ∧ Fld Z h o0 "com/example/moonclaim/moonclaim/engine/Rng" "state" "J" (.long q1)
set_option maxRecDepth 65536 in
set_option maxHeartbeats 40000000 in
theorem rm1 (l : Launch) (Z : State) (a0 : Array Value) (hw : ∀ d ∈ tables_1, d.before a0 Z = true) (ws : List Jvm.Cond) (o0 : Addr) (q1 : Int64) (u : Value) (h0 : Heap) (n0 : Nat) (Z0 : n0 ≤ h0.size) (F1 : Fld Z h0 o0 "com/example/moonclaim/moonclaim/engine/Rng" "state" "J" u) (E1 : Exa Z h0 o0 "com/example/moonclaim/moonclaim/engine/Rng") (g1 : n0 ≤ o0) :
    MetFree l (⟨"com/example/moonclaim/moonclaim/engine/Rng", "<init>", "(J)V"⟩ : MethodName) (head1 (Jvm.Cond.code (⟨"com/example/moonclaim/moonclaim/engine/Rng", "<init>", "(J)V"⟩ : MethodName) prog_13_method_1_code 3 none :: ws) ({ frames := 1, cells := 0, slots := 0, locals := 12 } : Room)) (fun a U => a = #[(.ref o0), (.long q1)] ∧ Z.Warmed39 U.vm ∧ U.heap = h0) (fun _ _ _ _ _ => True) (fun _ U o U' => ∃ v L, o = .returned v ∧ Q1 Z o0 q1 u h0 n0 v U'.heap L ∧ FrameEnd U o U' L ({ frames := 1, cells := 0, slots := 0, locals := 12 } : Room).cells ({ frames := 1, cells := 0, slots := 0, locals := 12 } : Room).slots) := by
  refine MetFree.of_bodySF (plainFor_of_name pn_0) hisR ?_
  intro p e s m args below meth c s₁ Bd hml0 hP hK
  obtain ⟨rfl, hZ, hh⟩ := hP
  have hx := Bd.exec
  have hby := Bd.bytes
  have hml : c.maxLocals = 3 := hml0
  have hown : s.vm.findClass "com/example/moonclaim/moonclaim/engine/Rng" = some m.cls := findClass_of_methodNamed Bd.named
  have hnm := (name_of_methodNamed Bd.named Bd.method).1
  have X0 : Stand p l e ({ frames := 1, cells := 0, slots := 0, locals := 12 } : Room) s m #[(.ref o0), (.long q1)] below meth c s₁ [] 0 0 := Stand.of_body Bd
  have e0 : s₁.heap = h0 := by rw [← hh, Bd.state]; rfl
  have pre0 : ∀ t, Steps p.tables e below (s₁.setTop (mkF m 0 #[.val (.ref o0), .val (.long q1), .second] [])) t → Steps p.tables e below (s₁.setTop (entryFrame m #[(.ref o0), (.long q1)] 3)) t := fun t k => castTop (ef_1 m o0 q1) k
  have N0 := Fr.nil n0
  have KP0 : Keep h0 h0 [o0] := Keep.refl _ _
  obtain ⟨T1, X1, e1, st1⟩ := initO X0 hx hZ hown (hw _ (List.mem_of_getElem? (i := 6) rfl)) (hw _ (List.mem_of_getElem? (i := 7) rfl)) (hw _ (List.mem_of_getElem? (i := 8) rfl)) e0 (g := (mkF m 1 #[.val (.ref o0), .val (.long q1), .second] [(.ref o0)])) rfl (by rw [hml]; rfl) rfl (hb hby d1_1) (by decide) (W := 0) (by show 2 * 0 + _ ≤ _; exact Nat.le_of_eq rfl) (by decide)
  obtain ⟨T2, h2, X2, e2, W2, st2⟩ := putF X1 hx hZ hown (host := "") (Or.inl (hw _ (List.mem_of_getElem? (i := 9) rfl))) Via.refl e1 F1 E1 (Or.inl (hw _ (List.mem_of_getElem? (i := 10) rfl))) (hw _ (List.mem_of_getElem? (i := 1) rfl)) (ty := .long) (by decide) rfl rfl (g := (mkF m 6 #[.val (.ref o0), .val (.long q1), .second] [(.long q1), (.ref o0)])) rfl rfl (hb hby d1_6)
  have G3 : Exa Z h2 o0 "com/example/moonclaim/moonclaim/engine/Rng" := E1.wr W2
  have G4 : Fld Z h2 o0 "com/example/moonclaim/moonclaim/engine/Rng" "state" "J" (.long q1) := F1.same W2
  have Z2 : n0 ≤ h2.size := Nat.le_trans Z0 (Keep.of_wr W2).1
  have N2 := Fr.snoc X2 N0 g1
  have KP2 : Keep h0 h2 [o0] := KP0.wr W2 (Or.inl (List.mem_of_getElem? (i := 0) rfl))
  have K5 : ∀ t, Steps p.tables e below (T2.setTop (mkF m 9 #[.val (.ref o0), .val (.long q1), .second] [])) t → Steps p.tables e below (s₁.setTop (mkF m 0 #[.val (.ref o0), .val (.long q1), .second] [])) t := by
    intro t kt
    show Steps p.tables e below (s₁.setTop (mkF m 0 #[.val (.ref o0), .val (.long q1), .second] [])) _
    refine XS.aloadN X0.here hx rfl (hb hby d1_0) rfl rfl ?_
    show Steps p.tables e below (s₁.setTop (mkF m 1 #[.val (.ref o0), .val (.long q1), .second] [(.ref o0)])) _
    refine st1 _ ?_
    show Steps p.tables e below (T1.setTop (mkF m 4 #[.val (.ref o0), .val (.long q1), .second] [])) _
    refine XS.aloadN X1.here hx rfl (hb hby d1_4) rfl rfl ?_
    show Steps p.tables e below (T1.setTop (mkF m 5 #[.val (.ref o0), .val (.long q1), .second] [(.ref o0)])) _
    refine XS.lloadN X1.here hx rfl (hb hby d1_5) rfl ?_
    show Steps p.tables e below (T1.setTop (mkF m 6 #[.val (.ref o0), .val (.long q1), .second] [(.long q1), (.ref o0)])) _
    refine st2 _ ?_
    exact kt
  obtain ⟨fs, hr, hrun, hended, hW, hsame⟩ := X2.leave (v := none) (fun _ => rfl)
  refine ⟨_, _, pre0 _ (K5 _ ?_), hrun, hended, _, _, rfl, ?_, ⟨_, rfl⟩, hW, hsame.mono (by decide) (by decide)⟩
  · show Steps p.tables e below (T2.setTop (mkF m 9 #[.val (.ref o0), .val (.long q1), .second] [])) _
    exact X2.returnOut hx Bd.returns (hb hby d1_9) hr
  · show Q1 Z o0 q1 u h0 n0 _ T2.heap _
    rw [e2]
    exact ⟨rfl, N2, KP2, G4⟩
def m0 (w : Int64) : Int64 := w + (-7046029254386353131 : Int64)
theorem ef_3 (m : MethodId) (x0 : Addr) : entryFrame m #[(.ref x0)] 3 = mkF m 0 #[.val (.ref x0), .unset, .unset] [] := by first | (simp [entryFrame, mkF, argsToLocals, Value.category]; done) | rfl
theorem d3_0 : decode prog_13_method_2_code 0 = .ok (.aload_n 0, 1) := by decide +kernel
theorem d3_1 : decode prog_13_method_2_code 1 = .ok (.dup, 1) := by decide +kernel
theorem d3_2 : decode prog_13_method_2_code 2 = .ok (.getfield 7, 3) := by decide +kernel
theorem d3_5 : decode prog_13_method_2_code 5 = .ok (.ldc2_w 13, 3) := by decide +kernel
theorem d3_8 : decode prog_13_method_2_code 8 = .ok (.ladd, 1) := by decide +kernel
theorem d3_9 : decode prog_13_method_2_code 9 = .ok (.putfield 7, 3) := by decide +kernel
theorem d3_12 : decode prog_13_method_2_code 12 = .ok (.aload_n 0, 1) := by decide +kernel
theorem d3_13 : decode prog_13_method_2_code 13 = .ok (.getfield 7, 3) := by decide +kernel
theorem d3_16 : decode prog_13_method_2_code 16 = .ok (.lstore_n 1, 1) := by decide +kernel
theorem d3_17 : decode prog_13_method_2_code 17 = .ok (.lload_n 1, 1) := by decide +kernel
theorem d3_18 : decode prog_13_method_2_code 18 = .ok (.lload_n 1, 1) := by decide +kernel
theorem d3_19 : decode prog_13_method_2_code 19 = .ok (.bipush 30, 2) := by decide +kernel
theorem d3_21 : decode prog_13_method_2_code 21 = .ok (.lushr, 1) := by decide +kernel
theorem d3_22 : decode prog_13_method_2_code 22 = .ok (.lxor, 1) := by decide +kernel
theorem d3_23 : decode prog_13_method_2_code 23 = .ok (.ldc2_w 15, 3) := by decide +kernel
theorem d3_26 : decode prog_13_method_2_code 26 = .ok (.lmul, 1) := by decide +kernel
theorem d3_27 : decode prog_13_method_2_code 27 = .ok (.lstore_n 1, 1) := by decide +kernel
def m1 (w : Int64) : Int64 := (((w + (-7046029254386353131 : Int64)) ^^^ (((w + (-7046029254386353131 : Int64)).toUInt64 >>> ((30 : Int32) &&& 0x3f).toInt64.toUInt64).toInt64)) * (-4658895280553007687 : Int64))
theorem d3_28 : decode prog_13_method_2_code 28 = .ok (.lload_n 1, 1) := by decide +kernel
theorem d3_29 : decode prog_13_method_2_code 29 = .ok (.lload_n 1, 1) := by decide +kernel
theorem d3_30 : decode prog_13_method_2_code 30 = .ok (.bipush 27, 2) := by decide +kernel
theorem d3_32 : decode prog_13_method_2_code 32 = .ok (.lushr, 1) := by decide +kernel
theorem d3_33 : decode prog_13_method_2_code 33 = .ok (.lxor, 1) := by decide +kernel
theorem d3_34 : decode prog_13_method_2_code 34 = .ok (.ldc2_w 17, 3) := by decide +kernel
theorem d3_37 : decode prog_13_method_2_code 37 = .ok (.lmul, 1) := by decide +kernel
theorem d3_38 : decode prog_13_method_2_code 38 = .ok (.lstore_n 1, 1) := by decide +kernel
def m2 (w : Int64) : Int64 := (((m1 w) ^^^ (((m1 w).toUInt64 >>> ((27 : Int32) &&& 0x3f).toInt64.toUInt64).toInt64)) * (-7723592293110705685 : Int64))
theorem d3_39 : decode prog_13_method_2_code 39 = .ok (.lload_n 1, 1) := by decide +kernel
theorem d3_40 : decode prog_13_method_2_code 40 = .ok (.lload_n 1, 1) := by decide +kernel
theorem d3_41 : decode prog_13_method_2_code 41 = .ok (.bipush 31, 2) := by decide +kernel
theorem d3_43 : decode prog_13_method_2_code 43 = .ok (.lushr, 1) := by decide +kernel
theorem d3_44 : decode prog_13_method_2_code 44 = .ok (.lxor, 1) := by decide +kernel
theorem d3_45 : decode prog_13_method_2_code 45 = .ok (.lreturn, 1) := by decide +kernel
def m3 (w : Int64) : Int64 := ((m2 w) ^^^ (((m2 w).toUInt64 >>> ((31 : Int32) &&& 0x3f).toInt64.toUInt64).toInt64))
def Q3 (Z : State) (o0 : Addr) (w : Int64) (h0 : Heap) (n0 : Nat) (v : Option Value) (h : Heap) (L : List Loc) : Prop := v = some (.long (m3 w)) ∧ Fr n0 L ∧ Keep h0 h [o0] ∧ Fld Z h o0 "com/example/moonclaim/moonclaim/engine/Rng" "state" "J" (.long (m0 w))
set_option maxRecDepth 65536 in
set_option maxHeartbeats 40000000 in
theorem rm3 (l : Launch) (Z : State) (a0 : Array Value) (hw : ∀ d ∈ tables_1, d.before a0 Z = true) (ws : List Jvm.Cond) (o0 : Addr) (w : Int64) (h0 : Heap) (n0 : Nat) (Z0 : n0 ≤ h0.size) (F1 : Fld Z h0 o0 "com/example/moonclaim/moonclaim/engine/Rng" "state" "J" (.long w)) (E1 : Exa Z h0 o0 "com/example/moonclaim/moonclaim/engine/Rng") (g1 : n0 ≤ o0) :
    MetFree l (⟨"com/example/moonclaim/moonclaim/engine/Rng", "nextLong", "()J"⟩ : MethodName) (head1 (Jvm.Cond.code (⟨"com/example/moonclaim/moonclaim/engine/Rng", "nextLong", "()J"⟩ : MethodName) prog_13_method_2_code 3 (some .long) :: ws) ({ frames := 0, cells := 0, slots := 0, locals := 0 } : Room)) (fun a U => a = #[(.ref o0)] ∧ Z.Warmed39 U.vm ∧ U.heap = h0) (fun _ _ _ _ _ => True) (fun _ U o U' => ∃ v L, o = .returned v ∧ Q3 Z o0 w h0 n0 v U'.heap L ∧ FrameEnd U o U' L ({ frames := 0, cells := 0, slots := 0, locals := 0 } : Room).cells ({ frames := 0, cells := 0, slots := 0, locals := 0 } : Room).slots) := by
  refine MetFree.of_bodySF (plainFor_of_name pn_0) hisR ?_
  intro p e s m args below meth c s₁ Bd hml0 hP hK
  obtain ⟨rfl, hZ, hh⟩ := hP
  have hx := Bd.exec
  have hby := Bd.bytes
  have hml : c.maxLocals = 3 := hml0
  have hown : s.vm.findClass "com/example/moonclaim/moonclaim/engine/Rng" = some m.cls := findClass_of_methodNamed Bd.named
  have hnm := (name_of_methodNamed Bd.named Bd.method).1
  have X0 : Stand p l e ({ frames := 0, cells := 0, slots := 0, locals := 0 } : Room) s m #[(.ref o0)] below meth c s₁ [] 0 0 := Stand.of_body Bd
  have e0 : s₁.heap = h0 := by rw [← hh, Bd.state]; rfl
  have pre0 : ∀ t, Steps p.tables e below (s₁.setTop (mkF m 0 #[.val (.ref o0), .unset, .unset] [])) t → Steps p.tables e below (s₁.setTop (entryFrame m #[(.ref o0)] 3)) t := fun t k => castTop (ef_3 m o0) k
  have N0 := Fr.nil n0
  have KP0 : Keep h0 h0 [o0] := Keep.refl _ _
  obtain ⟨T1, X1, e1, st1⟩ := getF X0 hx hZ hown (host := "") (Or.inl (hw _ (List.mem_of_getElem? (i := 9) rfl))) Via.refl e0 F1 (g := (mkF m 2 #[.val (.ref o0), .unset, .unset] [(.ref o0), (.ref o0)])) rfl rfl (hb hby d3_2)
  obtain ⟨T2, h2, X2, e2, W2, st2⟩ := putF X1 hx hZ hown (host := "") (Or.inl (hw _ (List.mem_of_getElem? (i := 9) rfl))) Via.refl e1 F1 E1 (Or.inl (hw _ (List.mem_of_getElem? (i := 10) rfl))) (hw _ (List.mem_of_getElem? (i := 1) rfl)) (ty := .long) (by decide) rfl rfl (g := (mkF m 9 #[.val (.ref o0), .unset, .unset] [(.long (w + (-7046029254386353131 : Int64))), (.ref o0)])) rfl rfl (hb hby d3_9)
  have G3 : Exa Z h2 o0 "com/example/moonclaim/moonclaim/engine/Rng" := E1.wr W2
  have G4 : Fld Z h2 o0 "com/example/moonclaim/moonclaim/engine/Rng" "state" "J" (.long (w + (-7046029254386353131 : Int64))) := F1.same W2
  have Z2 : n0 ≤ h2.size := Nat.le_trans Z0 (Keep.of_wr W2).1
  have N2 := Fr.snoc X2 N0 g1
  have KP2 : Keep h0 h2 [o0] := KP0.wr W2 (Or.inl (List.mem_of_getElem? (i := 0) rfl))
  obtain ⟨T5, X5, e5, st5⟩ := getF X2 hx hZ hown (host := "") (Or.inl (hw _ (List.mem_of_getElem? (i := 9) rfl))) Via.refl e2 G4 (g := (mkF m 13 #[.val (.ref o0), .unset, .unset] [(.ref o0)])) rfl rfl (hb hby d3_13)
  have K6 : ∀ t, Steps p.tables e below (T5.setTop (mkF m 45 #[.val (.ref o0), .val (.long (m2 w)), .second] [(.long (m3 w))])) t → Steps p.tables e below (s₁.setTop (mkF m 0 #[.val (.ref o0), .unset, .unset] [])) t := by
    intro t kt
    show Steps p.tables e below (s₁.setTop (mkF m 0 #[.val (.ref o0), .unset, .unset] [])) _
    refine XS.aloadN X0.here hx rfl (hb hby d3_0) rfl rfl ?_
    show Steps p.tables e below (s₁.setTop (mkF m 1 #[.val (.ref o0), .unset, .unset] [(.ref o0)])) _
    refine XS.dup X0.here hx rfl (hb hby d3_1) rfl rfl ?_
    show Steps p.tables e below (s₁.setTop (mkF m 2 #[.val (.ref o0), .unset, .unset] [(.ref o0), (.ref o0)])) _
    refine st1 _ ?_
    show Steps p.tables e below (T1.setTop (mkF m 5 #[.val (.ref o0), .unset, .unset] [(.long w), (.ref o0)])) _
    refine X1.ldc2Long hx hown (mvT hZ (hw _ (List.mem_of_getElem? (i := 16) rfl))) (g := (mkF m 5 #[.val (.ref o0), .unset, .unset] [(.long w), (.ref o0)])) rfl (hb hby d3_5) _ ?_
    show Steps p.tables e below (T1.setTop (mkF m 8 #[.val (.ref o0), .unset, .unset] [(.long (-7046029254386353131 : Int64)), (.long w), (.ref o0)])) _
    refine XS.ladd X1.here hx rfl (hb hby d3_8) rfl ?_
    show Steps p.tables e below (T1.setTop (mkF m 9 #[.val (.ref o0), .unset, .unset] [(.long (w + (-7046029254386353131 : Int64))), (.ref o0)])) _
    refine st2 _ ?_
    show Steps p.tables e below (T2.setTop (mkF m 12 #[.val (.ref o0), .unset, .unset] [])) _
    refine XS.aloadN X2.here hx rfl (hb hby d3_12) rfl rfl ?_
    show Steps p.tables e below (T2.setTop (mkF m 13 #[.val (.ref o0), .unset, .unset] [(.ref o0)])) _
    refine st5 _ ?_
    show Steps p.tables e below (T5.setTop (mkF m 16 #[.val (.ref o0), .unset, .unset] [(.long (w + (-7046029254386353131 : Int64)))])) _
    refine XS.lstoreN X5.here hx rfl (hb hby d3_16) rfl (l' := #[.val (.ref o0), .val (.long (w + (-7046029254386353131 : Int64))), .second]) rfl ?_
    show Steps p.tables e below (T5.setTop (mkF m 17 #[.val (.ref o0), .val (.long (w + (-7046029254386353131 : Int64))), .second] [])) _
    refine XS.lloadN X5.here hx rfl (hb hby d3_17) rfl ?_
    show Steps p.tables e below (T5.setTop (mkF m 18 #[.val (.ref o0), .val (.long (w + (-7046029254386353131 : Int64))), .second] [(.long (w + (-7046029254386353131 : Int64)))])) _
    refine XS.lloadN X5.here hx rfl (hb hby d3_18) rfl ?_
    show Steps p.tables e below (T5.setTop (mkF m 19 #[.val (.ref o0), .val (.long (w + (-7046029254386353131 : Int64))), .second] [(.long (w + (-7046029254386353131 : Int64))), (.long (w + (-7046029254386353131 : Int64)))])) _
    refine XS.bipush X5.here hx rfl (hb hby d3_19) ?_
    show Steps p.tables e below (T5.setTop (mkF m 21 #[.val (.ref o0), .val (.long (w + (-7046029254386353131 : Int64))), .second] [(.int (30 : Int32)), (.long (w + (-7046029254386353131 : Int64))), (.long (w + (-7046029254386353131 : Int64)))])) _
    refine XS.lushr X5.here hx rfl (hb hby d3_21) rfl ?_
    show Steps p.tables e below (T5.setTop (mkF m 22 #[.val (.ref o0), .val (.long (w + (-7046029254386353131 : Int64))), .second] [(.long (((w + (-7046029254386353131 : Int64)).toUInt64 >>> ((30 : Int32) &&& 0x3f).toInt64.toUInt64).toInt64)), (.long (w + (-7046029254386353131 : Int64)))])) _
    refine XS.lxor X5.here hx rfl (hb hby d3_22) rfl ?_
    show Steps p.tables e below (T5.setTop (mkF m 23 #[.val (.ref o0), .val (.long (w + (-7046029254386353131 : Int64))), .second] [(.long ((w + (-7046029254386353131 : Int64)) ^^^ (((w + (-7046029254386353131 : Int64)).toUInt64 >>> ((30 : Int32) &&& 0x3f).toInt64.toUInt64).toInt64)))])) _
    refine X5.ldc2Long hx hown (mvT hZ (hw _ (List.mem_of_getElem? (i := 17) rfl))) (g := (mkF m 23 #[.val (.ref o0), .val (.long (w + (-7046029254386353131 : Int64))), .second] [(.long ((w + (-7046029254386353131 : Int64)) ^^^ (((w + (-7046029254386353131 : Int64)).toUInt64 >>> ((30 : Int32) &&& 0x3f).toInt64.toUInt64).toInt64)))])) rfl (hb hby d3_23) _ ?_
    show Steps p.tables e below (T5.setTop (mkF m 26 #[.val (.ref o0), .val (.long (w + (-7046029254386353131 : Int64))), .second] [(.long (-4658895280553007687 : Int64)), (.long ((w + (-7046029254386353131 : Int64)) ^^^ (((w + (-7046029254386353131 : Int64)).toUInt64 >>> ((30 : Int32) &&& 0x3f).toInt64.toUInt64).toInt64)))])) _
    refine XS.lmul X5.here hx rfl (hb hby d3_26) rfl ?_
    show Steps p.tables e below (T5.setTop (mkF m 27 #[.val (.ref o0), .val (.long (w + (-7046029254386353131 : Int64))), .second] [(.long (((w + (-7046029254386353131 : Int64)) ^^^ (((w + (-7046029254386353131 : Int64)).toUInt64 >>> ((30 : Int32) &&& 0x3f).toInt64.toUInt64).toInt64)) * (-4658895280553007687 : Int64)))])) _
    refine XS.lstoreN X5.here hx rfl (hb hby d3_27) rfl (l' := #[.val (.ref o0), .val (.long (m1 w)), .second]) rfl ?_
    show Steps p.tables e below (T5.setTop (mkF m 28 #[.val (.ref o0), .val (.long (m1 w)), .second] [])) _
    refine XS.lloadN X5.here hx rfl (hb hby d3_28) rfl ?_
    show Steps p.tables e below (T5.setTop (mkF m 29 #[.val (.ref o0), .val (.long (m1 w)), .second] [(.long (m1 w))])) _
    refine XS.lloadN X5.here hx rfl (hb hby d3_29) rfl ?_
    show Steps p.tables e below (T5.setTop (mkF m 30 #[.val (.ref o0), .val (.long (m1 w)), .second] [(.long (m1 w)), (.long (m1 w))])) _
    refine XS.bipush X5.here hx rfl (hb hby d3_30) ?_
    show Steps p.tables e below (T5.setTop (mkF m 32 #[.val (.ref o0), .val (.long (m1 w)), .second] [(.int (27 : Int32)), (.long (m1 w)), (.long (m1 w))])) _
    refine XS.lushr X5.here hx rfl (hb hby d3_32) rfl ?_
    show Steps p.tables e below (T5.setTop (mkF m 33 #[.val (.ref o0), .val (.long (m1 w)), .second] [(.long (((m1 w).toUInt64 >>> ((27 : Int32) &&& 0x3f).toInt64.toUInt64).toInt64)), (.long (m1 w))])) _
    refine XS.lxor X5.here hx rfl (hb hby d3_33) rfl ?_
    show Steps p.tables e below (T5.setTop (mkF m 34 #[.val (.ref o0), .val (.long (m1 w)), .second] [(.long ((m1 w) ^^^ (((m1 w).toUInt64 >>> ((27 : Int32) &&& 0x3f).toInt64.toUInt64).toInt64)))])) _
    refine X5.ldc2Long hx hown (mvT hZ (hw _ (List.mem_of_getElem? (i := 18) rfl))) (g := (mkF m 34 #[.val (.ref o0), .val (.long (m1 w)), .second] [(.long ((m1 w) ^^^ (((m1 w).toUInt64 >>> ((27 : Int32) &&& 0x3f).toInt64.toUInt64).toInt64)))])) rfl (hb hby d3_34) _ ?_
    show Steps p.tables e below (T5.setTop (mkF m 37 #[.val (.ref o0), .val (.long (m1 w)), .second] [(.long (-7723592293110705685 : Int64)), (.long ((m1 w) ^^^ (((m1 w).toUInt64 >>> ((27 : Int32) &&& 0x3f).toInt64.toUInt64).toInt64)))])) _
    refine XS.lmul X5.here hx rfl (hb hby d3_37) rfl ?_
    show Steps p.tables e below (T5.setTop (mkF m 38 #[.val (.ref o0), .val (.long (m1 w)), .second] [(.long (((m1 w) ^^^ (((m1 w).toUInt64 >>> ((27 : Int32) &&& 0x3f).toInt64.toUInt64).toInt64)) * (-7723592293110705685 : Int64)))])) _
    refine XS.lstoreN X5.here hx rfl (hb hby d3_38) rfl (l' := #[.val (.ref o0), .val (.long (m2 w)), .second]) rfl ?_
    show Steps p.tables e below (T5.setTop (mkF m 39 #[.val (.ref o0), .val (.long (m2 w)), .second] [])) _
    refine XS.lloadN X5.here hx rfl (hb hby d3_39) rfl ?_
    show Steps p.tables e below (T5.setTop (mkF m 40 #[.val (.ref o0), .val (.long (m2 w)), .second] [(.long (m2 w))])) _
    refine XS.lloadN X5.here hx rfl (hb hby d3_40) rfl ?_
    show Steps p.tables e below (T5.setTop (mkF m 41 #[.val (.ref o0), .val (.long (m2 w)), .second] [(.long (m2 w)), (.long (m2 w))])) _
    refine XS.bipush X5.here hx rfl (hb hby d3_41) ?_
    show Steps p.tables e below (T5.setTop (mkF m 43 #[.val (.ref o0), .val (.long (m2 w)), .second] [(.int (31 : Int32)), (.long (m2 w)), (.long (m2 w))])) _
    refine XS.lushr X5.here hx rfl (hb hby d3_43) rfl ?_
    show Steps p.tables e below (T5.setTop (mkF m 44 #[.val (.ref o0), .val (.long (m2 w)), .second] [(.long (((m2 w).toUInt64 >>> ((31 : Int32) &&& 0x3f).toInt64.toUInt64).toInt64)), (.long (m2 w))])) _
    refine XS.lxor X5.here hx rfl (hb hby d3_44) rfl ?_
    exact kt
  obtain ⟨fs, hr, hrun, hended, hW, hsame⟩ := X5.leave (v := some (.long (m3 w))) (fun h => by rw [Bd.returns] at h; cases h)
  refine ⟨_, _, pre0 _ (K6 _ ?_), hrun, hended, _, _, rfl, ?_, ⟨_, rfl⟩, hW, hsame.mono (by decide) (by decide)⟩
  · show Steps p.tables e below (T5.setTop (mkF m 45 #[.val (.ref o0), .val (.long (m2 w)), .second] [(.long (m3 w))])) _
    exact retOut X5 hx Bd.returns rfl (Or.inr (Or.inl ⟨rfl, rfl, _, rfl⟩)) (hb hby d3_45) hr
  · show Q3 Z o0 w h0 n0 _ T5.heap _
    rw [e5]
    exact ⟨rfl, N2, KP2, G4⟩
theorem ef_4 (m : MethodId) (x0 : Int64) : entryFrame m #[(.long x0)] 2 = mkF m 0 #[.val (.long x0), .second] [] := by first | (simp [entryFrame, mkF, argsToLocals, Value.category]; done) | rfl
theorem pn_1 : plainName "com/example/moonclaim/moonclaim/engine/RngNextLongPinLaw" = true := by first | (simp [plainName, overriddenIn]; done) | decide +kernel
theorem d4_0 : decode method_2_code 0 = .ok (.lload_n 0, 1) := by decide +kernel
theorem d4_1 : decode method_2_code 1 = .ok (.lload_n 0, 1) := by decide +kernel
theorem d4_2 : decode method_2_code 2 = .ok (.bipush 31, 2) := by decide +kernel
theorem d4_4 : decode method_2_code 4 = .ok (.lushr, 1) := by decide +kernel
theorem d4_5 : decode method_2_code 5 = .ok (.lxor, 1) := by decide +kernel
theorem d4_6 : decode method_2_code 6 = .ok (.lload_n 0, 1) := by decide +kernel
theorem d4_7 : decode method_2_code 7 = .ok (.bipush 62, 2) := by decide +kernel
theorem d4_9 : decode method_2_code 9 = .ok (.lushr, 1) := by decide +kernel
theorem d4_10 : decode method_2_code 10 = .ok (.lxor, 1) := by decide +kernel
theorem d4_11 : decode method_2_code 11 = .ok (.ldc2_w 7, 3) := by decide +kernel
theorem d4_14 : decode method_2_code 14 = .ok (.lmul, 1) := by decide +kernel
theorem d4_15 : decode method_2_code 15 = .ok (.lstore_n 0, 1) := by decide +kernel
def u1 (q0 : Int64) : Int64 := (((q0 ^^^ ((q0.toUInt64 >>> ((31 : Int32) &&& 0x3f).toInt64.toUInt64).toInt64)) ^^^ ((q0.toUInt64 >>> ((62 : Int32) &&& 0x3f).toInt64.toUInt64).toInt64)) * (3573116690164977347 : Int64))
theorem d4_16 : decode method_2_code 16 = .ok (.lload_n 0, 1) := by decide +kernel
theorem d4_17 : decode method_2_code 17 = .ok (.lload_n 0, 1) := by decide +kernel
theorem d4_18 : decode method_2_code 18 = .ok (.bipush 27, 2) := by decide +kernel
theorem d4_20 : decode method_2_code 20 = .ok (.lushr, 1) := by decide +kernel
theorem d4_21 : decode method_2_code 21 = .ok (.lxor, 1) := by decide +kernel
theorem d4_22 : decode method_2_code 22 = .ok (.lload_n 0, 1) := by decide +kernel
theorem d4_23 : decode method_2_code 23 = .ok (.bipush 54, 2) := by decide +kernel
theorem d4_25 : decode method_2_code 25 = .ok (.lushr, 1) := by decide +kernel
theorem d4_26 : decode method_2_code 26 = .ok (.lxor, 1) := by decide +kernel
theorem d4_27 : decode method_2_code 27 = .ok (.ldc2_w 9, 3) := by decide +kernel
theorem d4_30 : decode method_2_code 30 = .ok (.lmul, 1) := by decide +kernel
theorem d4_31 : decode method_2_code 31 = .ok (.lstore_n 0, 1) := by decide +kernel
def u2 (q0 : Int64) : Int64 := ((((u1 q0) ^^^ (((u1 q0).toUInt64 >>> ((27 : Int32) &&& 0x3f).toInt64.toUInt64).toInt64)) ^^^ (((u1 q0).toUInt64 >>> ((54 : Int32) &&& 0x3f).toInt64.toUInt64).toInt64)) * (-7575587736534282103 : Int64))
theorem d4_32 : decode method_2_code 32 = .ok (.lload_n 0, 1) := by decide +kernel
theorem d4_33 : decode method_2_code 33 = .ok (.lload_n 0, 1) := by decide +kernel
theorem d4_34 : decode method_2_code 34 = .ok (.bipush 30, 2) := by decide +kernel
theorem d4_36 : decode method_2_code 36 = .ok (.lushr, 1) := by decide +kernel
theorem d4_37 : decode method_2_code 37 = .ok (.lxor, 1) := by decide +kernel
theorem d4_38 : decode method_2_code 38 = .ok (.lload_n 0, 1) := by decide +kernel
theorem d4_39 : decode method_2_code 39 = .ok (.bipush 60, 2) := by decide +kernel
theorem d4_41 : decode method_2_code 41 = .ok (.lushr, 1) := by decide +kernel
theorem d4_42 : decode method_2_code 42 = .ok (.lxor, 1) := by decide +kernel
theorem d4_43 : decode method_2_code 43 = .ok (.lreturn, 1) := by decide +kernel
def f4 (q0 : Int64) : Int64 := (((u2 q0) ^^^ (((u2 q0).toUInt64 >>> ((30 : Int32) &&& 0x3f).toInt64.toUInt64).toInt64)) ^^^ (((u2 q0).toUInt64 >>> ((60 : Int32) &&& 0x3f).toInt64.toUInt64).toInt64))
def Q4 (Z : State) (q0 : Int64)  (h0 : Heap) (v : Option Value) (h : Heap) (L : List Loc) : Prop := v = some (.long (f4 q0)) ∧ L = [] ∧ h = h0
set_option maxRecDepth 65536 in
set_option maxHeartbeats 40000000 in
theorem rm4 (l : Launch) (Z : State) (a0 : Array Value) (hw : ∀ d ∈ tables_1, d.before a0 Z = true) (ws : List Jvm.Cond) (q0 : Int64)  (h0 : Heap)  :
    MetFree l (⟨"com/example/moonclaim/moonclaim/engine/RngNextLongPinLaw", "unmix", "(J)J"⟩ : MethodName) (head1 (Jvm.Cond.code (⟨"com/example/moonclaim/moonclaim/engine/RngNextLongPinLaw", "unmix", "(J)J"⟩ : MethodName) method_2_code 2 (some .long) :: ws) ({ frames := 0, cells := 0, slots := 0, locals := 0 } : Room)) (fun a U => a = #[(.long q0)] ∧ Z.Warmed39 U.vm ∧ U.heap = h0) (fun _ _ _ _ _ => True) (fun _ U o U' => ∃ v L, o = .returned v ∧ Q4 Z q0  h0 v U'.heap L ∧ FrameEnd U o U' L ({ frames := 0, cells := 0, slots := 0, locals := 0 } : Room).cells ({ frames := 0, cells := 0, slots := 0, locals := 0 } : Room).slots) := by
  refine MetFree.of_bodySF (plainFor_of_name pn_1) hisR ?_
  intro p e s m args below meth c s₁ Bd hml0 hP hK
  obtain ⟨rfl, hZ, hh⟩ := hP
  have hx := Bd.exec
  have hby := Bd.bytes
  have hml : c.maxLocals = 2 := hml0
  have hown : s.vm.findClass "com/example/moonclaim/moonclaim/engine/RngNextLongPinLaw" = some m.cls := findClass_of_methodNamed Bd.named
  have hnm := (name_of_methodNamed Bd.named Bd.method).1
  have X0 : Stand p l e ({ frames := 0, cells := 0, slots := 0, locals := 0 } : Room) s m #[(.long q0)] below meth c s₁ [] 0 0 := Stand.of_body Bd
  have e0 : s₁.heap = h0 := by rw [← hh, Bd.state]; rfl
  have pre0 : ∀ t, Steps p.tables e below (s₁.setTop (mkF m 0 #[.val (.long q0), .second] [])) t → Steps p.tables e below (s₁.setTop (entryFrame m #[(.long q0)] 2)) t := fun t k => castTop (ef_4 m q0) k
  have K1 : ∀ t, Steps p.tables e below (s₁.setTop (mkF m 43 #[.val (.long (u2 q0)), .second] [(.long (((u2 q0) ^^^ (((u2 q0).toUInt64 >>> ((30 : Int32) &&& 0x3f).toInt64.toUInt64).toInt64)) ^^^ (((u2 q0).toUInt64 >>> ((60 : Int32) &&& 0x3f).toInt64.toUInt64).toInt64)))])) t → Steps p.tables e below (s₁.setTop (mkF m 0 #[.val (.long q0), .second] [])) t := by
    intro t kt
    show Steps p.tables e below (s₁.setTop (mkF m 0 #[.val (.long q0), .second] [])) _
    refine XS.lloadN X0.here hx rfl (hb hby d4_0) rfl ?_
    show Steps p.tables e below (s₁.setTop (mkF m 1 #[.val (.long q0), .second] [(.long q0)])) _
    refine XS.lloadN X0.here hx rfl (hb hby d4_1) rfl ?_
    show Steps p.tables e below (s₁.setTop (mkF m 2 #[.val (.long q0), .second] [(.long q0), (.long q0)])) _
    refine XS.bipush X0.here hx rfl (hb hby d4_2) ?_
    show Steps p.tables e below (s₁.setTop (mkF m 4 #[.val (.long q0), .second] [(.int (31 : Int32)), (.long q0), (.long q0)])) _
    refine XS.lushr X0.here hx rfl (hb hby d4_4) rfl ?_
    show Steps p.tables e below (s₁.setTop (mkF m 5 #[.val (.long q0), .second] [(.long ((q0.toUInt64 >>> ((31 : Int32) &&& 0x3f).toInt64.toUInt64).toInt64)), (.long q0)])) _
    refine XS.lxor X0.here hx rfl (hb hby d4_5) rfl ?_
    show Steps p.tables e below (s₁.setTop (mkF m 6 #[.val (.long q0), .second] [(.long (q0 ^^^ ((q0.toUInt64 >>> ((31 : Int32) &&& 0x3f).toInt64.toUInt64).toInt64)))])) _
    refine XS.lloadN X0.here hx rfl (hb hby d4_6) rfl ?_
    show Steps p.tables e below (s₁.setTop (mkF m 7 #[.val (.long q0), .second] [(.long q0), (.long (q0 ^^^ ((q0.toUInt64 >>> ((31 : Int32) &&& 0x3f).toInt64.toUInt64).toInt64)))])) _
    refine XS.bipush X0.here hx rfl (hb hby d4_7) ?_
    show Steps p.tables e below (s₁.setTop (mkF m 9 #[.val (.long q0), .second] [(.int (62 : Int32)), (.long q0), (.long (q0 ^^^ ((q0.toUInt64 >>> ((31 : Int32) &&& 0x3f).toInt64.toUInt64).toInt64)))])) _
    refine XS.lushr X0.here hx rfl (hb hby d4_9) rfl ?_
    show Steps p.tables e below (s₁.setTop (mkF m 10 #[.val (.long q0), .second] [(.long ((q0.toUInt64 >>> ((62 : Int32) &&& 0x3f).toInt64.toUInt64).toInt64)), (.long (q0 ^^^ ((q0.toUInt64 >>> ((31 : Int32) &&& 0x3f).toInt64.toUInt64).toInt64)))])) _
    refine XS.lxor X0.here hx rfl (hb hby d4_10) rfl ?_
    show Steps p.tables e below (s₁.setTop (mkF m 11 #[.val (.long q0), .second] [(.long ((q0 ^^^ ((q0.toUInt64 >>> ((31 : Int32) &&& 0x3f).toInt64.toUInt64).toInt64)) ^^^ ((q0.toUInt64 >>> ((62 : Int32) &&& 0x3f).toInt64.toUInt64).toInt64)))])) _
    refine X0.ldc2Long hx hown (mvT hZ (hw _ (List.mem_of_getElem? (i := 24) rfl))) (g := (mkF m 11 #[.val (.long q0), .second] [(.long ((q0 ^^^ ((q0.toUInt64 >>> ((31 : Int32) &&& 0x3f).toInt64.toUInt64).toInt64)) ^^^ ((q0.toUInt64 >>> ((62 : Int32) &&& 0x3f).toInt64.toUInt64).toInt64)))])) rfl (hb hby d4_11) _ ?_
    show Steps p.tables e below (s₁.setTop (mkF m 14 #[.val (.long q0), .second] [(.long (3573116690164977347 : Int64)), (.long ((q0 ^^^ ((q0.toUInt64 >>> ((31 : Int32) &&& 0x3f).toInt64.toUInt64).toInt64)) ^^^ ((q0.toUInt64 >>> ((62 : Int32) &&& 0x3f).toInt64.toUInt64).toInt64)))])) _
    refine XS.lmul X0.here hx rfl (hb hby d4_14) rfl ?_
    show Steps p.tables e below (s₁.setTop (mkF m 15 #[.val (.long q0), .second] [(.long (((q0 ^^^ ((q0.toUInt64 >>> ((31 : Int32) &&& 0x3f).toInt64.toUInt64).toInt64)) ^^^ ((q0.toUInt64 >>> ((62 : Int32) &&& 0x3f).toInt64.toUInt64).toInt64)) * (3573116690164977347 : Int64)))])) _
    refine XS.lstoreN X0.here hx rfl (hb hby d4_15) rfl (l' := #[.val (.long (u1 q0)), .second]) rfl ?_
    show Steps p.tables e below (s₁.setTop (mkF m 16 #[.val (.long (u1 q0)), .second] [])) _
    refine XS.lloadN X0.here hx rfl (hb hby d4_16) rfl ?_
    show Steps p.tables e below (s₁.setTop (mkF m 17 #[.val (.long (u1 q0)), .second] [(.long (u1 q0))])) _
    refine XS.lloadN X0.here hx rfl (hb hby d4_17) rfl ?_
    show Steps p.tables e below (s₁.setTop (mkF m 18 #[.val (.long (u1 q0)), .second] [(.long (u1 q0)), (.long (u1 q0))])) _
    refine XS.bipush X0.here hx rfl (hb hby d4_18) ?_
    show Steps p.tables e below (s₁.setTop (mkF m 20 #[.val (.long (u1 q0)), .second] [(.int (27 : Int32)), (.long (u1 q0)), (.long (u1 q0))])) _
    refine XS.lushr X0.here hx rfl (hb hby d4_20) rfl ?_
    show Steps p.tables e below (s₁.setTop (mkF m 21 #[.val (.long (u1 q0)), .second] [(.long (((u1 q0).toUInt64 >>> ((27 : Int32) &&& 0x3f).toInt64.toUInt64).toInt64)), (.long (u1 q0))])) _
    refine XS.lxor X0.here hx rfl (hb hby d4_21) rfl ?_
    show Steps p.tables e below (s₁.setTop (mkF m 22 #[.val (.long (u1 q0)), .second] [(.long ((u1 q0) ^^^ (((u1 q0).toUInt64 >>> ((27 : Int32) &&& 0x3f).toInt64.toUInt64).toInt64)))])) _
    refine XS.lloadN X0.here hx rfl (hb hby d4_22) rfl ?_
    show Steps p.tables e below (s₁.setTop (mkF m 23 #[.val (.long (u1 q0)), .second] [(.long (u1 q0)), (.long ((u1 q0) ^^^ (((u1 q0).toUInt64 >>> ((27 : Int32) &&& 0x3f).toInt64.toUInt64).toInt64)))])) _
    refine XS.bipush X0.here hx rfl (hb hby d4_23) ?_
    show Steps p.tables e below (s₁.setTop (mkF m 25 #[.val (.long (u1 q0)), .second] [(.int (54 : Int32)), (.long (u1 q0)), (.long ((u1 q0) ^^^ (((u1 q0).toUInt64 >>> ((27 : Int32) &&& 0x3f).toInt64.toUInt64).toInt64)))])) _
    refine XS.lushr X0.here hx rfl (hb hby d4_25) rfl ?_
    show Steps p.tables e below (s₁.setTop (mkF m 26 #[.val (.long (u1 q0)), .second] [(.long (((u1 q0).toUInt64 >>> ((54 : Int32) &&& 0x3f).toInt64.toUInt64).toInt64)), (.long ((u1 q0) ^^^ (((u1 q0).toUInt64 >>> ((27 : Int32) &&& 0x3f).toInt64.toUInt64).toInt64)))])) _
    refine XS.lxor X0.here hx rfl (hb hby d4_26) rfl ?_
    show Steps p.tables e below (s₁.setTop (mkF m 27 #[.val (.long (u1 q0)), .second] [(.long (((u1 q0) ^^^ (((u1 q0).toUInt64 >>> ((27 : Int32) &&& 0x3f).toInt64.toUInt64).toInt64)) ^^^ (((u1 q0).toUInt64 >>> ((54 : Int32) &&& 0x3f).toInt64.toUInt64).toInt64)))])) _
    refine X0.ldc2Long hx hown (mvT hZ (hw _ (List.mem_of_getElem? (i := 25) rfl))) (g := (mkF m 27 #[.val (.long (u1 q0)), .second] [(.long (((u1 q0) ^^^ (((u1 q0).toUInt64 >>> ((27 : Int32) &&& 0x3f).toInt64.toUInt64).toInt64)) ^^^ (((u1 q0).toUInt64 >>> ((54 : Int32) &&& 0x3f).toInt64.toUInt64).toInt64)))])) rfl (hb hby d4_27) _ ?_
    show Steps p.tables e below (s₁.setTop (mkF m 30 #[.val (.long (u1 q0)), .second] [(.long (-7575587736534282103 : Int64)), (.long (((u1 q0) ^^^ (((u1 q0).toUInt64 >>> ((27 : Int32) &&& 0x3f).toInt64.toUInt64).toInt64)) ^^^ (((u1 q0).toUInt64 >>> ((54 : Int32) &&& 0x3f).toInt64.toUInt64).toInt64)))])) _
    refine XS.lmul X0.here hx rfl (hb hby d4_30) rfl ?_
    show Steps p.tables e below (s₁.setTop (mkF m 31 #[.val (.long (u1 q0)), .second] [(.long ((((u1 q0) ^^^ (((u1 q0).toUInt64 >>> ((27 : Int32) &&& 0x3f).toInt64.toUInt64).toInt64)) ^^^ (((u1 q0).toUInt64 >>> ((54 : Int32) &&& 0x3f).toInt64.toUInt64).toInt64)) * (-7575587736534282103 : Int64)))])) _
    refine XS.lstoreN X0.here hx rfl (hb hby d4_31) rfl (l' := #[.val (.long (u2 q0)), .second]) rfl ?_
    show Steps p.tables e below (s₁.setTop (mkF m 32 #[.val (.long (u2 q0)), .second] [])) _
    refine XS.lloadN X0.here hx rfl (hb hby d4_32) rfl ?_
    show Steps p.tables e below (s₁.setTop (mkF m 33 #[.val (.long (u2 q0)), .second] [(.long (u2 q0))])) _
    refine XS.lloadN X0.here hx rfl (hb hby d4_33) rfl ?_
    show Steps p.tables e below (s₁.setTop (mkF m 34 #[.val (.long (u2 q0)), .second] [(.long (u2 q0)), (.long (u2 q0))])) _
    refine XS.bipush X0.here hx rfl (hb hby d4_34) ?_
    show Steps p.tables e below (s₁.setTop (mkF m 36 #[.val (.long (u2 q0)), .second] [(.int (30 : Int32)), (.long (u2 q0)), (.long (u2 q0))])) _
    refine XS.lushr X0.here hx rfl (hb hby d4_36) rfl ?_
    show Steps p.tables e below (s₁.setTop (mkF m 37 #[.val (.long (u2 q0)), .second] [(.long (((u2 q0).toUInt64 >>> ((30 : Int32) &&& 0x3f).toInt64.toUInt64).toInt64)), (.long (u2 q0))])) _
    refine XS.lxor X0.here hx rfl (hb hby d4_37) rfl ?_
    show Steps p.tables e below (s₁.setTop (mkF m 38 #[.val (.long (u2 q0)), .second] [(.long ((u2 q0) ^^^ (((u2 q0).toUInt64 >>> ((30 : Int32) &&& 0x3f).toInt64.toUInt64).toInt64)))])) _
    refine XS.lloadN X0.here hx rfl (hb hby d4_38) rfl ?_
    show Steps p.tables e below (s₁.setTop (mkF m 39 #[.val (.long (u2 q0)), .second] [(.long (u2 q0)), (.long ((u2 q0) ^^^ (((u2 q0).toUInt64 >>> ((30 : Int32) &&& 0x3f).toInt64.toUInt64).toInt64)))])) _
    refine XS.bipush X0.here hx rfl (hb hby d4_39) ?_
    show Steps p.tables e below (s₁.setTop (mkF m 41 #[.val (.long (u2 q0)), .second] [(.int (60 : Int32)), (.long (u2 q0)), (.long ((u2 q0) ^^^ (((u2 q0).toUInt64 >>> ((30 : Int32) &&& 0x3f).toInt64.toUInt64).toInt64)))])) _
    refine XS.lushr X0.here hx rfl (hb hby d4_41) rfl ?_
    show Steps p.tables e below (s₁.setTop (mkF m 42 #[.val (.long (u2 q0)), .second] [(.long (((u2 q0).toUInt64 >>> ((60 : Int32) &&& 0x3f).toInt64.toUInt64).toInt64)), (.long ((u2 q0) ^^^ (((u2 q0).toUInt64 >>> ((30 : Int32) &&& 0x3f).toInt64.toUInt64).toInt64)))])) _
    refine XS.lxor X0.here hx rfl (hb hby d4_42) rfl ?_
    exact kt
  have hv : f4 q0 = (((u2 q0) ^^^ (((u2 q0).toUInt64 >>> ((30 : Int32) &&& 0x3f).toInt64.toUInt64).toInt64)) ^^^ (((u2 q0).toUInt64 >>> ((60 : Int32) &&& 0x3f).toInt64.toUInt64).toInt64)) := rfl
  obtain ⟨fs, hr, hrun, hended, hW, hsame⟩ := X0.leave (v := some (.long (((u2 q0) ^^^ (((u2 q0).toUInt64 >>> ((30 : Int32) &&& 0x3f).toInt64.toUInt64).toInt64)) ^^^ (((u2 q0).toUInt64 >>> ((60 : Int32) &&& 0x3f).toInt64.toUInt64).toInt64)))) (fun h => by rw [Bd.returns] at h; cases h)
  refine ⟨_, _, pre0 _ (K1 _ ?_), hrun, hended, _, _, rfl, ?_, ⟨_, rfl⟩, hW, hsame.mono (by decide) (by decide)⟩
  · show Steps p.tables e below (s₁.setTop (mkF m 43 #[.val (.long (u2 q0)), .second] [(.long (((u2 q0) ^^^ (((u2 q0).toUInt64 >>> ((30 : Int32) &&& 0x3f).toInt64.toUInt64).toInt64)) ^^^ (((u2 q0).toUInt64 >>> ((60 : Int32) &&& 0x3f).toInt64.toUInt64).toInt64)))])) _
    exact retOut X0 hx Bd.returns rfl (Or.inr (Or.inl ⟨rfl, rfl, _, rfl⟩)) (hb hby d4_43) hr
  · show Q4 Z q0  h0 _ s₁.heap _
    rw [e0]
    exact ⟨by rw [hv], rfl, rfl⟩
theorem own_xs (x : BitVec 64) (k : Nat) (hk : 64 ≤ 3 * k) : ((x ^^^ x >>> k) ^^^ (x ^^^ x >>> k) >>> k) ^^^ (x ^^^ x >>> k) >>> (2 * k) = x := by
  apply BitVec.eq_of_getLsbD_eq
  intro i hi
  have h3 : x.getLsbD (i + 3 * k) = false := BitVec.getLsbD_of_ge x _ (by omega)
  simp only [BitVec.getLsbD_xor, BitVec.getLsbD_ushiftRight]
  rw [show k + (k + i) = 2 * k + i from by omega, show k + (2 * k + i) = i + 3 * k from by omega, h3]
  cases x.getLsbD i <;> cases x.getLsbD (k + i) <;> cases x.getLsbD (2 * k + i) <;> rfl
theorem own_xor_l (x y : Int64) : (x ^^^ y).toBitVec = x.toBitVec ^^^ y.toBitVec := rfl
theorem own_inv (x : Int64) (q q2 : Int32) (k : Nat) (hk : 64 ≤ 3 * k) (h1 : q.toBitVec.toNat % 64 = k) (h2 : q2.toBitVec.toNat % 64 = 2 * k) (y : Int64) (hy : y = x ^^^ ((x.toUInt64 >>> (q &&& 0x3f).toInt64.toUInt64).toInt64)) :
    ((y ^^^ ((y.toUInt64 >>> (q &&& 0x3f).toInt64.toUInt64).toInt64)) ^^^ ((y.toUInt64 >>> (q2 &&& 0x3f).toInt64.toUInt64).toInt64)) = x := by
  apply Int64.toBitVec_inj.mp
  rw [own_xor_l, own_xor_l, own_lushr y q k h1, own_lushr y q2 (2 * k) h2, hy, own_xor_l, own_lushr x q k h1]
  exact own_xs _ k hk
theorem own_unmix (w : Int64) : f4 (m3 w) = m0 w := by
  have e1 : u1 (m3 w) = (m1 w) ^^^ (((m1 w).toUInt64 >>> ((27 : Int32) &&& 0x3f).toInt64.toUInt64).toInt64) := by
    unfold u1
    rw [own_inv (m2 w) 31 62 31 (by decide) (by decide) (by decide) (m3 w) rfl]
    unfold m2
    rw [Int64.mul_assoc, show ((-7723592293110705685 : Int64) * (3573116690164977347 : Int64)) = 1 from by decide, Int64.mul_one]
  have e2 : u2 (m3 w) = (m0 w) ^^^ (((m0 w).toUInt64 >>> ((30 : Int32) &&& 0x3f).toInt64.toUInt64).toInt64) := by
    unfold u2
    rw [own_inv (m1 w) 27 54 27 (by decide) (by decide) (by decide) (u1 (m3 w)) e1]
    show (((m0 w) ^^^ (((m0 w).toUInt64 >>> ((30 : Int32) &&& 0x3f).toInt64.toUInt64).toInt64)) * (-4658895280553007687 : Int64)) * (-7575587736534282103 : Int64) = _
    rw [Int64.mul_assoc, show ((-4658895280553007687 : Int64) * (-7575587736534282103 : Int64)) = 1 from by decide, Int64.mul_one]
  unfold f4
  exact own_inv (m0 w) 30 60 30 (by decide) (by decide) (by decide) (u2 (m3 w)) e2
theorem ef_0 (m : MethodId) (x0 : Int64) : entryFrame m #[(.long x0)] maxLocals = mkF m 0 #[.val (.long x0), .second, .unset, .unset, .unset, .unset, .unset, .unset, .unset, .unset, .unset] [] := by first | (simp [entryFrame, mkF, argsToLocals, Value.category, maxLocals]; done) | rfl
theorem pd_0 : parseMethodDescriptor "(J)V" = some ⟨[.long], none⟩ := by decide +kernel
theorem pd_1 : parseMethodDescriptor "()J" = some ⟨[], some .long⟩ := by decide +kernel
theorem pd_2 : parseMethodDescriptor "(J)J" = some ⟨[.long], some .long⟩ := by decide +kernel
def Q0 (Z : State) (q0 : Int64)  (h0 : Heap) (n0 : Nat) (v : Option Value) (h : Heap) (L : List Loc) : Prop := v = some (.int 1) ∧ Fr n0 L
set_option maxRecDepth 65536 in
set_option maxHeartbeats 40000000 in
theorem rm0 (l : Launch) (Z : State) (a0 : Array Value) (hw : ∀ d ∈ tables_1, d.before a0 Z = true) (ws : List Jvm.Cond) (q0 : Int64)  (h0 : Heap) (n0 : Nat) (Z0 : n0 ≤ h0.size)  :
    MetFree l x (head1 (Jvm.Cond.code x code maxLocals ret :: ws) room_1) (fun a U => a = #[(.long q0)] ∧ Z.Warmed39 U.vm ∧ U.heap = h0) (fun _ _ _ _ _ => True) (fun _ U o U' => ∃ v L, o = .returned v ∧ Q0 Z q0  h0 n0 v U'.heap L ∧ FrameEnd U o U' L room_1.cells room_1.slots) := by
  refine MetFree.of_bodySF (plainFor_of_name pn_1) hisR ?_
  intro p e s m args below meth c s₁ Bd hml0 hP hK
  obtain ⟨rfl, hZ, hh⟩ := hP
  have hx := Bd.exec
  have hby := Bd.bytes
  have hml : c.maxLocals = 11 := hml0
  have hown : s.vm.findClass "com/example/moonclaim/moonclaim/engine/RngNextLongPinLaw" = some m.cls := findClass_of_methodNamed Bd.named
  have hnm := (name_of_methodNamed Bd.named Bd.method).1
  have X0 : Stand p l e room_1 s m #[(.long q0)] below meth c s₁ [] 0 0 := Stand.of_body Bd
  have e0 : s₁.heap = h0 := by rw [← hh, Bd.state]; rfl
  have pre0 : ∀ t, Steps p.tables e below (s₁.setTop (mkF m 0 #[.val (.long q0), .second, .unset, .unset, .unset, .unset, .unset, .unset, .unset, .unset, .unset] [])) t → Steps p.tables e below (s₁.setTop (entryFrame m #[(.long q0)] maxLocals)) t := fun t k => castTop (ef_0 m q0) k
  have N0 := Fr.nil n0
  obtain ⟨T1, h1, X1, e1, E1, A1, D1, -, st1⟩ := newO X0 hx hZ hown (hw _ (List.mem_of_getElem? (i := 0) rfl)) (hw _ (List.mem_of_getElem? (i := 1) rfl)) (hw _ (List.mem_of_getElem? (i := 2) rfl)) e0 (g := (mkF m 0 #[.val (.long q0), .second, .unset, .unset, .unset, .unset, .unset, .unset, .unset, .unset, .unset] [])) rfl (hb hby at_0) (by decide) (by decide)
  obtain ⟨b1, g1⟩ : ∃ z, z = h0.size := ⟨_, rfl⟩
  rw [← g1] at A1 D1 st1
  have gn1 : n0 ≤ b1 := Nat.le_trans Z0 (Nat.le_of_eq g1.symm)
  have Z1 : n0 ≤ h1.size := Nat.le_trans Z0 E1.1
  have F1_state : Fld Z h1 b1 "com/example/moonclaim/moonclaim/engine/Rng" "state" "J" (.long (0 : Int64)) := D1 (Or.inl (hw _ (List.mem_of_getElem? (i := 10) rfl))) (ty := .long) (by decide)
  obtain ⟨_, _, ⟨T2, L2, k2, n2⟩, -, X2, ⟨Lc2, hQ2, l2, y2, z2⟩, st2⟩ := X1.specialBack hx (y := (⟨"com/example/moonclaim/moonclaim/engine/Rng", "<init>", "(J)V"⟩ : MethodName)) rfl hown (mvT hZ (hw _ (List.mem_of_getElem? (i := 3) rfl))) (mvT hZ (hw _ (List.mem_of_getElem? (i := 4) rfl))) (mvT hZ (hw _ (List.mem_of_getElem? (i := 5) rfl))) (by decide) (backOf (W := 1) (rm1 l Z a0 hw [] b1 q0 (.long (0 : Int64)) h1 n0 Z1 F1_state A1 gn1) hZ (hw _ (List.mem_of_getElem? (i := 5) rfl)) (hw _ (List.mem_of_getElem? (i := 2) rfl)) (by decide) (by decide)) (g := (mkF m 5 #[.val (.long q0), .second, .unset, .unset, .unset, .unset, .unset, .unset, .unset, .unset, .unset] [(.long q0), (.ref b1), (.ref b1)])) rfl (by rw [hml]; rfl) (Steps.refl _) (a := b1) (argsL := [(.long q0)]) (rest := [(.ref b1)]) (lenOf pd_0 rfl) rfl (by show 2 * 0 + _ ≤ _; exact Nat.le_of_eq rfl) (hb hby at_5) (fun _ _ => ⟨rfl, e1, (by decide : 1 + 0 ≤ _), (by decide : 1 + 0 ≤ _)⟩)
  dsimp only [Pt.U, Pt.locs, Pt.cells, Pt.slots] at X2 l2 y2 z2 st2 hQ2
  subst l2 y2 z2
  obtain ⟨rfl, N2q, K2q, F2q⟩ := hQ2
  have N2 := Fr.app N0 N2q
  have Z2 : n0 ≤ T2.heap.size := Nat.le_trans Z1 K2q.1
  have G3 : Exa Z T2.heap b1 "com/example/moonclaim/moonclaim/engine/Rng" := A1.keep K2q
  obtain ⟨cq4, kq4, q4a, q4b, q4c⟩ := isOf hZ rfl G3
  obtain ⟨_, _, ⟨T4, L4, k4, n4⟩, -, X4, ⟨Lc4, hQ4, l4, y4, z4⟩, st4⟩ := X2.virtualBack hx (y := (⟨"com/example/moonclaim/moonclaim/engine/Rng", "nextLong", "()J"⟩ : MethodName)) (z := (⟨"com/example/moonclaim/moonclaim/engine/Rng", "nextLong", "()J"⟩ : MethodName)) hown (mvT hZ (hw _ (List.mem_of_getElem? (i := 11) rfl))) (mvT hZ (hw _ (List.mem_of_getElem? (i := 12) rfl))) (notFace_of_selects (args := #[]) (mvT hZ (hw _ (List.mem_of_getElem? (i := 14) rfl)))) (mvT hZ (hw _ (List.mem_of_getElem? (i := 14) rfl))) (mvT hZ (hw _ (List.mem_of_getElem? (i := 13) rfl))) (by decide) (backOf (W := 0) (rm3 l Z a0 hw [] b1 q0 T2.heap n0 Z2 F2q G3 gn1) hZ (hw _ (List.mem_of_getElem? (i := 15) rfl)) (hw _ (List.mem_of_getElem? (i := 2) rfl)) (by decide) (by decide)) q4a q4c (g := (mkF m 10 #[.val (.long q0), .second, .val (.ref b1), .unset, .unset, .unset, .unset, .unset, .unset, .unset, .unset] [(.ref b1)])) rfl (by rw [hml]; rfl) (Steps.refl _) (argsL := []) (rest := []) (lenOf pd_1 rfl) rfl (by show 2 * 0 + _ ≤ _; exact Nat.le_of_eq rfl) (hb hby at_10) (fun _ _ => ⟨rfl, rfl, (by decide : 1 + 0 ≤ _), (by decide : 1 + 0 ≤ _)⟩)
  dsimp only [Pt.U, Pt.locs, Pt.cells, Pt.slots] at X4 l4 y4 z4 st4 hQ4
  subst l4 y4 z4
  obtain ⟨rfl, N4q, K4q, F4q⟩ := hQ4
  have N4 := Fr.app N2 N4q
  have Z4 : n0 ≤ T4.heap.size := Nat.le_trans Z2 K4q.1
  have G5 : Exa Z T4.heap b1 "com/example/moonclaim/moonclaim/engine/Rng" := G3.keep K4q
  obtain ⟨cq6, kq6, q6a, q6b, q6c⟩ := isOf hZ rfl G5
  obtain ⟨_, _, ⟨T6, L6, k6, n6⟩, -, X6, ⟨Lc6, hQ6, l6, y6, z6⟩, st6⟩ := X4.virtualBack hx (y := (⟨"com/example/moonclaim/moonclaim/engine/Rng", "nextLong", "()J"⟩ : MethodName)) (z := (⟨"com/example/moonclaim/moonclaim/engine/Rng", "nextLong", "()J"⟩ : MethodName)) hown (mvT hZ (hw _ (List.mem_of_getElem? (i := 11) rfl))) (mvT hZ (hw _ (List.mem_of_getElem? (i := 12) rfl))) (notFace_of_selects (args := #[]) (mvT hZ (hw _ (List.mem_of_getElem? (i := 14) rfl)))) (mvT hZ (hw _ (List.mem_of_getElem? (i := 14) rfl))) (mvT hZ (hw _ (List.mem_of_getElem? (i := 13) rfl))) (by decide) (backOf (W := 0) (rm3 l Z a0 hw [] b1 (m0 q0) T4.heap n0 Z4 F4q G5 gn1) hZ (hw _ (List.mem_of_getElem? (i := 15) rfl)) (hw _ (List.mem_of_getElem? (i := 2) rfl)) (by decide) (by decide)) q6a q6c (g := (mkF m 15 #[.val (.long q0), .second, .val (.ref b1), .val (.long (m3 q0)), .second, .unset, .unset, .unset, .unset, .unset, .unset] [(.ref b1)])) rfl (by rw [hml]; rfl) (Steps.refl _) (argsL := []) (rest := []) (lenOf pd_1 rfl) rfl (by show 2 * 0 + _ ≤ _; exact Nat.le_of_eq rfl) (hb hby at_15) (fun _ _ => ⟨rfl, rfl, (by decide : 1 + 0 ≤ _), (by decide : 1 + 0 ≤ _)⟩)
  dsimp only [Pt.U, Pt.locs, Pt.cells, Pt.slots] at X6 l6 y6 z6 st6 hQ6
  subst l6 y6 z6
  obtain ⟨rfl, N6q, K6q, F6q⟩ := hQ6
  have N6 := Fr.app N4 N6q
  have Z6 : n0 ≤ T6.heap.size := Nat.le_trans Z4 K6q.1
  have G7 : Exa Z T6.heap b1 "com/example/moonclaim/moonclaim/engine/Rng" := G5.keep K6q
  obtain ⟨_, _, ⟨T8, L8, k8, n8⟩, -, X8, ⟨Lc8, hQ8, l8, y8, z8⟩, st8⟩ := Jvm.LawKit.callS X6 hx (y := (⟨"com/example/moonclaim/moonclaim/engine/RngNextLongPinLaw", "unmix", "(J)J"⟩ : MethodName)) hown (mvT hZ (hw _ (List.mem_of_getElem? (i := 20) rfl))) (mvT hZ (hw _ (List.mem_of_getElem? (i := 21) rfl))) (mvT hZ (hw _ (List.mem_of_getElem? (i := 22) rfl))) (mvT hZ (hw _ (List.mem_of_getElem? (i := 23) rfl))) (by decide) (backOf (W := 0) (rm4 l Z a0 hw [] (m3 q0)  T6.heap ) hZ (hw _ (List.mem_of_getElem? (i := 23) rfl)) (hw _ (List.mem_of_getElem? (i := 22) rfl)) (by decide) (by decide)) (g := (mkF m 36 #[.val (.long q0), .second, .val (.ref b1), .val (.long (m3 q0)), .second, .val (.long (m3 (m0 q0))), .second, .val (.long (q0 + (-7046029254386353131 : Int64))), .second, .val (.long ((q0 + (-7046029254386353131 : Int64)) + (-7046029254386353131 : Int64))), .second] [(.long (m3 q0))])) rfl (by rw [hml]; rfl) (argsL := [(.long (m3 q0))]) (rest := []) (lenOf pd_2 rfl) rfl (by show 2 * 0 + _ ≤ _; exact Nat.le_of_eq rfl) (hb hby at_36) (fun _ _ => ⟨rfl, rfl, (by decide : 1 + 0 ≤ _), (by decide : 1 + 0 ≤ _)⟩)
  dsimp only [Pt.U, Pt.locs, Pt.cells, Pt.slots] at X8 l8 y8 z8 st8 hQ8
  subst l8 y8 z8
  obtain ⟨rfl, rfl, e8⟩ := hQ8
  rw [List.append_nil] at X8
  obtain ⟨_, _, ⟨T9, L9, k9, n9⟩, -, X9, ⟨Lc9, hQ9, l9, y9, z9⟩, st9⟩ := Jvm.LawKit.callS X8 hx (y := (⟨"com/example/moonclaim/moonclaim/engine/RngNextLongPinLaw", "unmix", "(J)J"⟩ : MethodName)) hown (mvT hZ (hw _ (List.mem_of_getElem? (i := 20) rfl))) (mvT hZ (hw _ (List.mem_of_getElem? (i := 21) rfl))) (mvT hZ (hw _ (List.mem_of_getElem? (i := 22) rfl))) (mvT hZ (hw _ (List.mem_of_getElem? (i := 23) rfl))) (by decide) (backOf (W := 0) (rm4 l Z a0 hw [] (m3 (m0 q0))  T6.heap ) hZ (hw _ (List.mem_of_getElem? (i := 23) rfl)) (hw _ (List.mem_of_getElem? (i := 22) rfl)) (by decide) (by decide)) (g := (mkF m 47 #[.val (.long q0), .second, .val (.ref b1), .val (.long (m3 q0)), .second, .val (.long (m3 (m0 q0))), .second, .val (.long (q0 + (-7046029254386353131 : Int64))), .second, .val (.long ((q0 + (-7046029254386353131 : Int64)) + (-7046029254386353131 : Int64))), .second] [(.long (m3 (m0 q0)))])) rfl (by rw [hml]; rfl) (argsL := [(.long (m3 (m0 q0)))]) (rest := []) (lenOf pd_2 rfl) rfl (by show 2 * 0 + _ ≤ _; exact Nat.le_of_eq rfl) (hb hby at_47) (fun _ _ => ⟨rfl, e8, (by decide : 1 + 0 ≤ _), (by decide : 1 + 0 ≤ _)⟩)
  dsimp only [Pt.U, Pt.locs, Pt.cells, Pt.slots] at X9 l9 y9 z9 st9 hQ9
  subst l9 y9 z9
  obtain ⟨rfl, rfl, e9⟩ := hQ9
  rw [List.append_nil] at X9
  have K10 : ∀ t, Steps p.tables e below (T9.setTop (mkF m 61 #[.val (.long q0), .second, .val (.ref b1), .val (.long (m3 q0)), .second, .val (.long (m3 (m0 q0))), .second, .val (.long (q0 + (-7046029254386353131 : Int64))), .second, .val (.long ((q0 + (-7046029254386353131 : Int64)) + (-7046029254386353131 : Int64))), .second] [(.int (1 : Int32))])) t → Steps p.tables e below (s₁.setTop (mkF m 0 #[.val (.long q0), .second, .unset, .unset, .unset, .unset, .unset, .unset, .unset, .unset, .unset] [])) t := by
    intro t kt
    show Steps p.tables e below (s₁.setTop (mkF m 0 #[.val (.long q0), .second, .unset, .unset, .unset, .unset, .unset, .unset, .unset, .unset, .unset] [])) _
    refine st1 _ ?_
    show Steps p.tables e below (T1.setTop (mkF m 3 #[.val (.long q0), .second, .unset, .unset, .unset, .unset, .unset, .unset, .unset, .unset, .unset] [(.ref b1)])) _
    refine XS.dup X1.here hx rfl (hb hby at_3) rfl rfl ?_
    show Steps p.tables e below (T1.setTop (mkF m 4 #[.val (.long q0), .second, .unset, .unset, .unset, .unset, .unset, .unset, .unset, .unset, .unset] [(.ref b1), (.ref b1)])) _
    refine XS.lloadN X1.here hx rfl (hb hby at_4) rfl ?_
    show Steps p.tables e below (T1.setTop (mkF m 5 #[.val (.long q0), .second, .unset, .unset, .unset, .unset, .unset, .unset, .unset, .unset, .unset] [(.long q0), (.ref b1), (.ref b1)])) _
    refine st2.trans ?_
    show Steps p.tables e below (T2.setTop (mkF m 8 #[.val (.long q0), .second, .unset, .unset, .unset, .unset, .unset, .unset, .unset, .unset, .unset] [(.ref b1)])) _
    refine XS.astoreN X2.here hx rfl (hb hby at_8) rfl rfl (l' := #[.val (.long q0), .second, .val (.ref b1), .unset, .unset, .unset, .unset, .unset, .unset, .unset, .unset]) rfl ?_
    show Steps p.tables e below (T2.setTop (mkF m 9 #[.val (.long q0), .second, .val (.ref b1), .unset, .unset, .unset, .unset, .unset, .unset, .unset, .unset] [])) _
    refine XS.aloadN X2.here hx rfl (hb hby at_9) rfl rfl ?_
    show Steps p.tables e below (T2.setTop (mkF m 10 #[.val (.long q0), .second, .val (.ref b1), .unset, .unset, .unset, .unset, .unset, .unset, .unset, .unset] [(.ref b1)])) _
    refine st4.trans ?_
    show Steps p.tables e below (T4.setTop (mkF m 13 #[.val (.long q0), .second, .val (.ref b1), .unset, .unset, .unset, .unset, .unset, .unset, .unset, .unset] [(.long (m3 q0))])) _
    refine XS.lstoreN X4.here hx rfl (hb hby at_13) rfl (l' := #[.val (.long q0), .second, .val (.ref b1), .val (.long (m3 q0)), .second, .unset, .unset, .unset, .unset, .unset, .unset]) rfl ?_
    show Steps p.tables e below (T4.setTop (mkF m 14 #[.val (.long q0), .second, .val (.ref b1), .val (.long (m3 q0)), .second, .unset, .unset, .unset, .unset, .unset, .unset] [])) _
    refine XS.aloadN X4.here hx rfl (hb hby at_14) rfl rfl ?_
    show Steps p.tables e below (T4.setTop (mkF m 15 #[.val (.long q0), .second, .val (.ref b1), .val (.long (m3 q0)), .second, .unset, .unset, .unset, .unset, .unset, .unset] [(.ref b1)])) _
    refine st6.trans ?_
    show Steps p.tables e below (T6.setTop (mkF m 18 #[.val (.long q0), .second, .val (.ref b1), .val (.long (m3 q0)), .second, .unset, .unset, .unset, .unset, .unset, .unset] [(.long (m3 (m0 q0)))])) _
    refine XS.lstore X6.here hx rfl (hb hby at_18) rfl (l' := #[.val (.long q0), .second, .val (.ref b1), .val (.long (m3 q0)), .second, .val (.long (m3 (m0 q0))), .second, .unset, .unset, .unset, .unset]) rfl ?_
    show Steps p.tables e below (T6.setTop (mkF m 20 #[.val (.long q0), .second, .val (.ref b1), .val (.long (m3 q0)), .second, .val (.long (m3 (m0 q0))), .second, .unset, .unset, .unset, .unset] [])) _
    refine XS.lloadN X6.here hx rfl (hb hby at_20) rfl ?_
    show Steps p.tables e below (T6.setTop (mkF m 21 #[.val (.long q0), .second, .val (.ref b1), .val (.long (m3 q0)), .second, .val (.long (m3 (m0 q0))), .second, .unset, .unset, .unset, .unset] [(.long q0)])) _
    refine X6.ldc2Long hx hown (mvT hZ (hw _ (List.mem_of_getElem? (i := 19) rfl))) (g := (mkF m 21 #[.val (.long q0), .second, .val (.ref b1), .val (.long (m3 q0)), .second, .val (.long (m3 (m0 q0))), .second, .unset, .unset, .unset, .unset] [(.long q0)])) rfl (hb hby at_21) _ ?_
    show Steps p.tables e below (T6.setTop (mkF m 24 #[.val (.long q0), .second, .val (.ref b1), .val (.long (m3 q0)), .second, .val (.long (m3 (m0 q0))), .second, .unset, .unset, .unset, .unset] [(.long (-7046029254386353131 : Int64)), (.long q0)])) _
    refine XS.ladd X6.here hx rfl (hb hby at_24) rfl ?_
    show Steps p.tables e below (T6.setTop (mkF m 25 #[.val (.long q0), .second, .val (.ref b1), .val (.long (m3 q0)), .second, .val (.long (m3 (m0 q0))), .second, .unset, .unset, .unset, .unset] [(.long (q0 + (-7046029254386353131 : Int64)))])) _
    refine XS.lstore X6.here hx rfl (hb hby at_25) rfl (l' := #[.val (.long q0), .second, .val (.ref b1), .val (.long (m3 q0)), .second, .val (.long (m3 (m0 q0))), .second, .val (.long (q0 + (-7046029254386353131 : Int64))), .second, .unset, .unset]) rfl ?_
    show Steps p.tables e below (T6.setTop (mkF m 27 #[.val (.long q0), .second, .val (.ref b1), .val (.long (m3 q0)), .second, .val (.long (m3 (m0 q0))), .second, .val (.long (q0 + (-7046029254386353131 : Int64))), .second, .unset, .unset] [])) _
    refine XS.lload X6.here hx rfl (hb hby at_27) rfl ?_
    show Steps p.tables e below (T6.setTop (mkF m 29 #[.val (.long q0), .second, .val (.ref b1), .val (.long (m3 q0)), .second, .val (.long (m3 (m0 q0))), .second, .val (.long (q0 + (-7046029254386353131 : Int64))), .second, .unset, .unset] [(.long (q0 + (-7046029254386353131 : Int64)))])) _
    refine X6.ldc2Long hx hown (mvT hZ (hw _ (List.mem_of_getElem? (i := 19) rfl))) (g := (mkF m 29 #[.val (.long q0), .second, .val (.ref b1), .val (.long (m3 q0)), .second, .val (.long (m3 (m0 q0))), .second, .val (.long (q0 + (-7046029254386353131 : Int64))), .second, .unset, .unset] [(.long (q0 + (-7046029254386353131 : Int64)))])) rfl (hb hby at_29) _ ?_
    show Steps p.tables e below (T6.setTop (mkF m 32 #[.val (.long q0), .second, .val (.ref b1), .val (.long (m3 q0)), .second, .val (.long (m3 (m0 q0))), .second, .val (.long (q0 + (-7046029254386353131 : Int64))), .second, .unset, .unset] [(.long (-7046029254386353131 : Int64)), (.long (q0 + (-7046029254386353131 : Int64)))])) _
    refine XS.ladd X6.here hx rfl (hb hby at_32) rfl ?_
    show Steps p.tables e below (T6.setTop (mkF m 33 #[.val (.long q0), .second, .val (.ref b1), .val (.long (m3 q0)), .second, .val (.long (m3 (m0 q0))), .second, .val (.long (q0 + (-7046029254386353131 : Int64))), .second, .unset, .unset] [(.long ((q0 + (-7046029254386353131 : Int64)) + (-7046029254386353131 : Int64)))])) _
    refine XS.lstore X6.here hx rfl (hb hby at_33) rfl (l' := #[.val (.long q0), .second, .val (.ref b1), .val (.long (m3 q0)), .second, .val (.long (m3 (m0 q0))), .second, .val (.long (q0 + (-7046029254386353131 : Int64))), .second, .val (.long ((q0 + (-7046029254386353131 : Int64)) + (-7046029254386353131 : Int64))), .second]) rfl ?_
    show Steps p.tables e below (T6.setTop (mkF m 35 #[.val (.long q0), .second, .val (.ref b1), .val (.long (m3 q0)), .second, .val (.long (m3 (m0 q0))), .second, .val (.long (q0 + (-7046029254386353131 : Int64))), .second, .val (.long ((q0 + (-7046029254386353131 : Int64)) + (-7046029254386353131 : Int64))), .second] [])) _
    refine XS.lloadN X6.here hx rfl (hb hby at_35) rfl ?_
    show Steps p.tables e below (T6.setTop (mkF m 36 #[.val (.long q0), .second, .val (.ref b1), .val (.long (m3 q0)), .second, .val (.long (m3 (m0 q0))), .second, .val (.long (q0 + (-7046029254386353131 : Int64))), .second, .val (.long ((q0 + (-7046029254386353131 : Int64)) + (-7046029254386353131 : Int64))), .second] [(.long (m3 q0))])) _
    refine st8 _ ?_
    show Steps p.tables e below (T8.setTop (mkF m 39 #[.val (.long q0), .second, .val (.ref b1), .val (.long (m3 q0)), .second, .val (.long (m3 (m0 q0))), .second, .val (.long (q0 + (-7046029254386353131 : Int64))), .second, .val (.long ((q0 + (-7046029254386353131 : Int64)) + (-7046029254386353131 : Int64))), .second] [(.long (f4 (m3 q0)))])) _
    refine XS.lload X8.here hx rfl (hb hby at_39) rfl ?_
    show Steps p.tables e below (T8.setTop (mkF m 41 #[.val (.long q0), .second, .val (.ref b1), .val (.long (m3 q0)), .second, .val (.long (m3 (m0 q0))), .second, .val (.long (q0 + (-7046029254386353131 : Int64))), .second, .val (.long ((q0 + (-7046029254386353131 : Int64)) + (-7046029254386353131 : Int64))), .second] [(.long (q0 + (-7046029254386353131 : Int64))), (.long (f4 (m3 q0)))])) _
    refine XS.lcmp X8.here hx rfl (hb hby at_41) rfl ?_
    show Steps p.tables e below (T8.setTop (mkF m 42 #[.val (.long q0), .second, .val (.ref b1), .val (.long (m3 q0)), .second, .val (.long (m3 (m0 q0))), .second, .val (.long (q0 + (-7046029254386353131 : Int64))), .second, .val (.long ((q0 + (-7046029254386353131 : Int64)) + (-7046029254386353131 : Int64))), .second] [(.int (lcmpW (f4 (m3 q0)) (q0 + (-7046029254386353131 : Int64))))])) _
    refine XS.ifNo X8.here hx rfl (hb hby at_42) rfl ((if0 _ _).trans (teq ((lw_eq _ _).mpr (show (f4 (m3 q0)) = (q0 + (-7046029254386353131 : Int64)) from (own_unmix _)))).2) ?_
    show Steps p.tables e below (T8.setTop (mkF m 45 #[.val (.long q0), .second, .val (.ref b1), .val (.long (m3 q0)), .second, .val (.long (m3 (m0 q0))), .second, .val (.long (q0 + (-7046029254386353131 : Int64))), .second, .val (.long ((q0 + (-7046029254386353131 : Int64)) + (-7046029254386353131 : Int64))), .second] [])) _
    refine XS.lload X8.here hx rfl (hb hby at_45) rfl ?_
    show Steps p.tables e below (T8.setTop (mkF m 47 #[.val (.long q0), .second, .val (.ref b1), .val (.long (m3 q0)), .second, .val (.long (m3 (m0 q0))), .second, .val (.long (q0 + (-7046029254386353131 : Int64))), .second, .val (.long ((q0 + (-7046029254386353131 : Int64)) + (-7046029254386353131 : Int64))), .second] [(.long (m3 (m0 q0)))])) _
    refine st9 _ ?_
    show Steps p.tables e below (T9.setTop (mkF m 50 #[.val (.long q0), .second, .val (.ref b1), .val (.long (m3 q0)), .second, .val (.long (m3 (m0 q0))), .second, .val (.long (q0 + (-7046029254386353131 : Int64))), .second, .val (.long ((q0 + (-7046029254386353131 : Int64)) + (-7046029254386353131 : Int64))), .second] [(.long (f4 (m3 (m0 q0))))])) _
    refine XS.lload X9.here hx rfl (hb hby at_50) rfl ?_
    show Steps p.tables e below (T9.setTop (mkF m 52 #[.val (.long q0), .second, .val (.ref b1), .val (.long (m3 q0)), .second, .val (.long (m3 (m0 q0))), .second, .val (.long (q0 + (-7046029254386353131 : Int64))), .second, .val (.long ((q0 + (-7046029254386353131 : Int64)) + (-7046029254386353131 : Int64))), .second] [(.long ((q0 + (-7046029254386353131 : Int64)) + (-7046029254386353131 : Int64))), (.long (f4 (m3 (m0 q0))))])) _
    refine XS.lcmp X9.here hx rfl (hb hby at_52) rfl ?_
    show Steps p.tables e below (T9.setTop (mkF m 53 #[.val (.long q0), .second, .val (.ref b1), .val (.long (m3 q0)), .second, .val (.long (m3 (m0 q0))), .second, .val (.long (q0 + (-7046029254386353131 : Int64))), .second, .val (.long ((q0 + (-7046029254386353131 : Int64)) + (-7046029254386353131 : Int64))), .second] [(.int (lcmpW (f4 (m3 (m0 q0))) ((q0 + (-7046029254386353131 : Int64)) + (-7046029254386353131 : Int64))))])) _
    refine XS.ifNo X9.here hx rfl (hb hby at_53) rfl ((if0 _ _).trans (teq ((lw_eq _ _).mpr (show (f4 (m3 (m0 q0))) = ((q0 + (-7046029254386353131 : Int64)) + (-7046029254386353131 : Int64)) from (own_unmix _)))).2) ?_
    show Steps p.tables e below (T9.setTop (mkF m 56 #[.val (.long q0), .second, .val (.ref b1), .val (.long (m3 q0)), .second, .val (.long (m3 (m0 q0))), .second, .val (.long (q0 + (-7046029254386353131 : Int64))), .second, .val (.long ((q0 + (-7046029254386353131 : Int64)) + (-7046029254386353131 : Int64))), .second] [])) _
    refine XS.iconst X9.here hx rfl (hb hby at_56) ?_
    show Steps p.tables e below (T9.setTop (mkF m 57 #[.val (.long q0), .second, .val (.ref b1), .val (.long (m3 q0)), .second, .val (.long (m3 (m0 q0))), .second, .val (.long (q0 + (-7046029254386353131 : Int64))), .second, .val (.long ((q0 + (-7046029254386353131 : Int64)) + (-7046029254386353131 : Int64))), .second] [(.int (1 : Int32))])) _
    refine XS.goto X9.here hx rfl (pc0 := 57) (pc' := 61) rfl (hb hby at_57) (by decide) (by decide) ?_
    exact kt
  obtain ⟨fs, hr, hrun, hended, hW, hsame⟩ := X9.leave (v := some (.int (1 : Int32))) (fun h => by rw [Bd.returns] at h; cases h)
  refine ⟨_, _, pre0 _ (K10 _ ?_), hrun, hended, _, _, rfl, ?_, ⟨_, rfl⟩, hW, hsame.mono (by decide) (by decide)⟩
  · show Steps p.tables e below (T9.setTop (mkF m 61 #[.val (.long q0), .second, .val (.ref b1), .val (.long (m3 q0)), .second, .val (.long (m3 (m0 q0))), .second, .val (.long (q0 + (-7046029254386353131 : Int64))), .second, .val (.long ((q0 + (-7046029254386353131 : Int64)) + (-7046029254386353131 : Int64))), .second] [(.int (1 : Int32))])) _
    exact retN X9 hx (t := .boolean) Bd.returns (by simp) (hb hby at_61) hr
  · show Q0 Z q0  h0 n0 _ T9.heap _
    rw [e9]
    exact ⟨rfl, N6⟩
set_option maxRecDepth 65536 in
set_option maxHeartbeats 40000000 in
theorem comes_1 {Post : Tables → Env → Array Value → State → Outcome → State → Prop} (hpost : ∀ tb e args s v u, (limb_1_1.after args s (.returned v) u = true ∧ limb_1_2.after args s (.returned v) u = true ∧ True) → FrameEnd s (.returned v) u (Jvm.fieldLocs frame_1_writes args s ++ Jvm.arrayLocs frame_1_arrays args s ++ Jvm.staticLocs frame_1_statics s) 16 128 → Post tb e args s (.returned v) u) :
    ArmFor flags0 classFile x code maxLocals ret World_1 tables_1 room_1 Calls_1 rest_1 Pre_1 Post := by
  intro l hfl _ _ p e ha hc hk s m args below hf hA hF happ hP
  obtain ⟨hcalls, hrest, hpre⟩ := hP
  obtain ⟨-, -, -, hnamed, -, -, -, hat⟩ := (Spec.applies_iff hf).mp happ
  obtain ⟨hg, hn⟩ := and_e (Cond.before_iff.mp (show (Jvm.Cond.and given_1 narrow_1).before args s = true from hpre))
  obtain ⟨hcount, hk0⟩ := and_e hg
  have hi0 := hk0
  obtain ⟨w0, rfl⟩ : ∃ w0 : Value, args = #[w0] := by
    have hs : args.size = 1 := by simpa [Cond.value, given_1] using hcount
    obtain ⟨L⟩ := args
    match L, hs with
    | [w0], _ => exact ⟨w0, rfl⟩
  have hw := fun d (hd : d ∈ tables_1) => atoms_spec (ws := Jvm.Cond.code x code maxLocals ret :: tables_1) hat d (List.mem_cons_of_mem _ hd)
  obtain ⟨i0, ei0⟩ := isL_v hi0
  obtain rfl : w0 = (.long i0) := Option.some.inj ei0
  obtain ⟨n, o, h1, h2, h3, v, L, rfl, hQ, hq⟩ := rm0 l s _ hw tables_1 i0 s.heap s.heap.size (Nat.le_refl _) p e ha hc hk s m _ below hf ((Spec.applies_iff_loose hf).mp happ).1 ⟨rfl, State.Warmed39.refl s, rfl⟩ trivial
  obtain ⟨rfl, N⟩ : v = some (.int 1) ∧ Fr s.heap.size L := by
    exact ⟨hQ.1, hQ.2⟩
  refine ⟨n, _, h1, h2, h3, hpost _ _ _ _ _ _ ⟨Cond.after_iff.mpr rfl, Cond.after_iff.mpr (eq_i res_at (Term.int_eval (1)) rfl), trivial⟩ ⟨hq.1, hq.2.1, (hq.2.2.sift fun y hy => Or.inr (N y hy)).mono (by decide) (by decide)⟩⟩
theorem main_1_1 : Claimed_1_1 := comes_1 fun _ _ _ _ _ _ h hF => ⟨h.1, hF⟩
theorem main_1_2 : Claimed_1_2 := comes_1 fun _ _ _ _ _ _ h hF => ⟨h.2.1, hF⟩
end Jvm.Pilot.@@N@@
namespace Jvm.Pilot.@@N@@
open Jvm Jvm.ClassFile Sem Op Lib Jvm.Free Jvm.Stand Jvm.Pilot.@@N@@.Jvm.D
/-! MADE BY PROGRAM (witnessworld.py) out of the Statement's table words and the real class files: 7 classes; the members and pool entries that the words name. The judged class is class 1, her method 2. -/
namespace start1
open Jvm.ClassFile
def u (s : String) : CpInfo := .utf8 (stringToUtf16 s)
/-- a pool by its gaps: so many unusable entries, then the entry; so many at the end -/
def gap : Nat → List CpInfo → List CpInfo
  | 0, r => r
  | n + 1, r => .unusable :: gap n r
def poolList (es : List (Nat × CpInfo)) (last : Nat) : List CpInfo := es.foldr (fun e r => gap e.1 (e.2 :: r)) (gap last [])
def pool (es : List (Nat × CpInfo)) (last : Nat) : Array CpInfo := ⟨poolList es last⟩
def fileOf (pool : Array CpInfo) (this : Nat) (attrs : Array Attribute := #[]) (ms : Array MethodInfo := #[]) (fl : Nat := 33) (sup : Nat := 0) (ifs : Array Nat := #[]) (fds : Array FieldInfo := #[]) : ClassFile where
  minorVersion := 0
  majorVersion := 65
  constantPool := pool
  accessFlags := fl
  thisClass := this
  superClass := sup
  interfaces := ifs
  fields := fds
  methods := ms
  attributes := attrs
def plain (name : String) (sup : Option ClassId) : Class where
  name := name
  kind := .ordinary
  loader := none
  accessFlags := 33
  super := sup
  interfaces := #[]
  cf := none
  fields := #[]
  methods := #[]
  instanceTypes := #[]
  staticTypes := #[]
  resolved := #[]
  callSites := []
  init := .initialized
  statics := none
  mirror := none

def pool0 : Array CpInfo := pool [(5, u "<init>"), (0, u "()V"), (1, .class_ 10), (1, u "java/lang/Object")] 113

def k0c0 : Code := { maxStack := 0, maxLocals := 1, code := object_method_1_code, exceptionTable := #[], attributes := #[] }
def k0m0 : Method := { name := "<init>", desc := "()V", sig := { parameters := [], returnType := none }, accessFlags := 1, code := some k0c0 }
/-- java/lang/Object -/
def k0 : Class := { plain "java/lang/Object" none with
  accessFlags := 33
  interfaces := #[]
  cf := some (fileOf pool0 8 #[] #[{ accessFlags := 1, nameIndex := 5, descriptorIndex := 6, attributes := #[] }] 33 0 #[] #[])
  fields := #[]
  methods := #[k0m0]
  instanceTypes := #[]
  staticTypes := #[]
  resolved := Array.replicate 124 none
  statics := none }

def pool1 : Array CpInfo := pool [(2, .class_ 4), (1, u "java/lang/Object"), (0, u "<init>"), (0, u "()V"), (0, .long 3573116690164977347), (1, .long 10871156337175269513), (1, .class_ 12), (0, u "com/example/moonclaim/moonclaim/engine/Rng"), (0, .methodref 11 14), (0, .nameAndType 5 15), (0, u "(J)V"), (0, .methodref 11 17), (0, .nameAndType 18 19), (0, u "nextLong"), (0, u "()J"), (0, .long 11400714819323198485), (1, .methodref 23 24), (0, .class_ 25), (0, .nameAndType 26 27), (0, u "com/example/moonclaim/moonclaim/engine/RngNextLongPinLaw"), (0, u "unmix"), (0, u "(J)J"), (2, u "law"), (0, u "(J)Z")] 3

def k1m0 : Method := { name := "<init>", desc := "()V", sig := { parameters := [], returnType := none }, accessFlags := 1, code := none }
def k1c1 : Code := { maxStack := 5, maxLocals := 2, code := method_2_code, exceptionTable := #[], attributes := #[] }
def k1m1 : Method := { name := "unmix", desc := "(J)J", sig := { parameters := [.long], returnType := some .long }, accessFlags := 10, code := some k1c1 }
def k1c2 : Code := { maxStack := 4, maxLocals := 11, code := code, exceptionTable := #[], attributes := #[] }
def k1m2 : Method := { name := "law", desc := "(J)Z", sig := { parameters := [.long], returnType := some .boolean }, accessFlags := 9, code := some k1c2 }
/-- com/example/moonclaim/moonclaim/engine/RngNextLongPinLaw -/
def k1 : Class := { plain "com/example/moonclaim/moonclaim/engine/RngNextLongPinLaw" (some 0) with
  accessFlags := 49
  interfaces := #[]
  cf := some (fileOf pool1 23 #[] #[{ accessFlags := 1, nameIndex := 5, descriptorIndex := 6, attributes := #[] }, { accessFlags := 10, nameIndex := 26, descriptorIndex := 27, attributes := #[] }, { accessFlags := 9, nameIndex := 30, descriptorIndex := 31, attributes := #[] }] 49 2 #[] #[])
  fields := #[]
  methods := #[k1m0, k1m1, k1m2]
  instanceTypes := #[]
  staticTypes := #[]
  resolved := Array.replicate 35 none
  statics := none }

def pool2 : Array CpInfo := pool [(1, .methodref 2 3), (0, .class_ 4), (0, .nameAndType 5 6), (0, u "java/lang/Object"), (0, u "<init>"), (0, u "()V"), (0, .fieldref 8 9), (0, .class_ 10), (0, .nameAndType 11 12), (0, u "com/example/moonclaim/moonclaim/engine/Rng"), (0, u "state"), (0, u "J"), (0, .long 11400714819323198485), (1, .long 13787848793156543929), (1, .long 10723151780598845931), (12, u "nextLong"), (0, u "()J"), (16, u "GAMMA"), (1, u "(J)V")] 24

def k2c0 : Code := { maxStack := 3, maxLocals := 3, code := prog_13_method_1_code, exceptionTable := #[], attributes := #[] }
def k2m0 : Method := { name := "<init>", desc := "(J)V", sig := { parameters := [.long], returnType := none }, accessFlags := 1, code := some k2c0 }
def k2c1 : Code := { maxStack := 5, maxLocals := 3, code := prog_13_method_2_code, exceptionTable := #[], attributes := #[] }
def k2m1 : Method := { name := "nextLong", desc := "()J", sig := { parameters := [], returnType := some .long }, accessFlags := 1, code := some k2c1 }
/-- com/example/moonclaim/moonclaim/engine/Rng -/
def k2 : Class := { plain "com/example/moonclaim/moonclaim/engine/Rng" (some 0) with
  accessFlags := 49
  interfaces := #[]
  cf := some (fileOf pool2 8 #[] #[{ accessFlags := 1, nameIndex := 5, descriptorIndex := 50, attributes := #[] }, { accessFlags := 1, nameIndex := 30, descriptorIndex := 31, attributes := #[] }] 49 2 #[] #[{ accessFlags := 26, nameIndex := 48, descriptorIndex := 12, attributes := #[] }, { accessFlags := 2, nameIndex := 11, descriptorIndex := 12, attributes := #[] }])
  fields := #[{ name := "GAMMA", type := .long, accessFlags := 26, slot := 0, constantValue := 0 }, { name := "state", type := .long, accessFlags := 2, slot := 0, constantValue := 0 }]
  methods := #[k2m0, k2m1]
  instanceTypes := #[.long]
  staticTypes := #[.long]
  resolved := Array.replicate 75 none
  statics := none }

def pool3 : Array CpInfo := pool [(1, u "java/lang/Cloneable"), (0, .class_ 1), (0, u "java/lang/Object"), (0, .class_ 3)] 3

/-- java/lang/Cloneable -/
def k3 : Class := { plain "java/lang/Cloneable" (some 0) with
  accessFlags := 1537
  interfaces := #[]
  cf := some (fileOf pool3 2 #[] #[] 1537 4 #[] #[])
  fields := #[]
  methods := #[]
  instanceTypes := #[]
  staticTypes := #[]
  resolved := Array.replicate 8 none
  statics := none }

def pool4 : Array CpInfo := pool [(1, u "java/io/Serializable"), (0, .class_ 1), (0, u "java/lang/Object"), (0, .class_ 3)] 3

/-- java/io/Serializable -/
def k4 : Class := { plain "java/io/Serializable" (some 0) with
  accessFlags := 1537
  interfaces := #[]
  cf := some (fileOf pool4 2 #[] #[] 1537 4 #[] #[])
  fields := #[]
  methods := #[]
  instanceTypes := #[]
  staticTypes := #[]
  resolved := Array.replicate 8 none
  statics := none }

/-- the primitive byte -/
def k5 : Class := { plain "byte" none with kind := .primitive 'B', accessFlags := 0x411 }
/-- [B -/
def k6 : Class := { plain "[B" (some 0) with kind := .array 5 .byte, interfaces := #[3, 4], accessFlags := 1041 }

def heap : Heap := #[]
def classes : Array Class := #[k0, k1, k2, k3, k4, k5, k6]
def interned : List (Array UInt16 × Addr) := []
def slotsUsed : Nat := 0
def theMethod : MethodId := ⟨1, 2⟩
def args0 : Array Value := #[.long 5]
def aboutOver (below : List Frame) : State where
  vm := { classes := classes, interned := interned.toArray }
  heap := heap
  slotsUsed := slotsUsed
  threads := #[{ frames := .invoking theMethod args0 :: below }]
def below0 : List Frame := [.native { method := ⟨0, 0⟩, args := #[] }]
def about1 : State := aboutOver below0
def p0 : Program := .bare "" "" ""
def e0 : Env := launch0.env 0 0 0
theorem w_frames : about1.frames = Frame.invoking theMethod args0 :: below0 := rfl
set_option maxRecDepth 65536 in
theorem w_args : argsFit about1.vm theMethod args0 = true := by decide +kernel
set_option maxRecDepth 65536 in
theorem w_heap : heapFits about1 = true := by decide +kernel
set_option maxRecDepth 65536 in
theorem w_runnable : about1.curStatus? = some .runnable := by decide +kernel
set_option maxRecDepth 65536 in
theorem w_alone : about1.alone = true := by decide +kernel
set_option maxRecDepth 65536 in
theorem w_named : about1.methodNamed? x = some theMethod := by decide +kernel
set_option maxRecDepth 65536 in
theorem w_hears : about1.hears theMethod below0 = true := by decide +kernel
set_option maxRecDepth 65536 in
theorem w_ripe : about1.ripe theMethod args0 below0 = true := by decide +kernel
theorem w_running : about1.status = .running := rfl
set_option maxRecDepth 65536 in
theorem w_room : about1.hasRoom e0.platform room_1 = true :=
  launch0.hasRoom_least _ room_1 (by decide +kernel) (by decide +kernel) (by decide +kernel) (by decide +kernel) (by decide +kernel) (by decide +kernel)
theorem allAtoms_all (ts : List Jvm.Cond) (a : Array Jvm.Value) (st : Jvm.State) : (allAtoms ts).before a st = ts.all (fun c => c.before a st) := by
  induction ts with
  | nil => rfl
  | cons c t ih =>
    show (Jvm.Cond.and c (allAtoms t)).before a st = _
    rw [Jvm.Cond.before_and, ih, List.all_cons]
def words1 : List Jvm.Cond := Jvm.Cond.code x code maxLocals ret :: tables_1
/-- a 'code' word, met by the world's own term for the bytes: nothing is compared byte by byte -/
theorem code_word {y : MethodName} {bytes : ByteArray} {mx : Nat} {rt : Option FieldType} {a : Array Value} {s : State} {m : MethodId} {meth : Method} {c : Code} (h1 : s.methodNamed? y = some m) (h2 : s.vm.method? m = some meth) (h3 : meth.code = some c) (h4 : c.code = bytes)
    (h5 : (c.maxLocals == mx && c.exceptionTable.isEmpty && decide (c.maxStack ≤ mostOperands) && decide (meth.sig.returnType = rt) && !meth.locks && decide (parseMethodDescriptor y.desc = some meth.sig)) = true) : (Jvm.Cond.code y bytes mx rt).before a s = true := by
  simp only [Bool.and_eq_true, beq_iff_eq, Bool.not_eq_true', decide_eq_true_eq] at h5
  obtain ⟨⟨⟨⟨⟨g1, g2⟩, g3⟩, g4⟩, g5⟩, g6⟩ := h5
  simp [Cond.before, Cond.holds, Cond.value, h1, h2, h3, h4, g1, g2, g3, g4, g5, g6]
def isCode : Jvm.Cond → Bool
  | .code _ _ _ _ => true
  | _ => false
theorem all_split {L : List Jvm.Cond} {P : Jvm.Cond → Bool} (h1 : L.all (fun c => isCode c || P c) = true) (h2 : ∀ c ∈ L.filter isCode, P c = true) : L.all P = true := by
  refine List.all_eq_true.mpr fun c hc => ?_
  have h := List.all_eq_true.mp h1 c hc
  rcases Bool.eq_false_or_eq_true (isCode c) with hi | hi
  · exact h2 c (List.mem_filter.mpr ⟨hc, hi⟩)
  · simpa [hi] using h
set_option maxRecDepth 65536 in
theorem w_c0 : (Jvm.Cond.code x code maxLocals ret).before args0 about1 = true := code_word (m := ⟨1, 2⟩) (meth := k1m2) (c := k1c2) (by decide +kernel) rfl rfl rfl (by decide +kernel)
set_option maxRecDepth 65536 in
theorem w_c1 : (Jvm.Cond.code ({ cls := "com/example/moonclaim/moonclaim/engine/Rng", name := "<init>", desc := "(J)V" } : Jvm.MethodName) prog_13_method_1_code (3 : Nat) (Option.none : Option Jvm.ClassFile.FieldType)).before args0 about1 = true := code_word (m := ⟨2, 0⟩) (meth := k2m0) (c := k2c0) (by decide +kernel) rfl rfl rfl (by decide +kernel)
set_option maxRecDepth 65536 in
theorem w_c2 : (Jvm.Cond.code ({ cls := "java/lang/Object", name := "<init>", desc := "()V" } : Jvm.MethodName) object_method_1_code (1 : Nat) (Option.none : Option Jvm.ClassFile.FieldType)).before args0 about1 = true := code_word (m := ⟨0, 0⟩) (meth := k0m0) (c := k0c0) (by decide +kernel) rfl rfl rfl (by decide +kernel)
set_option maxRecDepth 65536 in
theorem w_c3 : (Jvm.Cond.code ({ cls := "com/example/moonclaim/moonclaim/engine/Rng", name := "nextLong", desc := "()J" } : Jvm.MethodName) prog_13_method_2_code (3 : Nat) (Option.some Jvm.ClassFile.FieldType.long)).before args0 about1 = true := code_word (m := ⟨2, 1⟩) (meth := k2m1) (c := k2c1) (by decide +kernel) rfl rfl rfl (by decide +kernel)
set_option maxRecDepth 65536 in
theorem w_c4 : (Jvm.Cond.code ({ cls := "com/example/moonclaim/moonclaim/engine/RngNextLongPinLaw", name := "unmix", desc := "(J)J" } : Jvm.MethodName) method_2_code (2 : Nat) (Option.some Jvm.ClassFile.FieldType.long)).before args0 about1 = true := code_word (m := ⟨1, 1⟩) (meth := k1m1) (c := k1c1) (by decide +kernel) rfl rfl rfl (by decide +kernel)
def codes1 : List Jvm.Cond := [Jvm.Cond.code x code maxLocals ret, Jvm.Cond.code ({ cls := "com/example/moonclaim/moonclaim/engine/Rng", name := "<init>", desc := "(J)V" } : Jvm.MethodName) prog_13_method_1_code (3 : Nat) (Option.none : Option Jvm.ClassFile.FieldType), Jvm.Cond.code ({ cls := "java/lang/Object", name := "<init>", desc := "()V" } : Jvm.MethodName) object_method_1_code (1 : Nat) (Option.none : Option Jvm.ClassFile.FieldType), Jvm.Cond.code ({ cls := "com/example/moonclaim/moonclaim/engine/Rng", name := "nextLong", desc := "()J" } : Jvm.MethodName) prog_13_method_2_code (3 : Nat) (Option.some Jvm.ClassFile.FieldType.long), Jvm.Cond.code ({ cls := "com/example/moonclaim/moonclaim/engine/RngNextLongPinLaw", name := "unmix", desc := "(J)J" } : Jvm.MethodName) method_2_code (2 : Nat) (Option.some Jvm.ClassFile.FieldType.long)]
set_option maxRecDepth 65536 in
theorem codes_eq : words1.filter isCode = codes1 := rfl
theorem w_codes : ∀ c ∈ words1.filter isCode, c.before args0 about1 = true := by
  rw [codes_eq]
  intro c hc
  simp only [codes1, List.mem_cons, List.not_mem_nil, or_false] at hc
  rcases hc with rfl | rfl | rfl | rfl | rfl
  · exact w_c0
  · exact w_c1
  · exact w_c2
  · exact w_c3
  · exact w_c4
set_option maxRecDepth 65536 in
theorem w_t1 : (words1.take 24).all (fun c => isCode c || c.before args0 about1) = true := by decide +kernel
set_option maxRecDepth 65536 in
theorem w_t2 : (words1.drop 24).all (fun c => isCode c || c.before args0 about1) = true := by decide +kernel
theorem w_tables : (allAtoms (Jvm.Cond.code x code maxLocals ret :: tables_1)).before args0 about1 = true := by
  rw [allAtoms_all]
  show words1.all (fun c => c.before args0 about1) = true
  refine all_split ?_ w_codes
  rw [← List.take_append_drop 24 words1, List.all_append, w_t1, w_t2]
  rfl
set_option maxRecDepth 65536 in
theorem w_case : (Jvm.Cond.and given_1 narrow_1).before args0 about1 = true := by decide +kernel
theorem w_applies : (headSpec (Jvm.Cond.code x code maxLocals ret :: tables_1) room_1).applies x e0.platform about1 = true :=
  (Spec.applies_iff w_frames).mpr ⟨w_running, w_runnable, w_alone, w_named, w_hears, w_ripe, w_room, w_tables⟩
theorem atStart : AtStart classFile x code maxLocals ret World_1 tables_1 room_1 Calls_1 rest_1 Pre_1 launch0 p0 e0 about1 theMethod args0 below0 :=
  ⟨lists_1, trivial, launch0.admits_env _ _ _, launch0.least_env, fairChoices_fair.cas, fairChoices_fair.clock, w_frames, w_args, w_heap, w_applies, trivial, trivial, w_case⟩
end start1
theorem witness_1 : WitnessClaimed_1 := ⟨start1.p0, start1.e0, start1.about1, start1.theMethod, start1.args0, start1.below0, start1.atStart⟩
end Jvm.Pilot.@@N@@
