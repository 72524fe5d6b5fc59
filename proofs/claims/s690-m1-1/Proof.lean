import JvmDerived
import JvmDerived.Pilot.@@N@@Statement
import JvmDerived.Pilot.@@N@@Code
set_option linter.unusedVariables false
set_option linter.unusedSimpArgs false
namespace Jvm.Pilot.@@N@@
open Jvm Jvm.ClassFile Sem Op Lib Jvm.Free Jvm.Stand Jvm.LawKit Jvm.RoadKit Bundle Jvm.Pilot.@@N@@.Jvm.D
-- BY HAND: shifts as BitVec's
theorem own_lshl (x : Int64) (q : Int32) (k : Nat) (hk : q.toBitVec.toNat % 64 = k) : (x <<< (q &&& 0x3f).toInt64).toBitVec = x.toBitVec <<< k := by
  show x.toBitVec <<< ((q &&& 0x3f).toInt64.toBitVec.smod 64) = _
  rw [BitVec.shiftLeft_eq', (sm64 q k hk).1, smod64 k (sm64 q k hk).2]
theorem own_lushr (x : Int64) (q : Int32) (k : Nat) (hk : q.toBitVec.toNat % 64 = k) : ((x.toUInt64 >>> (q &&& 0x3f).toInt64.toUInt64).toInt64).toBitVec = x.toBitVec >>> k := by
  have h5 := (sm64 q k hk).2
  show x.toBitVec >>> ((q &&& 0x3f).toInt64.toBitVec % 64) = _
  rw [BitVec.ushiftRight_eq', BitVec.toNat_umod, (sm64 q k hk).1, BitVec.toNat_ofNat]
  congr 1
  show k % 2 ^ 64 % 64 = k
  omega
theorem own_iushr (x q : Int32) (k : Nat) (hk : q.toBitVec.toNat % 32 = k) : ((x.toUInt32 >>> (q &&& 31).toUInt32).toInt32).toBitVec = x.toBitVec >>> k := by
  have h1 : (q &&& 31).toBitVec.toNat = k := by
    show (q.toBitVec &&& (31 : Int32).toBitVec).toNat = _
    rw [BitVec.toNat_and, show (31 : Int32).toBitVec.toNat = 2 ^ 5 - 1 from by decide, Nat.and_two_pow_sub_one_eq_mod]; exact hk
  show x.toBitVec >>> ((q &&& 31).toBitVec % 32) = _
  rw [BitVec.ushiftRight_eq', BitVec.toNat_umod, h1]
  congr 1
  exact Nat.mod_eq_of_lt (by show k < 32; omega)
theorem ef_3 (m : MethodId) (x0 : Addr) : entryFrame m #[(.ref x0)] 1 = mkF m 0 #[.val (.ref x0)] [] := by first | (simp [entryFrame, mkF, argsToLocals, Value.category]; done) | rfl
theorem pn_0 : plainName "com/example/nwx/nwx/core/Slots$Order" = true := by first | (simp [plainName, overriddenIn]; done) | decide +kernel
theorem d3_0 : decode prog_67_method_1_code 0 = .ok (.aload_n 0, 1) := by decide +kernel
theorem d3_1 : decode prog_67_method_1_code 1 = .ok (.invokespecial 3, 3) := by decide +kernel
theorem d3_4 : decode prog_67_method_1_code 4 = .ok (.aload_n 0, 1) := by decide +kernel
theorem d3_5 : decode prog_67_method_1_code 5 = .ok (.iconst (-1), 1) := by decide +kernel
theorem d3_6 : decode prog_67_method_1_code 6 = .ok (.putfield 9, 3) := by decide +kernel
theorem d3_9 : decode prog_67_method_1_code 9 = .ok (.aload_n 0, 1) := by decide +kernel
theorem d3_10 : decode prog_67_method_1_code 10 = .ok (.iconst (-1), 1) := by decide +kernel
theorem d3_11 : decode prog_67_method_1_code 11 = .ok (.putfield 15, 3) := by decide +kernel
theorem d3_14 : decode prog_67_method_1_code 14 = .ok (.return_, 1) := by decide +kernel
def Q3 (Z : State) (o0 : Addr) (v1 : Value) (v2 : Value) (h0 : Heap) (n0 : Nat) (v : Option Value) (h : Heap) (L : List Loc) : Prop := v = none ∧ Fr n0 L ∧ Keep h0 h [o0]
set_option maxRecDepth 65536 in
set_option maxHeartbeats 40000000 in
theorem rm3 (l : Launch) (Z : State) (a0 : Array Value) (hw : ∀ d ∈ tables_1, d.before a0 Z = true) (ws : List Jvm.Cond) (o0 : Addr) (v1 : Value) (v2 : Value) (h0 : Heap) (n0 : Nat) (Z0 : n0 ≤ h0.size) (F1 : Fld Z h0 o0 "com/example/nwx/nwx/core/Slots$Order" "oldest" "I" v1) (F2 : Fld Z h0 o0 "com/example/nwx/nwx/core/Slots$Order" "newest" "I" v2) (E1 : Exa Z h0 o0 "com/example/nwx/nwx/core/Slots$Order") (g1 : n0 ≤ o0) :
    MetFree l (⟨"com/example/nwx/nwx/core/Slots$Order", "<init>", "()V"⟩ : MethodName) (head1 (Jvm.Cond.code (⟨"com/example/nwx/nwx/core/Slots$Order", "<init>", "()V"⟩ : MethodName) prog_67_method_1_code 1 none :: ws) ({ frames := 1, cells := 0, slots := 0, locals := 12 } : Room)) (fun a U => a = #[(.ref o0)] ∧ Z.Warmed39 U.vm ∧ U.heap = h0) (fun _ _ _ _ _ => True) (fun _ U o U' => ∃ v L, o = .returned v ∧ Q3 Z o0 v1 v2 h0 n0 v U'.heap L ∧ FrameEnd U o U' L ({ frames := 1, cells := 0, slots := 0, locals := 12 } : Room).cells ({ frames := 1, cells := 0, slots := 0, locals := 12 } : Room).slots) := by
  refine MetFree.of_bodySF (plainFor_of_name pn_0) hisR ?_
  intro p e s m args below meth c s₁ Bd hml0 hP hK
  obtain ⟨rfl, hZ, hh⟩ := hP
  have hx := Bd.exec
  have hby := Bd.bytes
  have hml : c.maxLocals = 1 := hml0
  have hown : s.vm.findClass "com/example/nwx/nwx/core/Slots$Order" = some m.cls := findClass_of_methodNamed Bd.named
  have hnm := (name_of_methodNamed Bd.named Bd.method).1
  have X0 : Stand p l e ({ frames := 1, cells := 0, slots := 0, locals := 12 } : Room) s m #[(.ref o0)] below meth c s₁ [] 0 0 := Stand.of_body Bd
  have e0 : s₁.heap = h0 := by rw [← hh, Bd.state]; rfl
  have pre0 : ∀ t, Steps p.tables e below (s₁.setTop (mkF m 0 #[.val (.ref o0)] [])) t → Steps p.tables e below (s₁.setTop (entryFrame m #[(.ref o0)] 1)) t := fun t k => castTop (ef_3 m o0) k
  have N0 := Fr.nil n0
  have KP0 : Keep h0 h0 [o0] := Keep.refl _ _
  obtain ⟨T1, X1, e1, st1⟩ := initO X0 hx hZ hown (hw _ (List.mem_of_getElem? (i := 15) rfl)) (hw _ (List.mem_of_getElem? (i := 7) rfl)) (hw _ (List.mem_of_getElem? (i := 8) rfl)) e0 (g := (mkF m 1 #[.val (.ref o0)] [(.ref o0)])) rfl (by rw [hml]; rfl) rfl (hb hby d3_1) (by decide) (W := 0) (by show 2 * 0 + _ ≤ _; exact Nat.le_of_eq rfl) (by decide)
  obtain ⟨T2, h2, X2, e2, W2, st2⟩ := putF X1 hx hZ hown (host := "") (Or.inl (hw _ (List.mem_of_getElem? (i := 16) rfl))) Via.refl e1 F1 E1 (Or.inl (hw _ (List.mem_of_getElem? (i := 17) rfl))) (hw _ (List.mem_of_getElem? (i := 10) rfl)) (ty := .int) (by decide) rfl rfl (g := (mkF m 6 #[.val (.ref o0)] [(.int (-1 : Int32)), (.ref o0)])) rfl rfl (hb hby d3_6)
  have G3 : Exa Z h2 o0 "com/example/nwx/nwx/core/Slots$Order" := E1.wr W2
  have G4 : Fld Z h2 o0 "com/example/nwx/nwx/core/Slots$Order" "oldest" "I" (.int (-1 : Int32)) := F1.same W2
  have G5 : Fld Z h2 o0 "com/example/nwx/nwx/core/Slots$Order" "newest" "I" v2 := F2.other W2 (Or.inr (slot_ne (Or.inl (hw _ (List.mem_of_getElem? (i := 19) rfl))) (Or.inl (hw _ (List.mem_of_getElem? (i := 17) rfl))) (by decide) (t := .int) (t' := .int) (by decide) (by decide)))
  have Z2 : n0 ≤ h2.size := Nat.le_trans Z0 (Keep.of_wr W2).1
  have N2 := Fr.snoc X2 N0 g1
  have KP2 : Keep h0 h2 [o0] := KP0.wr W2 (Or.inl (List.mem_of_getElem? (i := 0) rfl))
  obtain ⟨T6, h6, X6, e6, W6, st6⟩ := putF X2 hx hZ hown (host := "") (Or.inl (hw _ (List.mem_of_getElem? (i := 18) rfl))) Via.refl e2 G5 G3 (Or.inl (hw _ (List.mem_of_getElem? (i := 19) rfl))) (hw _ (List.mem_of_getElem? (i := 10) rfl)) (ty := .int) (by decide) rfl rfl (g := (mkF m 11 #[.val (.ref o0)] [(.int (-1 : Int32)), (.ref o0)])) rfl rfl (hb hby d3_11)
  have G7 : Exa Z h6 o0 "com/example/nwx/nwx/core/Slots$Order" := G3.wr W6
  have G8 : Fld Z h6 o0 "com/example/nwx/nwx/core/Slots$Order" "oldest" "I" (.int (-1 : Int32)) := G4.other W6 (Or.inr (slot_ne (Or.inl (hw _ (List.mem_of_getElem? (i := 17) rfl))) (Or.inl (hw _ (List.mem_of_getElem? (i := 19) rfl))) (by decide) (t := .int) (t' := .int) (by decide) (by decide)))
  have G9 : Fld Z h6 o0 "com/example/nwx/nwx/core/Slots$Order" "newest" "I" (.int (-1 : Int32)) := G5.same W6
  have Z6 : n0 ≤ h6.size := Nat.le_trans Z2 (Keep.of_wr W6).1
  have N6 := Fr.snoc X6 N2 g1
  have KP6 : Keep h0 h6 [o0] := KP2.wr W6 (Or.inl (List.mem_of_getElem? (i := 0) rfl))
  have K10 : ∀ t, Steps p.tables e below (T6.setTop (mkF m 14 #[.val (.ref o0)] [])) t → Steps p.tables e below (s₁.setTop (mkF m 0 #[.val (.ref o0)] [])) t := by
    intro t kt
    show Steps p.tables e below (s₁.setTop (mkF m 0 #[.val (.ref o0)] [])) _
    refine XS.aloadN X0.here hx rfl (hb hby d3_0) rfl rfl ?_
    show Steps p.tables e below (s₁.setTop (mkF m 1 #[.val (.ref o0)] [(.ref o0)])) _
    refine st1 _ ?_
    show Steps p.tables e below (T1.setTop (mkF m 4 #[.val (.ref o0)] [])) _
    refine XS.aloadN X1.here hx rfl (hb hby d3_4) rfl rfl ?_
    show Steps p.tables e below (T1.setTop (mkF m 5 #[.val (.ref o0)] [(.ref o0)])) _
    refine XS.iconst X1.here hx rfl (hb hby d3_5) ?_
    show Steps p.tables e below (T1.setTop (mkF m 6 #[.val (.ref o0)] [(.int (-1 : Int32)), (.ref o0)])) _
    refine st2 _ ?_
    show Steps p.tables e below (T2.setTop (mkF m 9 #[.val (.ref o0)] [])) _
    refine XS.aloadN X2.here hx rfl (hb hby d3_9) rfl rfl ?_
    show Steps p.tables e below (T2.setTop (mkF m 10 #[.val (.ref o0)] [(.ref o0)])) _
    refine XS.iconst X2.here hx rfl (hb hby d3_10) ?_
    show Steps p.tables e below (T2.setTop (mkF m 11 #[.val (.ref o0)] [(.int (-1 : Int32)), (.ref o0)])) _
    refine st6 _ ?_
    exact kt
  obtain ⟨fs, hr, hrun, hended, hW, hsame⟩ := X6.leave (v := none) (fun _ => rfl)
  refine ⟨_, _, pre0 _ (K10 _ ?_), hrun, hended, _, _, rfl, ?_, ⟨_, rfl⟩, hW, hsame.mono (by decide) (by decide)⟩
  · show Steps p.tables e below (T6.setTop (mkF m 14 #[.val (.ref o0)] [])) _
    exact X6.returnOut hx Bd.returns (hb hby d3_14) hr
  · show Q3 Z o0 v1 v2 h0 n0 _ T6.heap _
    rw [e6]
    exact ⟨rfl, N6, KP6⟩
theorem ef_1 (m : MethodId) (x0 : Addr) (x1 : Int32) : entryFrame m #[(.ref x0), (.int x1)] 2 = mkF m 0 #[.val (.ref x0), .val (.int x1)] [] := by first | (simp [entryFrame, mkF, argsToLocals, Value.category]; done) | rfl
theorem pn_1 : plainName "com/example/nwx/nwx/core/KeyIndex$Table" = true := by first | (simp [plainName, overriddenIn]; done) | decide +kernel
theorem d1_0 : decode prog_49_method_1_code 0 = .ok (.aload_n 0, 1) := by decide +kernel
theorem d1_1 : decode prog_49_method_1_code 1 = .ok (.invokespecial 1, 3) := by decide +kernel
theorem d1_4 : decode prog_49_method_1_code 4 = .ok (.aload_n 0, 1) := by decide +kernel
theorem d1_5 : decode prog_49_method_1_code 5 = .ok (.new 7, 3) := by decide +kernel
theorem d1_8 : decode prog_49_method_1_code 8 = .ok (.dup, 1) := by decide +kernel
theorem d1_9 : decode prog_49_method_1_code 9 = .ok (.invokespecial 9, 3) := by decide +kernel
theorem pd_0 : parseMethodDescriptor "()V" = some ⟨[], none⟩ := by decide +kernel
theorem d1_12 : decode prog_49_method_1_code 12 = .ok (.putfield 10, 3) := by decide +kernel
theorem d1_15 : decode prog_49_method_1_code 15 = .ok (.aload_n 0, 1) := by decide +kernel
theorem d1_16 : decode prog_49_method_1_code 16 = .ok (.iload_n 1, 1) := by decide +kernel
theorem d1_17 : decode prog_49_method_1_code 17 = .ok (.putfield 16, 3) := by decide +kernel
theorem d1_20 : decode prog_49_method_1_code 20 = .ok (.return_, 1) := by decide +kernel
def Q1 (Z : State) (o0 : Addr) (p1 : Int32) (v1 : Value) (v2 : Value) (h0 : Heap) (n0 : Nat) (v : Option Value) (h : Heap) (L : List Loc) : Prop := v = none ∧ Fr n0 L ∧ Keep h0 h [o0] ∧ Fld Z h o0 "com/example/nwx/nwx/core/KeyIndex$Table" "salt" "I" (.int p1)
set_option maxRecDepth 65536 in
set_option maxHeartbeats 40000000 in
theorem rm1 (l : Launch) (Z : State) (a0 : Array Value) (hw : ∀ d ∈ tables_1, d.before a0 Z = true) (ws : List Jvm.Cond) (o0 : Addr) (p1 : Int32) (v1 : Value) (v2 : Value) (h0 : Heap) (n0 : Nat) (Z0 : n0 ≤ h0.size) (F1 : Fld Z h0 o0 "com/example/nwx/nwx/core/KeyIndex$Table" "order" "Lcom/example/nwx/nwx/core/Slots$Order;" v1) (F2 : Fld Z h0 o0 "com/example/nwx/nwx/core/KeyIndex$Table" "salt" "I" v2) (E1 : Exa Z h0 o0 "com/example/nwx/nwx/core/KeyIndex$Table") (g1 : n0 ≤ o0) :
    MetFree l (⟨"com/example/nwx/nwx/core/KeyIndex$Table", "<init>", "(I)V"⟩ : MethodName) (head1 (Jvm.Cond.code (⟨"com/example/nwx/nwx/core/KeyIndex$Table", "<init>", "(I)V"⟩ : MethodName) prog_49_method_1_code 2 none :: ws) ({ frames := 2, cells := 1, slots := 2, locals := 26 } : Room)) (fun a U => a = #[(.ref o0), (.int p1)] ∧ Z.Warmed39 U.vm ∧ U.heap = h0) (fun _ _ _ _ _ => True) (fun _ U o U' => ∃ v L, o = .returned v ∧ Q1 Z o0 p1 v1 v2 h0 n0 v U'.heap L ∧ FrameEnd U o U' L ({ frames := 2, cells := 1, slots := 2, locals := 26 } : Room).cells ({ frames := 2, cells := 1, slots := 2, locals := 26 } : Room).slots) := by
  refine MetFree.of_bodySF (plainFor_of_name pn_1) hisR ?_
  intro p e s m args below meth c s₁ Bd hml0 hP hK
  obtain ⟨rfl, hZ, hh⟩ := hP
  have hx := Bd.exec
  have hby := Bd.bytes
  have hml : c.maxLocals = 2 := hml0
  have hown : s.vm.findClass "com/example/nwx/nwx/core/KeyIndex$Table" = some m.cls := findClass_of_methodNamed Bd.named
  have hnm := (name_of_methodNamed Bd.named Bd.method).1
  have X0 : Stand p l e ({ frames := 2, cells := 1, slots := 2, locals := 26 } : Room) s m #[(.ref o0), (.int p1)] below meth c s₁ [] 0 0 := Stand.of_body Bd
  have e0 : s₁.heap = h0 := by rw [← hh, Bd.state]; rfl
  have pre0 : ∀ t, Steps p.tables e below (s₁.setTop (mkF m 0 #[.val (.ref o0), .val (.int p1)] [])) t → Steps p.tables e below (s₁.setTop (entryFrame m #[(.ref o0), (.int p1)] 2)) t := fun t k => castTop (ef_1 m o0 p1) k
  have N0 := Fr.nil n0
  have KP0 : Keep h0 h0 [o0] := Keep.refl _ _
  obtain ⟨T1, X1, e1, st1⟩ := initO X0 hx hZ hown (hw _ (List.mem_of_getElem? (i := 6) rfl)) (hw _ (List.mem_of_getElem? (i := 7) rfl)) (hw _ (List.mem_of_getElem? (i := 8) rfl)) e0 (g := (mkF m 1 #[.val (.ref o0), .val (.int p1)] [(.ref o0)])) rfl (by rw [hml]; rfl) rfl (hb hby d1_1) (by decide) (W := 0) (by show 2 * 0 + _ ≤ _; exact Nat.le_of_eq rfl) (by decide)
  obtain ⟨T2, h2, X2, e2, E2, A2, D2, -, st2⟩ := newO X1 hx hZ hown (hw _ (List.mem_of_getElem? (i := 9) rfl)) (hw _ (List.mem_of_getElem? (i := 10) rfl)) (hw _ (List.mem_of_getElem? (i := 11) rfl)) e1 (g := (mkF m 5 #[.val (.ref o0), .val (.int p1)] [(.ref o0)])) rfl (hb hby d1_5) (by decide) (by decide)
  obtain ⟨b2, g2⟩ : ∃ z, z = h0.size := ⟨_, rfl⟩
  rw [← g2] at A2 D2 st2
  have ne3 : o0 ≠ b2 := Nat.ne_of_lt (Nat.lt_of_lt_of_le E1.lt (Nat.le_of_eq g2.symm))
  have gn2 : n0 ≤ b2 := Nat.le_trans Z0 (Nat.le_of_eq g2.symm)
  have sz2 : h0.size ≤ b2 := Nat.le_trans KP0.1 (Nat.le_of_eq g2.symm)
  have Z2 : n0 ≤ h2.size := Nat.le_trans Z0 E2.1
  have G4 : Exa Z h2 o0 "com/example/nwx/nwx/core/KeyIndex$Table" := E1.ext E2
  have G5 : Fld Z h2 o0 "com/example/nwx/nwx/core/KeyIndex$Table" "order" "Lcom/example/nwx/nwx/core/Slots$Order;" v1 := F1.ext E2
  have G6 : Fld Z h2 o0 "com/example/nwx/nwx/core/KeyIndex$Table" "salt" "I" v2 := F2.ext E2
  have KP2 : Keep h0 h2 [o0] := KP0.ext E2
  have F2_oldest : Fld Z h2 b2 "com/example/nwx/nwx/core/Slots$Order" "oldest" "I" (.int (0 : Int32)) := D2 (Or.inl (hw _ (List.mem_of_getElem? (i := 17) rfl))) (ty := .int) (by decide)
  have F2_newest : Fld Z h2 b2 "com/example/nwx/nwx/core/Slots$Order" "newest" "I" (.int (0 : Int32)) := D2 (Or.inl (hw _ (List.mem_of_getElem? (i := 19) rfl))) (ty := .int) (by decide)
  obtain ⟨_, _, ⟨T7, L7, k7, n7⟩, -, X7, ⟨Lc7, hQ7, l7, y7, z7⟩, st7⟩ := X2.specialBack hx (y := (⟨"com/example/nwx/nwx/core/Slots$Order", "<init>", "()V"⟩ : MethodName)) rfl hown (mvT hZ (hw _ (List.mem_of_getElem? (i := 12) rfl))) (mvT hZ (hw _ (List.mem_of_getElem? (i := 13) rfl))) (mvT hZ (hw _ (List.mem_of_getElem? (i := 14) rfl))) (by decide) (backOf (W := 2) (rm3 l Z a0 hw [] b2 (.int (0 : Int32)) (.int (0 : Int32)) h2 n0 Z2 F2_oldest F2_newest A2 gn2) hZ (hw _ (List.mem_of_getElem? (i := 14) rfl)) (hw _ (List.mem_of_getElem? (i := 11) rfl)) (by decide) (by decide)) (g := (mkF m 9 #[.val (.ref o0), .val (.int p1)] [(.ref b2), (.ref b2), (.ref o0)])) rfl (by rw [hml]; rfl) (Steps.refl _) (a := b2) (argsL := []) (rest := [(.ref b2), (.ref o0)]) (lenOf pd_0 rfl) rfl (by show 2 * 0 + _ ≤ _; exact Nat.le_of_eq rfl) (hb hby d1_9) (fun _ _ => ⟨rfl, e2, (by decide : 1 + 0 ≤ _), (by decide : 2 + 0 ≤ _)⟩)
  dsimp only [Pt.U, Pt.locs, Pt.cells, Pt.slots] at X7 l7 y7 z7 st7 hQ7
  subst l7 y7 z7
  obtain ⟨rfl, N7q, K7q⟩ := hQ7
  have N7 := Fr.app N0 N7q
  have Z7 : n0 ≤ T7.heap.size := Nat.le_trans Z2 K7q.1
  have G8 : Exa Z T7.heap o0 "com/example/nwx/nwx/core/KeyIndex$Table" := G4.keep K7q
  have G9 : Fld Z T7.heap o0 "com/example/nwx/nwx/core/KeyIndex$Table" "order" "Lcom/example/nwx/nwx/core/Slots$Order;" v1 := G5.keep K7q (ninS ne3 nin0)
  have G10 : Fld Z T7.heap o0 "com/example/nwx/nwx/core/KeyIndex$Table" "salt" "I" v2 := G6.keep K7q (ninS ne3 nin0)
  have G11 : Exa Z T7.heap b2 "com/example/nwx/nwx/core/Slots$Order" := A2.keep K7q
  have KP7 : Keep h0 T7.heap [o0] := KP2.trans K7q (allS (Or.inr sz2) all0)
  obtain ⟨T12, h12, X12, e12, W12, st12⟩ := putF X7 hx hZ hown (host := "") (Or.inl (hw _ (List.mem_of_getElem? (i := 20) rfl))) Via.refl rfl G9 G8 (Or.inr ⟨(hw _ (List.mem_of_getElem? (i := 21) rfl)), rfl, hnm⟩) (hw _ (List.mem_of_getElem? (i := 1) rfl)) (ty := (.object "com/example/nwx/nwx/core/Slots$Order")) (by decide) rfl rfl (g := (mkF m 12 #[.val (.ref o0), .val (.int p1)] [(.ref b2), (.ref o0)])) rfl rfl (hb hby d1_12)
  have G13 : Exa Z h12 o0 "com/example/nwx/nwx/core/KeyIndex$Table" := G8.wr W12
  have G14 : Fld Z h12 o0 "com/example/nwx/nwx/core/KeyIndex$Table" "order" "Lcom/example/nwx/nwx/core/Slots$Order;" (.ref b2) := G9.same W12
  have G15 : Fld Z h12 o0 "com/example/nwx/nwx/core/KeyIndex$Table" "salt" "I" v2 := G10.other W12 (Or.inr (slot_ne (Or.inr (hw _ (List.mem_of_getElem? (i := 23) rfl))) (Or.inr (hw _ (List.mem_of_getElem? (i := 21) rfl))) (by decide) (t := .int) (t' := (.object "com/example/nwx/nwx/core/Slots$Order")) (by decide) (by decide)))
  have G16 : Exa Z h12 b2 "com/example/nwx/nwx/core/Slots$Order" := G11.wr W12
  have Z12 : n0 ≤ h12.size := Nat.le_trans Z7 (Keep.of_wr W12).1
  have N12 := Fr.snoc X12 N7 g1
  have KP12 : Keep h0 h12 [o0] := KP7.wr W12 (Or.inl (List.mem_of_getElem? (i := 0) rfl))
  obtain ⟨T17, h17, X17, e17, W17, st17⟩ := putF X12 hx hZ hown (host := "") (Or.inl (hw _ (List.mem_of_getElem? (i := 22) rfl))) Via.refl e12 G15 G13 (Or.inr ⟨(hw _ (List.mem_of_getElem? (i := 23) rfl)), rfl, hnm⟩) (hw _ (List.mem_of_getElem? (i := 1) rfl)) (ty := .int) (by decide) rfl rfl (g := (mkF m 17 #[.val (.ref o0), .val (.int p1)] [(.int p1), (.ref o0)])) rfl rfl (hb hby d1_17)
  have G18 : Exa Z h17 o0 "com/example/nwx/nwx/core/KeyIndex$Table" := G13.wr W17
  have G19 : Fld Z h17 o0 "com/example/nwx/nwx/core/KeyIndex$Table" "order" "Lcom/example/nwx/nwx/core/Slots$Order;" (.ref b2) := G14.other W17 (Or.inr (slot_ne (Or.inr (hw _ (List.mem_of_getElem? (i := 21) rfl))) (Or.inr (hw _ (List.mem_of_getElem? (i := 23) rfl))) (by decide) (t := (.object "com/example/nwx/nwx/core/Slots$Order")) (t' := .int) (by decide) (by decide)))
  have G20 : Fld Z h17 o0 "com/example/nwx/nwx/core/KeyIndex$Table" "salt" "I" (.int p1) := G15.same W17
  have G21 : Exa Z h17 b2 "com/example/nwx/nwx/core/Slots$Order" := G16.wr W17
  have Z17 : n0 ≤ h17.size := Nat.le_trans Z12 (Keep.of_wr W17).1
  have N17 := Fr.snoc X17 N12 g1
  have KP17 : Keep h0 h17 [o0] := KP12.wr W17 (Or.inl (List.mem_of_getElem? (i := 0) rfl))
  have K22 : ∀ t, Steps p.tables e below (T17.setTop (mkF m 20 #[.val (.ref o0), .val (.int p1)] [])) t → Steps p.tables e below (s₁.setTop (mkF m 0 #[.val (.ref o0), .val (.int p1)] [])) t := by
    intro t kt
    show Steps p.tables e below (s₁.setTop (mkF m 0 #[.val (.ref o0), .val (.int p1)] [])) _
    refine XS.aloadN X0.here hx rfl (hb hby d1_0) rfl rfl ?_
    show Steps p.tables e below (s₁.setTop (mkF m 1 #[.val (.ref o0), .val (.int p1)] [(.ref o0)])) _
    refine st1 _ ?_
    show Steps p.tables e below (T1.setTop (mkF m 4 #[.val (.ref o0), .val (.int p1)] [])) _
    refine XS.aloadN X1.here hx rfl (hb hby d1_4) rfl rfl ?_
    show Steps p.tables e below (T1.setTop (mkF m 5 #[.val (.ref o0), .val (.int p1)] [(.ref o0)])) _
    refine st2 _ ?_
    show Steps p.tables e below (T2.setTop (mkF m 8 #[.val (.ref o0), .val (.int p1)] [(.ref b2), (.ref o0)])) _
    refine XS.dup X2.here hx rfl (hb hby d1_8) rfl rfl ?_
    show Steps p.tables e below (T2.setTop (mkF m 9 #[.val (.ref o0), .val (.int p1)] [(.ref b2), (.ref b2), (.ref o0)])) _
    refine st7.trans ?_
    show Steps p.tables e below (T7.setTop (mkF m 12 #[.val (.ref o0), .val (.int p1)] [(.ref b2), (.ref o0)])) _
    refine st12 _ ?_
    show Steps p.tables e below (T12.setTop (mkF m 15 #[.val (.ref o0), .val (.int p1)] [])) _
    refine XS.aloadN X12.here hx rfl (hb hby d1_15) rfl rfl ?_
    show Steps p.tables e below (T12.setTop (mkF m 16 #[.val (.ref o0), .val (.int p1)] [(.ref o0)])) _
    refine XS.iloadN X12.here hx rfl (hb hby d1_16) rfl ?_
    show Steps p.tables e below (T12.setTop (mkF m 17 #[.val (.ref o0), .val (.int p1)] [(.int p1), (.ref o0)])) _
    refine st17 _ ?_
    exact kt
  obtain ⟨fs, hr, hrun, hended, hW, hsame⟩ := X17.leave (v := none) (fun _ => rfl)
  refine ⟨_, _, pre0 _ (K22 _ ?_), hrun, hended, _, _, rfl, ?_, ⟨_, rfl⟩, hW, hsame.mono (by decide) (by decide)⟩
  · show Steps p.tables e below (T17.setTop (mkF m 20 #[.val (.ref o0), .val (.int p1)] [])) _
    exact X17.returnOut hx Bd.returns (hb hby d1_20) hr
  · show Q1 Z o0 p1 v1 v2 h0 n0 _ T17.heap _
    rw [e17]
    exact ⟨rfl, N17, KP17, G20⟩
theorem ef_4 (m : MethodId) (x0 : Addr) (x1 : Int32) : entryFrame m #[(.ref x0), (.int x1)] 3 = mkF m 0 #[.val (.ref x0), .val (.int x1), .unset] [] := by first | (simp [entryFrame, mkF, argsToLocals, Value.category]; done) | rfl
theorem pn_2 : plainName "com/example/nwx/nwx/core/KeyIndex$Keys" = true := by first | (simp [plainName, overriddenIn]; done) | decide +kernel
theorem d4_0 : decode prog_46_method_3_code 0 = .ok (.iload_n 1, 1) := by decide +kernel
theorem d4_1 : decode prog_46_method_3_code 1 = .ok (.aload_n 0, 1) := by decide +kernel
theorem d4_2 : decode prog_46_method_3_code 2 = .ok (.getfield 56, 3) := by decide +kernel
theorem d4_5 : decode prog_46_method_3_code 5 = .ok (.ixor, 1) := by decide +kernel
theorem d4_6 : decode prog_46_method_3_code 6 = .ok (.istore_n 2, 1) := by decide +kernel
def m1 (p1 : Int32) (w : Int32) : Int32 := (p1 ^^^ w)
theorem d4_7 : decode prog_46_method_3_code 7 = .ok (.iload_n 2, 1) := by decide +kernel
theorem d4_8 : decode prog_46_method_3_code 8 = .ok (.iload_n 2, 1) := by decide +kernel
theorem d4_9 : decode prog_46_method_3_code 9 = .ok (.bipush 16, 2) := by decide +kernel
theorem d4_11 : decode prog_46_method_3_code 11 = .ok (.iushr, 1) := by decide +kernel
theorem d4_12 : decode prog_46_method_3_code 12 = .ok (.ixor, 1) := by decide +kernel
theorem d4_13 : decode prog_46_method_3_code 13 = .ok (.istore_n 2, 1) := by decide +kernel
def m2 (p1 : Int32) (w : Int32) : Int32 := ((m1 p1 w) ^^^ (((m1 p1 w).toUInt32 >>> ((16 : Int32) &&& 31).toUInt32).toInt32))
theorem d4_14 : decode prog_46_method_3_code 14 = .ok (.iload_n 2, 1) := by decide +kernel
theorem d4_15 : decode prog_46_method_3_code 15 = .ok (.ldc 59, 2) := by decide +kernel
theorem d4_17 : decode prog_46_method_3_code 17 = .ok (.imul, 1) := by decide +kernel
theorem d4_18 : decode prog_46_method_3_code 18 = .ok (.istore_n 2, 1) := by decide +kernel
def m3 (p1 : Int32) (w : Int32) : Int32 := ((m2 p1 w) * (-2048144789 : Int32))
theorem d4_19 : decode prog_46_method_3_code 19 = .ok (.iload_n 2, 1) := by decide +kernel
theorem d4_20 : decode prog_46_method_3_code 20 = .ok (.iload_n 2, 1) := by decide +kernel
theorem d4_21 : decode prog_46_method_3_code 21 = .ok (.bipush 13, 2) := by decide +kernel
theorem d4_23 : decode prog_46_method_3_code 23 = .ok (.iushr, 1) := by decide +kernel
theorem d4_24 : decode prog_46_method_3_code 24 = .ok (.ixor, 1) := by decide +kernel
theorem d4_25 : decode prog_46_method_3_code 25 = .ok (.istore_n 2, 1) := by decide +kernel
def m4 (p1 : Int32) (w : Int32) : Int32 := ((m3 p1 w) ^^^ (((m3 p1 w).toUInt32 >>> ((13 : Int32) &&& 31).toUInt32).toInt32))
theorem d4_26 : decode prog_46_method_3_code 26 = .ok (.iload_n 2, 1) := by decide +kernel
theorem d4_27 : decode prog_46_method_3_code 27 = .ok (.ldc 60, 2) := by decide +kernel
theorem d4_29 : decode prog_46_method_3_code 29 = .ok (.imul, 1) := by decide +kernel
theorem d4_30 : decode prog_46_method_3_code 30 = .ok (.istore_n 2, 1) := by decide +kernel
def m5 (p1 : Int32) (w : Int32) : Int32 := ((m4 p1 w) * (-1028477387 : Int32))
theorem d4_31 : decode prog_46_method_3_code 31 = .ok (.iload_n 2, 1) := by decide +kernel
theorem d4_32 : decode prog_46_method_3_code 32 = .ok (.iload_n 2, 1) := by decide +kernel
theorem d4_33 : decode prog_46_method_3_code 33 = .ok (.bipush 16, 2) := by decide +kernel
theorem d4_35 : decode prog_46_method_3_code 35 = .ok (.iushr, 1) := by decide +kernel
theorem d4_36 : decode prog_46_method_3_code 36 = .ok (.ixor, 1) := by decide +kernel
theorem d4_37 : decode prog_46_method_3_code 37 = .ok (.ireturn, 1) := by decide +kernel
def f4 (p1 : Int32) (w : Int32) : Int32 := ((m5 p1 w) ^^^ (((m5 p1 w).toUInt32 >>> ((16 : Int32) &&& 31).toUInt32).toInt32))
def Q4 (Z : State) (o0 : Addr) (p1 : Int32) (w : Int32) (h0 : Heap) (v : Option Value) (h : Heap) (L : List Loc) : Prop := v = some (.int (f4 p1 w)) ∧ L = [] ∧ h = h0
set_option maxRecDepth 65536 in
set_option maxHeartbeats 40000000 in
theorem rm4 (l : Launch) (Z : State) (a0 : Array Value) (hw : ∀ d ∈ tables_1, d.before a0 Z = true) (ws : List Jvm.Cond) (o0 : Addr) (p1 : Int32) (w : Int32) (h0 : Heap) (F1 : Fld Z h0 o0 "com/example/nwx/nwx/core/KeyIndex$Table" "salt" "I" (.int w)) :
    MetFree l (⟨"com/example/nwx/nwx/core/KeyIndex$Keys", "hash", "(Lcom/example/nwx/nwx/core/KeyIndex$Table;I)I"⟩ : MethodName) (head1 (Jvm.Cond.code (⟨"com/example/nwx/nwx/core/KeyIndex$Keys", "hash", "(Lcom/example/nwx/nwx/core/KeyIndex$Table;I)I"⟩ : MethodName) prog_46_method_3_code 3 (some .int) :: ws) ({ frames := 0, cells := 0, slots := 0, locals := 0 } : Room)) (fun a U => a = #[(.ref o0), (.int p1)] ∧ Z.Warmed39 U.vm ∧ U.heap = h0) (fun _ _ _ _ _ => True) (fun _ U o U' => ∃ v L, o = .returned v ∧ Q4 Z o0 p1 w h0 v U'.heap L ∧ FrameEnd U o U' L ({ frames := 0, cells := 0, slots := 0, locals := 0 } : Room).cells ({ frames := 0, cells := 0, slots := 0, locals := 0 } : Room).slots) := by
  refine MetFree.of_bodySF (plainFor_of_name pn_2) hisR ?_
  intro p e s m args below meth c s₁ Bd hml0 hP hK
  obtain ⟨rfl, hZ, hh⟩ := hP
  have hx := Bd.exec
  have hby := Bd.bytes
  have hml : c.maxLocals = 3 := hml0
  have hown : s.vm.findClass "com/example/nwx/nwx/core/KeyIndex$Keys" = some m.cls := findClass_of_methodNamed Bd.named
  have hnm := (name_of_methodNamed Bd.named Bd.method).1
  have X0 : Stand p l e ({ frames := 0, cells := 0, slots := 0, locals := 0 } : Room) s m #[(.ref o0), (.int p1)] below meth c s₁ [] 0 0 := Stand.of_body Bd
  have e0 : s₁.heap = h0 := by rw [← hh, Bd.state]; rfl
  have pre0 : ∀ t, Steps p.tables e below (s₁.setTop (mkF m 0 #[.val (.ref o0), .val (.int p1), .unset] [])) t → Steps p.tables e below (s₁.setTop (entryFrame m #[(.ref o0), (.int p1)] 3)) t := fun t k => castTop (ef_4 m o0 p1) k
  obtain ⟨T1, X1, e1, st1⟩ := getF X0 hx hZ hown (Or.inr (hw _ (List.mem_of_getElem? (i := 28) rfl))) Via.refl e0 F1 (g := (mkF m 2 #[.val (.ref o0), .val (.int p1), .unset] [(.ref o0), (.int p1)])) rfl rfl (hb hby d4_2)
  have K2 : ∀ t, Steps p.tables e below (T1.setTop (mkF m 37 #[.val (.ref o0), .val (.int p1), .val (.int (m5 p1 w))] [(.int ((m5 p1 w) ^^^ (((m5 p1 w).toUInt32 >>> ((16 : Int32) &&& 31).toUInt32).toInt32)))])) t → Steps p.tables e below (s₁.setTop (mkF m 0 #[.val (.ref o0), .val (.int p1), .unset] [])) t := by
    intro t kt
    show Steps p.tables e below (s₁.setTop (mkF m 0 #[.val (.ref o0), .val (.int p1), .unset] [])) _
    refine XS.iloadN X0.here hx rfl (hb hby d4_0) rfl ?_
    show Steps p.tables e below (s₁.setTop (mkF m 1 #[.val (.ref o0), .val (.int p1), .unset] [(.int p1)])) _
    refine XS.aloadN X0.here hx rfl (hb hby d4_1) rfl rfl ?_
    show Steps p.tables e below (s₁.setTop (mkF m 2 #[.val (.ref o0), .val (.int p1), .unset] [(.ref o0), (.int p1)])) _
    refine st1 _ ?_
    show Steps p.tables e below (T1.setTop (mkF m 5 #[.val (.ref o0), .val (.int p1), .unset] [(.int w), (.int p1)])) _
    refine XS.ixor X1.here hx rfl (hb hby d4_5) rfl ?_
    show Steps p.tables e below (T1.setTop (mkF m 6 #[.val (.ref o0), .val (.int p1), .unset] [(.int (p1 ^^^ w))])) _
    refine XS.istoreN X1.here hx rfl (hb hby d4_6) rfl (l' := #[.val (.ref o0), .val (.int p1), .val (.int (m1 p1 w))]) rfl ?_
    show Steps p.tables e below (T1.setTop (mkF m 7 #[.val (.ref o0), .val (.int p1), .val (.int (m1 p1 w))] [])) _
    refine XS.iloadN X1.here hx rfl (hb hby d4_7) rfl ?_
    show Steps p.tables e below (T1.setTop (mkF m 8 #[.val (.ref o0), .val (.int p1), .val (.int (m1 p1 w))] [(.int (m1 p1 w))])) _
    refine XS.iloadN X1.here hx rfl (hb hby d4_8) rfl ?_
    show Steps p.tables e below (T1.setTop (mkF m 9 #[.val (.ref o0), .val (.int p1), .val (.int (m1 p1 w))] [(.int (m1 p1 w)), (.int (m1 p1 w))])) _
    refine XS.bipush X1.here hx rfl (hb hby d4_9) ?_
    show Steps p.tables e below (T1.setTop (mkF m 11 #[.val (.ref o0), .val (.int p1), .val (.int (m1 p1 w))] [(.int (16 : Int32)), (.int (m1 p1 w)), (.int (m1 p1 w))])) _
    refine XS.iushr X1.here hx rfl (hb hby d4_11) rfl ?_
    show Steps p.tables e below (T1.setTop (mkF m 12 #[.val (.ref o0), .val (.int p1), .val (.int (m1 p1 w))] [(.int (((m1 p1 w).toUInt32 >>> ((16 : Int32) &&& 31).toUInt32).toInt32)), (.int (m1 p1 w))])) _
    refine XS.ixor X1.here hx rfl (hb hby d4_12) rfl ?_
    show Steps p.tables e below (T1.setTop (mkF m 13 #[.val (.ref o0), .val (.int p1), .val (.int (m1 p1 w))] [(.int ((m1 p1 w) ^^^ (((m1 p1 w).toUInt32 >>> ((16 : Int32) &&& 31).toUInt32).toInt32)))])) _
    refine XS.istoreN X1.here hx rfl (hb hby d4_13) rfl (l' := #[.val (.ref o0), .val (.int p1), .val (.int (m2 p1 w))]) rfl ?_
    show Steps p.tables e below (T1.setTop (mkF m 14 #[.val (.ref o0), .val (.int p1), .val (.int (m2 p1 w))] [])) _
    refine XS.iloadN X1.here hx rfl (hb hby d4_14) rfl ?_
    show Steps p.tables e below (T1.setTop (mkF m 15 #[.val (.ref o0), .val (.int p1), .val (.int (m2 p1 w))] [(.int (m2 p1 w))])) _
    refine X1.ldcInt hx hown (mvT hZ (hw _ (List.mem_of_getElem? (i := 29) rfl))) (g := (mkF m 15 #[.val (.ref o0), .val (.int p1), .val (.int (m2 p1 w))] [(.int (m2 p1 w))])) rfl (hb hby d4_15) _ ?_
    show Steps p.tables e below (T1.setTop (mkF m 17 #[.val (.ref o0), .val (.int p1), .val (.int (m2 p1 w))] [(.int (-2048144789 : Int32)), (.int (m2 p1 w))])) _
    refine XS.imul X1.here hx rfl (hb hby d4_17) rfl ?_
    show Steps p.tables e below (T1.setTop (mkF m 18 #[.val (.ref o0), .val (.int p1), .val (.int (m2 p1 w))] [(.int ((m2 p1 w) * (-2048144789 : Int32)))])) _
    refine XS.istoreN X1.here hx rfl (hb hby d4_18) rfl (l' := #[.val (.ref o0), .val (.int p1), .val (.int (m3 p1 w))]) rfl ?_
    show Steps p.tables e below (T1.setTop (mkF m 19 #[.val (.ref o0), .val (.int p1), .val (.int (m3 p1 w))] [])) _
    refine XS.iloadN X1.here hx rfl (hb hby d4_19) rfl ?_
    show Steps p.tables e below (T1.setTop (mkF m 20 #[.val (.ref o0), .val (.int p1), .val (.int (m3 p1 w))] [(.int (m3 p1 w))])) _
    refine XS.iloadN X1.here hx rfl (hb hby d4_20) rfl ?_
    show Steps p.tables e below (T1.setTop (mkF m 21 #[.val (.ref o0), .val (.int p1), .val (.int (m3 p1 w))] [(.int (m3 p1 w)), (.int (m3 p1 w))])) _
    refine XS.bipush X1.here hx rfl (hb hby d4_21) ?_
    show Steps p.tables e below (T1.setTop (mkF m 23 #[.val (.ref o0), .val (.int p1), .val (.int (m3 p1 w))] [(.int (13 : Int32)), (.int (m3 p1 w)), (.int (m3 p1 w))])) _
    refine XS.iushr X1.here hx rfl (hb hby d4_23) rfl ?_
    show Steps p.tables e below (T1.setTop (mkF m 24 #[.val (.ref o0), .val (.int p1), .val (.int (m3 p1 w))] [(.int (((m3 p1 w).toUInt32 >>> ((13 : Int32) &&& 31).toUInt32).toInt32)), (.int (m3 p1 w))])) _
    refine XS.ixor X1.here hx rfl (hb hby d4_24) rfl ?_
    show Steps p.tables e below (T1.setTop (mkF m 25 #[.val (.ref o0), .val (.int p1), .val (.int (m3 p1 w))] [(.int ((m3 p1 w) ^^^ (((m3 p1 w).toUInt32 >>> ((13 : Int32) &&& 31).toUInt32).toInt32)))])) _
    refine XS.istoreN X1.here hx rfl (hb hby d4_25) rfl (l' := #[.val (.ref o0), .val (.int p1), .val (.int (m4 p1 w))]) rfl ?_
    show Steps p.tables e below (T1.setTop (mkF m 26 #[.val (.ref o0), .val (.int p1), .val (.int (m4 p1 w))] [])) _
    refine XS.iloadN X1.here hx rfl (hb hby d4_26) rfl ?_
    show Steps p.tables e below (T1.setTop (mkF m 27 #[.val (.ref o0), .val (.int p1), .val (.int (m4 p1 w))] [(.int (m4 p1 w))])) _
    refine X1.ldcInt hx hown (mvT hZ (hw _ (List.mem_of_getElem? (i := 30) rfl))) (g := (mkF m 27 #[.val (.ref o0), .val (.int p1), .val (.int (m4 p1 w))] [(.int (m4 p1 w))])) rfl (hb hby d4_27) _ ?_
    show Steps p.tables e below (T1.setTop (mkF m 29 #[.val (.ref o0), .val (.int p1), .val (.int (m4 p1 w))] [(.int (-1028477387 : Int32)), (.int (m4 p1 w))])) _
    refine XS.imul X1.here hx rfl (hb hby d4_29) rfl ?_
    show Steps p.tables e below (T1.setTop (mkF m 30 #[.val (.ref o0), .val (.int p1), .val (.int (m4 p1 w))] [(.int ((m4 p1 w) * (-1028477387 : Int32)))])) _
    refine XS.istoreN X1.here hx rfl (hb hby d4_30) rfl (l' := #[.val (.ref o0), .val (.int p1), .val (.int (m5 p1 w))]) rfl ?_
    show Steps p.tables e below (T1.setTop (mkF m 31 #[.val (.ref o0), .val (.int p1), .val (.int (m5 p1 w))] [])) _
    refine XS.iloadN X1.here hx rfl (hb hby d4_31) rfl ?_
    show Steps p.tables e below (T1.setTop (mkF m 32 #[.val (.ref o0), .val (.int p1), .val (.int (m5 p1 w))] [(.int (m5 p1 w))])) _
    refine XS.iloadN X1.here hx rfl (hb hby d4_32) rfl ?_
    show Steps p.tables e below (T1.setTop (mkF m 33 #[.val (.ref o0), .val (.int p1), .val (.int (m5 p1 w))] [(.int (m5 p1 w)), (.int (m5 p1 w))])) _
    refine XS.bipush X1.here hx rfl (hb hby d4_33) ?_
    show Steps p.tables e below (T1.setTop (mkF m 35 #[.val (.ref o0), .val (.int p1), .val (.int (m5 p1 w))] [(.int (16 : Int32)), (.int (m5 p1 w)), (.int (m5 p1 w))])) _
    refine XS.iushr X1.here hx rfl (hb hby d4_35) rfl ?_
    show Steps p.tables e below (T1.setTop (mkF m 36 #[.val (.ref o0), .val (.int p1), .val (.int (m5 p1 w))] [(.int (((m5 p1 w).toUInt32 >>> ((16 : Int32) &&& 31).toUInt32).toInt32)), (.int (m5 p1 w))])) _
    refine XS.ixor X1.here hx rfl (hb hby d4_36) rfl ?_
    exact kt
  have hv : f4 p1 w = ((m5 p1 w) ^^^ (((m5 p1 w).toUInt32 >>> ((16 : Int32) &&& 31).toUInt32).toInt32)) := rfl
  obtain ⟨fs, hr, hrun, hended, hW, hsame⟩ := X1.leave (v := some (.int ((m5 p1 w) ^^^ (((m5 p1 w).toUInt32 >>> ((16 : Int32) &&& 31).toUInt32).toInt32)))) (fun h => by rw [Bd.returns] at h; cases h)
  refine ⟨_, _, pre0 _ (K2 _ ?_), hrun, hended, _, _, rfl, ?_, ⟨_, rfl⟩, hW, hsame.mono (by decide) (by decide)⟩
  · show Steps p.tables e below (T1.setTop (mkF m 37 #[.val (.ref o0), .val (.int p1), .val (.int (m5 p1 w))] [(.int ((m5 p1 w) ^^^ (((m5 p1 w).toUInt32 >>> ((16 : Int32) &&& 31).toUInt32).toInt32)))])) _
    exact retOut X1 hx Bd.returns rfl (Or.inl ⟨rfl, Or.inl rfl, _, rfl⟩) (hb hby d4_37) hr
  · show Q4 Z o0 p1 w h0 _ T1.heap _
    rw [e1]
    exact ⟨by rw [hv], rfl, rfl⟩
theorem ef_5 (m : MethodId) (x0 : Int32) : entryFrame m #[(.int x0)] 2 = mkF m 0 #[.val (.int x0), .unset] [] := by first | (simp [entryFrame, mkF, argsToLocals, Value.category]; done) | rfl
theorem pn_3 : plainName "com/example/nwx/nwx/core/KeysHashPinLaw" = true := by first | (simp [plainName, overriddenIn]; done) | decide +kernel
theorem d5_0 : decode method_3_code 0 = .ok (.iload_n 0, 1) := by decide +kernel
theorem d5_1 : decode method_3_code 1 = .ok (.iload_n 0, 1) := by decide +kernel
theorem d5_2 : decode method_3_code 2 = .ok (.bipush 16, 2) := by decide +kernel
theorem d5_4 : decode method_3_code 4 = .ok (.iushr, 1) := by decide +kernel
theorem d5_5 : decode method_3_code 5 = .ok (.ixor, 1) := by decide +kernel
theorem d5_6 : decode method_3_code 6 = .ok (.istore_n 1, 1) := by decide +kernel
def u1 (p0 : Int32) : Int32 := (p0 ^^^ ((p0.toUInt32 >>> ((16 : Int32) &&& 31).toUInt32).toInt32))
theorem d5_7 : decode method_3_code 7 = .ok (.iload_n 1, 1) := by decide +kernel
theorem d5_8 : decode method_3_code 8 = .ok (.ldc 24, 2) := by decide +kernel
theorem d5_10 : decode method_3_code 10 = .ok (.imul, 1) := by decide +kernel
theorem d5_11 : decode method_3_code 11 = .ok (.istore_n 1, 1) := by decide +kernel
def u2 (p0 : Int32) : Int32 := ((u1 p0) * (2127672349 : Int32))
theorem d5_12 : decode method_3_code 12 = .ok (.iload_n 1, 1) := by decide +kernel
theorem d5_13 : decode method_3_code 13 = .ok (.iload_n 1, 1) := by decide +kernel
theorem d5_14 : decode method_3_code 14 = .ok (.bipush 13, 2) := by decide +kernel
theorem d5_16 : decode method_3_code 16 = .ok (.iushr, 1) := by decide +kernel
theorem d5_17 : decode method_3_code 17 = .ok (.iload_n 1, 1) := by decide +kernel
theorem d5_18 : decode method_3_code 18 = .ok (.bipush 26, 2) := by decide +kernel
theorem d5_20 : decode method_3_code 20 = .ok (.iushr, 1) := by decide +kernel
theorem d5_21 : decode method_3_code 21 = .ok (.ixor, 1) := by decide +kernel
theorem d5_22 : decode method_3_code 22 = .ok (.ixor, 1) := by decide +kernel
theorem d5_23 : decode method_3_code 23 = .ok (.istore_n 1, 1) := by decide +kernel
def u3 (p0 : Int32) : Int32 := ((u2 p0) ^^^ ((((u2 p0).toUInt32 >>> ((13 : Int32) &&& 31).toUInt32).toInt32) ^^^ (((u2 p0).toUInt32 >>> ((26 : Int32) &&& 31).toUInt32).toInt32)))
theorem d5_24 : decode method_3_code 24 = .ok (.iload_n 1, 1) := by decide +kernel
theorem d5_25 : decode method_3_code 25 = .ok (.ldc 25, 2) := by decide +kernel
theorem d5_27 : decode method_3_code 27 = .ok (.imul, 1) := by decide +kernel
theorem d5_28 : decode method_3_code 28 = .ok (.istore_n 1, 1) := by decide +kernel
def u4 (p0 : Int32) : Int32 := ((u3 p0) * (-1513385405 : Int32))
theorem d5_29 : decode method_3_code 29 = .ok (.iload_n 1, 1) := by decide +kernel
theorem d5_30 : decode method_3_code 30 = .ok (.iload_n 1, 1) := by decide +kernel
theorem d5_31 : decode method_3_code 31 = .ok (.bipush 16, 2) := by decide +kernel
theorem d5_33 : decode method_3_code 33 = .ok (.iushr, 1) := by decide +kernel
theorem d5_34 : decode method_3_code 34 = .ok (.ixor, 1) := by decide +kernel
theorem d5_35 : decode method_3_code 35 = .ok (.ireturn, 1) := by decide +kernel
def f5 (p0 : Int32) : Int32 := ((u4 p0) ^^^ (((u4 p0).toUInt32 >>> ((16 : Int32) &&& 31).toUInt32).toInt32))
def Q5 (Z : State) (p0 : Int32)  (h0 : Heap) (v : Option Value) (h : Heap) (L : List Loc) : Prop := v = some (.int (f5 p0)) ∧ L = [] ∧ h = h0
set_option maxRecDepth 65536 in
set_option maxHeartbeats 40000000 in
theorem rm5 (l : Launch) (Z : State) (a0 : Array Value) (hw : ∀ d ∈ tables_1, d.before a0 Z = true) (ws : List Jvm.Cond) (p0 : Int32)  (h0 : Heap)  :
    MetFree l (⟨"com/example/nwx/nwx/core/KeysHashPinLaw", "unmix", "(I)I"⟩ : MethodName) (head1 (Jvm.Cond.code (⟨"com/example/nwx/nwx/core/KeysHashPinLaw", "unmix", "(I)I"⟩ : MethodName) method_3_code 2 (some .int) :: ws) ({ frames := 0, cells := 0, slots := 0, locals := 0 } : Room)) (fun a U => a = #[(.int p0)] ∧ Z.Warmed39 U.vm ∧ U.heap = h0) (fun _ _ _ _ _ => True) (fun _ U o U' => ∃ v L, o = .returned v ∧ Q5 Z p0  h0 v U'.heap L ∧ FrameEnd U o U' L ({ frames := 0, cells := 0, slots := 0, locals := 0 } : Room).cells ({ frames := 0, cells := 0, slots := 0, locals := 0 } : Room).slots) := by
  refine MetFree.of_bodySF (plainFor_of_name pn_3) hisR ?_
  intro p e s m args below meth c s₁ Bd hml0 hP hK
  obtain ⟨rfl, hZ, hh⟩ := hP
  have hx := Bd.exec
  have hby := Bd.bytes
  have hml : c.maxLocals = 2 := hml0
  have hown : s.vm.findClass "com/example/nwx/nwx/core/KeysHashPinLaw" = some m.cls := findClass_of_methodNamed Bd.named
  have hnm := (name_of_methodNamed Bd.named Bd.method).1
  have X0 : Stand p l e ({ frames := 0, cells := 0, slots := 0, locals := 0 } : Room) s m #[(.int p0)] below meth c s₁ [] 0 0 := Stand.of_body Bd
  have e0 : s₁.heap = h0 := by rw [← hh, Bd.state]; rfl
  have pre0 : ∀ t, Steps p.tables e below (s₁.setTop (mkF m 0 #[.val (.int p0), .unset] [])) t → Steps p.tables e below (s₁.setTop (entryFrame m #[(.int p0)] 2)) t := fun t k => castTop (ef_5 m p0) k
  have K1 : ∀ t, Steps p.tables e below (s₁.setTop (mkF m 35 #[.val (.int p0), .val (.int (u4 p0))] [(.int ((u4 p0) ^^^ (((u4 p0).toUInt32 >>> ((16 : Int32) &&& 31).toUInt32).toInt32)))])) t → Steps p.tables e below (s₁.setTop (mkF m 0 #[.val (.int p0), .unset] [])) t := by
    intro t kt
    show Steps p.tables e below (s₁.setTop (mkF m 0 #[.val (.int p0), .unset] [])) _
    refine XS.iloadN X0.here hx rfl (hb hby d5_0) rfl ?_
    show Steps p.tables e below (s₁.setTop (mkF m 1 #[.val (.int p0), .unset] [(.int p0)])) _
    refine XS.iloadN X0.here hx rfl (hb hby d5_1) rfl ?_
    show Steps p.tables e below (s₁.setTop (mkF m 2 #[.val (.int p0), .unset] [(.int p0), (.int p0)])) _
    refine XS.bipush X0.here hx rfl (hb hby d5_2) ?_
    show Steps p.tables e below (s₁.setTop (mkF m 4 #[.val (.int p0), .unset] [(.int (16 : Int32)), (.int p0), (.int p0)])) _
    refine XS.iushr X0.here hx rfl (hb hby d5_4) rfl ?_
    show Steps p.tables e below (s₁.setTop (mkF m 5 #[.val (.int p0), .unset] [(.int ((p0.toUInt32 >>> ((16 : Int32) &&& 31).toUInt32).toInt32)), (.int p0)])) _
    refine XS.ixor X0.here hx rfl (hb hby d5_5) rfl ?_
    show Steps p.tables e below (s₁.setTop (mkF m 6 #[.val (.int p0), .unset] [(.int (p0 ^^^ ((p0.toUInt32 >>> ((16 : Int32) &&& 31).toUInt32).toInt32)))])) _
    refine XS.istoreN X0.here hx rfl (hb hby d5_6) rfl (l' := #[.val (.int p0), .val (.int (u1 p0))]) rfl ?_
    show Steps p.tables e below (s₁.setTop (mkF m 7 #[.val (.int p0), .val (.int (u1 p0))] [])) _
    refine XS.iloadN X0.here hx rfl (hb hby d5_7) rfl ?_
    show Steps p.tables e below (s₁.setTop (mkF m 8 #[.val (.int p0), .val (.int (u1 p0))] [(.int (u1 p0))])) _
    refine X0.ldcInt hx hown (mvT hZ (hw _ (List.mem_of_getElem? (i := 35) rfl))) (g := (mkF m 8 #[.val (.int p0), .val (.int (u1 p0))] [(.int (u1 p0))])) rfl (hb hby d5_8) _ ?_
    show Steps p.tables e below (s₁.setTop (mkF m 10 #[.val (.int p0), .val (.int (u1 p0))] [(.int (2127672349 : Int32)), (.int (u1 p0))])) _
    refine XS.imul X0.here hx rfl (hb hby d5_10) rfl ?_
    show Steps p.tables e below (s₁.setTop (mkF m 11 #[.val (.int p0), .val (.int (u1 p0))] [(.int ((u1 p0) * (2127672349 : Int32)))])) _
    refine XS.istoreN X0.here hx rfl (hb hby d5_11) rfl (l' := #[.val (.int p0), .val (.int (u2 p0))]) rfl ?_
    show Steps p.tables e below (s₁.setTop (mkF m 12 #[.val (.int p0), .val (.int (u2 p0))] [])) _
    refine XS.iloadN X0.here hx rfl (hb hby d5_12) rfl ?_
    show Steps p.tables e below (s₁.setTop (mkF m 13 #[.val (.int p0), .val (.int (u2 p0))] [(.int (u2 p0))])) _
    refine XS.iloadN X0.here hx rfl (hb hby d5_13) rfl ?_
    show Steps p.tables e below (s₁.setTop (mkF m 14 #[.val (.int p0), .val (.int (u2 p0))] [(.int (u2 p0)), (.int (u2 p0))])) _
    refine XS.bipush X0.here hx rfl (hb hby d5_14) ?_
    show Steps p.tables e below (s₁.setTop (mkF m 16 #[.val (.int p0), .val (.int (u2 p0))] [(.int (13 : Int32)), (.int (u2 p0)), (.int (u2 p0))])) _
    refine XS.iushr X0.here hx rfl (hb hby d5_16) rfl ?_
    show Steps p.tables e below (s₁.setTop (mkF m 17 #[.val (.int p0), .val (.int (u2 p0))] [(.int (((u2 p0).toUInt32 >>> ((13 : Int32) &&& 31).toUInt32).toInt32)), (.int (u2 p0))])) _
    refine XS.iloadN X0.here hx rfl (hb hby d5_17) rfl ?_
    show Steps p.tables e below (s₁.setTop (mkF m 18 #[.val (.int p0), .val (.int (u2 p0))] [(.int (u2 p0)), (.int (((u2 p0).toUInt32 >>> ((13 : Int32) &&& 31).toUInt32).toInt32)), (.int (u2 p0))])) _
    refine XS.bipush X0.here hx rfl (hb hby d5_18) ?_
    show Steps p.tables e below (s₁.setTop (mkF m 20 #[.val (.int p0), .val (.int (u2 p0))] [(.int (26 : Int32)), (.int (u2 p0)), (.int (((u2 p0).toUInt32 >>> ((13 : Int32) &&& 31).toUInt32).toInt32)), (.int (u2 p0))])) _
    refine XS.iushr X0.here hx rfl (hb hby d5_20) rfl ?_
    show Steps p.tables e below (s₁.setTop (mkF m 21 #[.val (.int p0), .val (.int (u2 p0))] [(.int (((u2 p0).toUInt32 >>> ((26 : Int32) &&& 31).toUInt32).toInt32)), (.int (((u2 p0).toUInt32 >>> ((13 : Int32) &&& 31).toUInt32).toInt32)), (.int (u2 p0))])) _
    refine XS.ixor X0.here hx rfl (hb hby d5_21) rfl ?_
    show Steps p.tables e below (s₁.setTop (mkF m 22 #[.val (.int p0), .val (.int (u2 p0))] [(.int ((((u2 p0).toUInt32 >>> ((13 : Int32) &&& 31).toUInt32).toInt32) ^^^ (((u2 p0).toUInt32 >>> ((26 : Int32) &&& 31).toUInt32).toInt32))), (.int (u2 p0))])) _
    refine XS.ixor X0.here hx rfl (hb hby d5_22) rfl ?_
    show Steps p.tables e below (s₁.setTop (mkF m 23 #[.val (.int p0), .val (.int (u2 p0))] [(.int ((u2 p0) ^^^ ((((u2 p0).toUInt32 >>> ((13 : Int32) &&& 31).toUInt32).toInt32) ^^^ (((u2 p0).toUInt32 >>> ((26 : Int32) &&& 31).toUInt32).toInt32))))])) _
    refine XS.istoreN X0.here hx rfl (hb hby d5_23) rfl (l' := #[.val (.int p0), .val (.int (u3 p0))]) rfl ?_
    show Steps p.tables e below (s₁.setTop (mkF m 24 #[.val (.int p0), .val (.int (u3 p0))] [])) _
    refine XS.iloadN X0.here hx rfl (hb hby d5_24) rfl ?_
    show Steps p.tables e below (s₁.setTop (mkF m 25 #[.val (.int p0), .val (.int (u3 p0))] [(.int (u3 p0))])) _
    refine X0.ldcInt hx hown (mvT hZ (hw _ (List.mem_of_getElem? (i := 36) rfl))) (g := (mkF m 25 #[.val (.int p0), .val (.int (u3 p0))] [(.int (u3 p0))])) rfl (hb hby d5_25) _ ?_
    show Steps p.tables e below (s₁.setTop (mkF m 27 #[.val (.int p0), .val (.int (u3 p0))] [(.int (-1513385405 : Int32)), (.int (u3 p0))])) _
    refine XS.imul X0.here hx rfl (hb hby d5_27) rfl ?_
    show Steps p.tables e below (s₁.setTop (mkF m 28 #[.val (.int p0), .val (.int (u3 p0))] [(.int ((u3 p0) * (-1513385405 : Int32)))])) _
    refine XS.istoreN X0.here hx rfl (hb hby d5_28) rfl (l' := #[.val (.int p0), .val (.int (u4 p0))]) rfl ?_
    show Steps p.tables e below (s₁.setTop (mkF m 29 #[.val (.int p0), .val (.int (u4 p0))] [])) _
    refine XS.iloadN X0.here hx rfl (hb hby d5_29) rfl ?_
    show Steps p.tables e below (s₁.setTop (mkF m 30 #[.val (.int p0), .val (.int (u4 p0))] [(.int (u4 p0))])) _
    refine XS.iloadN X0.here hx rfl (hb hby d5_30) rfl ?_
    show Steps p.tables e below (s₁.setTop (mkF m 31 #[.val (.int p0), .val (.int (u4 p0))] [(.int (u4 p0)), (.int (u4 p0))])) _
    refine XS.bipush X0.here hx rfl (hb hby d5_31) ?_
    show Steps p.tables e below (s₁.setTop (mkF m 33 #[.val (.int p0), .val (.int (u4 p0))] [(.int (16 : Int32)), (.int (u4 p0)), (.int (u4 p0))])) _
    refine XS.iushr X0.here hx rfl (hb hby d5_33) rfl ?_
    show Steps p.tables e below (s₁.setTop (mkF m 34 #[.val (.int p0), .val (.int (u4 p0))] [(.int (((u4 p0).toUInt32 >>> ((16 : Int32) &&& 31).toUInt32).toInt32)), (.int (u4 p0))])) _
    refine XS.ixor X0.here hx rfl (hb hby d5_34) rfl ?_
    exact kt
  have hv : f5 p0 = ((u4 p0) ^^^ (((u4 p0).toUInt32 >>> ((16 : Int32) &&& 31).toUInt32).toInt32)) := rfl
  obtain ⟨fs, hr, hrun, hended, hW, hsame⟩ := X0.leave (v := some (.int ((u4 p0) ^^^ (((u4 p0).toUInt32 >>> ((16 : Int32) &&& 31).toUInt32).toInt32)))) (fun h => by rw [Bd.returns] at h; cases h)
  refine ⟨_, _, pre0 _ (K1 _ ?_), hrun, hended, _, _, rfl, ?_, ⟨_, rfl⟩, hW, hsame.mono (by decide) (by decide)⟩
  · show Steps p.tables e below (s₁.setTop (mkF m 35 #[.val (.int p0), .val (.int (u4 p0))] [(.int ((u4 p0) ^^^ (((u4 p0).toUInt32 >>> ((16 : Int32) &&& 31).toUInt32).toInt32)))])) _
    exact retOut X0 hx Bd.returns rfl (Or.inl ⟨rfl, Or.inl rfl, _, rfl⟩) (hb hby d5_35) hr
  · show Q5 Z p0  h0 _ s₁.heap _
    rw [e0]
    exact ⟨by rw [hv], rfl, rfl⟩
theorem own_xor_i (x y : Int32) : (x ^^^ y).toBitVec = x.toBitVec ^^^ y.toBitVec := rfl
theorem own_xs16 (x : BitVec 32) : (x ^^^ x >>> 16) ^^^ (x ^^^ x >>> 16) >>> 16 = x := by
  apply BitVec.eq_of_getLsbD_eq
  intro i hi
  have h3 : x.getLsbD (16 + (16 + i)) = false := BitVec.getLsbD_of_ge x _ (by omega)
  simp only [BitVec.getLsbD_xor, BitVec.getLsbD_ushiftRight]
  rw [h3]
  cases x.getLsbD i <;> cases x.getLsbD (16 + i) <;> rfl
theorem own_xs13 (x : BitVec 32) : (x ^^^ x >>> 13) ^^^ ((x ^^^ x >>> 13) >>> 13 ^^^ (x ^^^ x >>> 13) >>> 26) = x := by
  apply BitVec.eq_of_getLsbD_eq
  intro i hi
  have h3 : x.getLsbD (13 + (26 + i)) = false := BitVec.getLsbD_of_ge x _ (by omega)
  simp only [BitVec.getLsbD_xor, BitVec.getLsbD_ushiftRight]
  rw [h3, show 13 + (13 + i) = 26 + i from by omega]
  cases x.getLsbD i <;> cases x.getLsbD (13 + i) <;> cases x.getLsbD (26 + i) <;> rfl
theorem own_inv16 (x y : Int32) (hy : y = x ^^^ ((x.toUInt32 >>> ((16 : Int32) &&& 31).toUInt32).toInt32)) : (y ^^^ ((y.toUInt32 >>> ((16 : Int32) &&& 31).toUInt32).toInt32)) = x := by
  apply Int32.toBitVec_inj.mp
  rw [own_xor_i, own_iushr y 16 16 (by decide), hy, own_xor_i, own_iushr x 16 16 (by decide)]
  exact own_xs16 _
theorem own_inv13 (x y : Int32) (hy : y = x ^^^ ((x.toUInt32 >>> ((13 : Int32) &&& 31).toUInt32).toInt32)) : (y ^^^ (((y.toUInt32 >>> ((13 : Int32) &&& 31).toUInt32).toInt32) ^^^ ((y.toUInt32 >>> ((26 : Int32) &&& 31).toUInt32).toInt32))) = x := by
  apply Int32.toBitVec_inj.mp
  rw [own_xor_i, own_xor_i, own_iushr y 13 13 (by decide), own_iushr y 26 26 (by decide), hy, own_xor_i, own_iushr x 13 13 (by decide)]
  exact own_xs13 _
theorem own_hash (p w : Int32) : (f5 (f4 p w) ^^^ w) = p := by
  have e1 : u1 (f4 p w) = m5 p w := own_inv16 (m5 p w) (f4 p w) rfl
  have e2 : u2 (f4 p w) = m4 p w := by
    show u1 (f4 p w) * (2127672349 : Int32) = _
    rw [e1]
    show (m4 p w * (-1028477387 : Int32)) * (2127672349 : Int32) = _
    rw [Int32.mul_assoc, show ((-1028477387 : Int32) * (2127672349 : Int32)) = 1 from by decide, Int32.mul_one]
  have e3 : u3 (f4 p w) = m3 p w := own_inv13 (m3 p w) (u2 (f4 p w)) e2
  have e4 : u4 (f4 p w) = m2 p w := by
    show u3 (f4 p w) * (-1513385405 : Int32) = _
    rw [e3]
    show (m2 p w * (-2048144789 : Int32)) * (-1513385405 : Int32) = _
    rw [Int32.mul_assoc, show ((-2048144789 : Int32) * (-1513385405 : Int32)) = 1 from by decide, Int32.mul_one]
  have e5 : f5 (f4 p w) = m1 p w := own_inv16 (m1 p w) (u4 (f4 p w)) e4
  rw [e5]
  show (p ^^^ w) ^^^ w = p
  rw [Int32.xor_assoc, Int32.xor_self, Int32.xor_zero]
theorem ef_0 (m : MethodId) (x0 : Int32) (x1 : Int32) : entryFrame m #[(.int x0), (.int x1)] maxLocals = mkF m 0 #[.val (.int x0), .val (.int x1), .unset, .unset] [] := by first | (simp [entryFrame, mkF, argsToLocals, Value.category, maxLocals]; done) | rfl
theorem pd_1 : parseMethodDescriptor "(I)V" = some ⟨[.int], none⟩ := by decide +kernel
theorem pd_2 : parseMethodDescriptor "(Lcom/example/nwx/nwx/core/KeyIndex$Table;I)I" = some ⟨[(.object "com/example/nwx/nwx/core/KeyIndex$Table"), .int], some .int⟩ := by decide +kernel
theorem pd_3 : parseMethodDescriptor "(I)I" = some ⟨[.int], some .int⟩ := by decide +kernel
def Q0 (Z : State) (p0 : Int32) (p1 : Int32)  (h0 : Heap) (n0 : Nat) (v : Option Value) (h : Heap) (L : List Loc) : Prop := v = some (.int 1) ∧ Fr n0 L
set_option maxRecDepth 65536 in
set_option maxHeartbeats 40000000 in
theorem rm0 (l : Launch) (Z : State) (a0 : Array Value) (hw : ∀ d ∈ tables_1, d.before a0 Z = true) (ws : List Jvm.Cond) (p0 : Int32) (p1 : Int32)  (h0 : Heap) (n0 : Nat) (Z0 : n0 ≤ h0.size)  :
    MetFree l x (head1 (Jvm.Cond.code x code maxLocals ret :: ws) room_1) (fun a U => a = #[(.int p0), (.int p1)] ∧ Z.Warmed39 U.vm ∧ U.heap = h0) (fun _ _ _ _ _ => True) (fun _ U o U' => ∃ v L, o = .returned v ∧ Q0 Z p0 p1  h0 n0 v U'.heap L ∧ FrameEnd U o U' L room_1.cells room_1.slots) := by
  refine MetFree.of_bodySF (plainFor_of_name pn_3) hisR ?_
  intro p e s m args below meth c s₁ Bd hml0 hP hK
  obtain ⟨rfl, hZ, hh⟩ := hP
  have hx := Bd.exec
  have hby := Bd.bytes
  have hml : c.maxLocals = 4 := hml0
  have hown : s.vm.findClass "com/example/nwx/nwx/core/KeysHashPinLaw" = some m.cls := findClass_of_methodNamed Bd.named
  have hnm := (name_of_methodNamed Bd.named Bd.method).1
  have X0 : Stand p l e room_1 s m #[(.int p0), (.int p1)] below meth c s₁ [] 0 0 := Stand.of_body Bd
  have e0 : s₁.heap = h0 := by rw [← hh, Bd.state]; rfl
  have pre0 : ∀ t, Steps p.tables e below (s₁.setTop (mkF m 0 #[.val (.int p0), .val (.int p1), .unset, .unset] [])) t → Steps p.tables e below (s₁.setTop (entryFrame m #[(.int p0), (.int p1)] maxLocals)) t := fun t k => castTop (ef_0 m p0 p1) k
  have N0 := Fr.nil n0
  obtain ⟨T1, h1, X1, e1, E1, A1, D1, -, st1⟩ := newO X0 hx hZ hown (hw _ (List.mem_of_getElem? (i := 0) rfl)) (hw _ (List.mem_of_getElem? (i := 1) rfl)) (hw _ (List.mem_of_getElem? (i := 2) rfl)) e0 (g := (mkF m 0 #[.val (.int p0), .val (.int p1), .unset, .unset] [])) rfl (hb hby at_0) (by decide) (by decide)
  obtain ⟨b1, g1⟩ : ∃ z, z = h0.size := ⟨_, rfl⟩
  rw [← g1] at A1 D1 st1
  have gn1 : n0 ≤ b1 := Nat.le_trans Z0 (Nat.le_of_eq g1.symm)
  have Z1 : n0 ≤ h1.size := Nat.le_trans Z0 E1.1
  have F1_order : Fld Z h1 b1 "com/example/nwx/nwx/core/KeyIndex$Table" "order" "Lcom/example/nwx/nwx/core/Slots$Order;" .null := D1 (Or.inr (hw _ (List.mem_of_getElem? (i := 21) rfl))) (ty := (.object "com/example/nwx/nwx/core/Slots$Order")) (by decide)
  have F1_salt : Fld Z h1 b1 "com/example/nwx/nwx/core/KeyIndex$Table" "salt" "I" (.int (0 : Int32)) := D1 (Or.inr (hw _ (List.mem_of_getElem? (i := 23) rfl))) (ty := .int) (by decide)
  obtain ⟨_, _, ⟨T2, L2, k2, n2⟩, -, X2, ⟨Lc2, hQ2, l2, y2, z2⟩, st2⟩ := X1.specialBack hx (y := (⟨"com/example/nwx/nwx/core/KeyIndex$Table", "<init>", "(I)V"⟩ : MethodName)) rfl hown (mvT hZ (hw _ (List.mem_of_getElem? (i := 3) rfl))) (mvT hZ (hw _ (List.mem_of_getElem? (i := 4) rfl))) (mvT hZ (hw _ (List.mem_of_getElem? (i := 5) rfl))) (by decide) (backOf (W := 1) (rm1 l Z a0 hw [] b1 p0 .null (.int (0 : Int32)) h1 n0 Z1 F1_order F1_salt A1 gn1) hZ (hw _ (List.mem_of_getElem? (i := 5) rfl)) (hw _ (List.mem_of_getElem? (i := 2) rfl)) (by decide) (by decide)) (g := (mkF m 5 #[.val (.int p0), .val (.int p1), .unset, .unset] [(.int p0), (.ref b1), (.ref b1)])) rfl (by rw [hml]; rfl) (Steps.refl _) (a := b1) (argsL := [(.int p0)]) (rest := [(.ref b1)]) (lenOf pd_1 rfl) rfl (by show 2 * 0 + _ ≤ _; exact Nat.le_of_eq rfl) (hb hby at_5) (fun _ _ => ⟨rfl, e1, (by decide : 1 + 1 ≤ _), (by decide : 3 + 2 ≤ _)⟩)
  dsimp only [Pt.U, Pt.locs, Pt.cells, Pt.slots] at X2 l2 y2 z2 st2 hQ2
  subst l2 y2 z2
  obtain ⟨rfl, N2q, K2q, F2q⟩ := hQ2
  have N2 := Fr.app N0 N2q
  have Z2 : n0 ≤ T2.heap.size := Nat.le_trans Z1 K2q.1
  have G3 : Exa Z T2.heap b1 "com/example/nwx/nwx/core/KeyIndex$Table" := A1.keep K2q
  obtain ⟨_, _, ⟨T4, L4, k4, n4⟩, -, X4, ⟨Lc4, hQ4, l4, y4, z4⟩, st4⟩ := Jvm.LawKit.callS X2 hx (y := (⟨"com/example/nwx/nwx/core/KeyIndex$Keys", "hash", "(Lcom/example/nwx/nwx/core/KeyIndex$Table;I)I"⟩ : MethodName)) hown (mvT hZ (hw _ (List.mem_of_getElem? (i := 24) rfl))) (mvT hZ (hw _ (List.mem_of_getElem? (i := 25) rfl))) (mvT hZ (hw _ (List.mem_of_getElem? (i := 26) rfl))) (mvT hZ (hw _ (List.mem_of_getElem? (i := 27) rfl))) (by decide) (backOf (W := 0) (rm4 l Z a0 hw [] b1 p1 p0 T2.heap F2q) hZ (hw _ (List.mem_of_getElem? (i := 27) rfl)) (hw _ (List.mem_of_getElem? (i := 26) rfl)) (by decide) (by decide)) (g := (mkF m 11 #[.val (.int p0), .val (.int p1), .val (.ref b1), .unset] [(.int p1), (.ref b1)])) rfl (by rw [hml]; rfl) (argsL := [(.ref b1), (.int p1)]) (rest := []) (lenOf pd_2 rfl) rfl (by show 2 * 0 + _ ≤ _; exact Nat.le_of_eq rfl) (hb hby at_11) (fun _ _ => ⟨rfl, rfl, (by decide : 2 + 0 ≤ _), (by decide : 5 + 0 ≤ _)⟩)
  dsimp only [Pt.U, Pt.locs, Pt.cells, Pt.slots] at X4 l4 y4 z4 st4 hQ4
  subst l4 y4 z4
  obtain ⟨rfl, rfl, e4⟩ := hQ4
  try rw [List.append_nil] at X4
  obtain ⟨_, _, ⟨T5, L5, k5, n5⟩, -, X5, ⟨Lc5, hQ5, l5, y5, z5⟩, st5⟩ := Jvm.LawKit.callS X4 hx (y := (⟨"com/example/nwx/nwx/core/KeysHashPinLaw", "unmix", "(I)I"⟩ : MethodName)) hown (mvT hZ (hw _ (List.mem_of_getElem? (i := 31) rfl))) (mvT hZ (hw _ (List.mem_of_getElem? (i := 32) rfl))) (mvT hZ (hw _ (List.mem_of_getElem? (i := 33) rfl))) (mvT hZ (hw _ (List.mem_of_getElem? (i := 34) rfl))) (by decide) (backOf (W := 0) (rm5 l Z a0 hw [] (f4 p1 p0)  T2.heap ) hZ (hw _ (List.mem_of_getElem? (i := 34) rfl)) (hw _ (List.mem_of_getElem? (i := 33) rfl)) (by decide) (by decide)) (g := (mkF m 16 #[.val (.int p0), .val (.int p1), .val (.ref b1), .val (.int (f4 p1 p0))] [(.int (f4 p1 p0))])) rfl (by rw [hml]; rfl) (argsL := [(.int (f4 p1 p0))]) (rest := []) (lenOf pd_3 rfl) rfl (by show 2 * 0 + _ ≤ _; exact Nat.le_of_eq rfl) (hb hby at_16) (fun _ _ => ⟨rfl, e4, (by decide : 2 + 0 ≤ _), (by decide : 5 + 0 ≤ _)⟩)
  dsimp only [Pt.U, Pt.locs, Pt.cells, Pt.slots] at X5 l5 y5 z5 st5 hQ5
  subst l5 y5 z5
  obtain ⟨rfl, rfl, e5⟩ := hQ5
  try rw [List.append_nil] at X5
  have K6 : ∀ t, Steps p.tables e below (T5.setTop (mkF m 30 #[.val (.int p0), .val (.int p1), .val (.ref b1), .val (.int (f4 p1 p0))] [(.int (1 : Int32))])) t → Steps p.tables e below (s₁.setTop (mkF m 0 #[.val (.int p0), .val (.int p1), .unset, .unset] [])) t := by
    intro t kt
    show Steps p.tables e below (s₁.setTop (mkF m 0 #[.val (.int p0), .val (.int p1), .unset, .unset] [])) _
    refine st1 _ ?_
    show Steps p.tables e below (T1.setTop (mkF m 3 #[.val (.int p0), .val (.int p1), .unset, .unset] [(.ref b1)])) _
    refine XS.dup X1.here hx rfl (hb hby at_3) rfl rfl ?_
    show Steps p.tables e below (T1.setTop (mkF m 4 #[.val (.int p0), .val (.int p1), .unset, .unset] [(.ref b1), (.ref b1)])) _
    refine XS.iloadN X1.here hx rfl (hb hby at_4) rfl ?_
    show Steps p.tables e below (T1.setTop (mkF m 5 #[.val (.int p0), .val (.int p1), .unset, .unset] [(.int p0), (.ref b1), (.ref b1)])) _
    refine st2.trans ?_
    show Steps p.tables e below (T2.setTop (mkF m 8 #[.val (.int p0), .val (.int p1), .unset, .unset] [(.ref b1)])) _
    refine XS.astoreN X2.here hx rfl (hb hby at_8) rfl rfl (l' := #[.val (.int p0), .val (.int p1), .val (.ref b1), .unset]) rfl ?_
    show Steps p.tables e below (T2.setTop (mkF m 9 #[.val (.int p0), .val (.int p1), .val (.ref b1), .unset] [])) _
    refine XS.aloadN X2.here hx rfl (hb hby at_9) rfl rfl ?_
    show Steps p.tables e below (T2.setTop (mkF m 10 #[.val (.int p0), .val (.int p1), .val (.ref b1), .unset] [(.ref b1)])) _
    refine XS.iloadN X2.here hx rfl (hb hby at_10) rfl ?_
    show Steps p.tables e below (T2.setTop (mkF m 11 #[.val (.int p0), .val (.int p1), .val (.ref b1), .unset] [(.int p1), (.ref b1)])) _
    refine st4 _ ?_
    show Steps p.tables e below (T4.setTop (mkF m 14 #[.val (.int p0), .val (.int p1), .val (.ref b1), .unset] [(.int (f4 p1 p0))])) _
    refine XS.istoreN X4.here hx rfl (hb hby at_14) rfl (l' := #[.val (.int p0), .val (.int p1), .val (.ref b1), .val (.int (f4 p1 p0))]) rfl ?_
    show Steps p.tables e below (T4.setTop (mkF m 15 #[.val (.int p0), .val (.int p1), .val (.ref b1), .val (.int (f4 p1 p0))] [])) _
    refine XS.iloadN X4.here hx rfl (hb hby at_15) rfl ?_
    show Steps p.tables e below (T4.setTop (mkF m 16 #[.val (.int p0), .val (.int p1), .val (.ref b1), .val (.int (f4 p1 p0))] [(.int (f4 p1 p0))])) _
    refine st5 _ ?_
    show Steps p.tables e below (T5.setTop (mkF m 19 #[.val (.int p0), .val (.int p1), .val (.ref b1), .val (.int (f4 p1 p0))] [(.int (f5 (f4 p1 p0)))])) _
    refine XS.iloadN X5.here hx rfl (hb hby at_19) rfl ?_
    show Steps p.tables e below (T5.setTop (mkF m 20 #[.val (.int p0), .val (.int p1), .val (.ref b1), .val (.int (f4 p1 p0))] [(.int p0), (.int (f5 (f4 p1 p0)))])) _
    refine XS.ixor X5.here hx rfl (hb hby at_20) rfl ?_
    show Steps p.tables e below (T5.setTop (mkF m 21 #[.val (.int p0), .val (.int p1), .val (.ref b1), .val (.int (f4 p1 p0))] [(.int ((f5 (f4 p1 p0)) ^^^ p0))])) _
    refine XS.iloadN X5.here hx rfl (hb hby at_21) rfl ?_
    show Steps p.tables e below (T5.setTop (mkF m 22 #[.val (.int p0), .val (.int p1), .val (.ref b1), .val (.int (f4 p1 p0))] [(.int p1), (.int ((f5 (f4 p1 p0)) ^^^ p0))])) _
    refine XS.icmpNo X5.here hx rfl (hb hby at_22) rfl (teq (show ((f5 (f4 p1 p0)) ^^^ p0) = p1 from (own_hash _ _))).2 ?_
    show Steps p.tables e below (T5.setTop (mkF m 25 #[.val (.int p0), .val (.int p1), .val (.ref b1), .val (.int (f4 p1 p0))] [])) _
    refine XS.iconst X5.here hx rfl (hb hby at_25) ?_
    show Steps p.tables e below (T5.setTop (mkF m 26 #[.val (.int p0), .val (.int p1), .val (.ref b1), .val (.int (f4 p1 p0))] [(.int (1 : Int32))])) _
    refine XS.goto X5.here hx rfl (pc0 := 26) (pc' := 30) rfl (hb hby at_26) (by decide) (by decide) ?_
    exact kt
  obtain ⟨fs, hr, hrun, hended, hW, hsame⟩ := X5.leave (v := some (.int (1 : Int32))) (fun h => by rw [Bd.returns] at h; cases h)
  refine ⟨_, _, pre0 _ (K6 _ ?_), hrun, hended, _, _, rfl, ?_, ⟨_, rfl⟩, hW, hsame.mono (by decide) (by decide)⟩
  · show Steps p.tables e below (T5.setTop (mkF m 30 #[.val (.int p0), .val (.int p1), .val (.ref b1), .val (.int (f4 p1 p0))] [(.int (1 : Int32))])) _
    exact retN X5 hx (t := .boolean) Bd.returns (by simp) (hb hby at_30) hr
  · show Q0 Z p0 p1  h0 n0 _ T5.heap _
    rw [e5]
    exact ⟨rfl, N2⟩
set_option maxRecDepth 65536 in
set_option maxHeartbeats 40000000 in
theorem comes_1 {Post : Tables → Env → Array Value → State → Outcome → State → Prop} (hpost : ∀ tb e args s v u, (limb_1_1.after args s (.returned v) u = true ∧ limb_1_2.after args s (.returned v) u = true ∧ True) → FrameEnd s (.returned v) u (Jvm.fieldLocs frame_1_writes args s ++ Jvm.arrayLocs frame_1_arrays args s ++ Jvm.staticLocs frame_1_statics s) 16 128 → Post tb e args s (.returned v) u) :
    ArmFor flags0 classFile x code maxLocals ret World_1 tables_1 room_1 Calls_1 rest_1 Pre_1 Post := by
  intro l hfl _ _ p e ha hc hk s m args below hf hA hF happ hP
  obtain ⟨hcalls, hrest, hpre⟩ := hP
  obtain ⟨-, -, -, hnamed, -, -, -, hat⟩ := (Spec.applies_iff hf).mp happ
  obtain ⟨hg, hn⟩ := and_e (Cond.before_iff.mp (show (Jvm.Cond.and given_1 narrow_1).before args s = true from hpre))
  obtain ⟨hcount, hk0⟩ := and_e hg
  obtain ⟨hi0, hk1⟩ := and_e hk0
  have hi1 := hk1
  obtain ⟨w0, w1, rfl⟩ : ∃ w0 w1 : Value, args = #[w0, w1] := by
    have hs : args.size = 2 := by simpa [Cond.value, given_1] using hcount
    obtain ⟨L⟩ := args
    match L, hs with
    | [w0, w1], _ => exact ⟨w0, w1, rfl⟩
  have hw := fun d (hd : d ∈ tables_1) => atoms_spec (ws := Jvm.Cond.code x code maxLocals ret :: tables_1) hat d (List.mem_cons_of_mem _ hd)
  obtain ⟨i0, ei0⟩ := is_v hi0
  obtain rfl : w0 = (.int i0) := Option.some.inj ei0
  obtain ⟨i1, ei1⟩ := is_v hi1
  obtain rfl : w1 = (.int i1) := Option.some.inj ei1
  obtain ⟨n, o, h1, h2, h3, v, L, rfl, hQ, hq⟩ := rm0 l s _ hw tables_1 i0 i1 s.heap s.heap.size (Nat.le_refl _) p e ha hc hk s m _ below hf ((Spec.applies_iff_loose hf).mp happ).1 ⟨rfl, State.Warmed39.refl s, rfl⟩ trivial
  obtain ⟨rfl, N⟩ : v = some (.int 1) ∧ Fr s.heap.size L := by
    exact ⟨hQ.1, hQ.2⟩
  refine ⟨n, _, h1, h2, h3, hpost _ _ _ _ _ _ ⟨Cond.after_iff.mpr rfl, Cond.after_iff.mpr (eq_i res_at (Term.int_eval (1)) rfl), trivial⟩ ⟨hq.1, hq.2.1, (hq.2.2.sift fun y hy => Or.inr (N y hy)).mono (by decide) (by decide)⟩⟩
theorem main_1_1 : Claimed_1_1 := comes_1 fun _ _ _ _ _ _ h hF => ⟨h.1, hF⟩
theorem main_1_2 : Claimed_1_2 := comes_1 fun _ _ _ _ _ _ h hF => ⟨h.2.1, hF⟩
end Jvm.Pilot.@@N@@
namespace Jvm.Pilot.@@N@@
open Jvm Jvm.ClassFile Sem Op Lib Jvm.Free Jvm.Stand Jvm.Pilot.@@N@@.Jvm.D
/-! MADE BY PROGRAM (witnessworld.py) out of the Statement's table words and the real class files: 12 classes; the members and pool entries that the words name. The judged class is class 1, her method 1. -/
namespace start1
open Jvm.ClassFile
def u (s : String) : CpInfo := .utf8 (stringToUtf16 s)
/-- a pool by its gaps: so many unusable entries, then the entry; so many at the end -/
def gap : Nat → List CpInfo → List CpInfo
  | 0, r => r
  | n + 1, r => .unusable :: gap n r
def poolList (es : List (Nat × CpInfo)) (last : Nat) : List CpInfo := es.foldr (fun e r => gap e.1 (e.2 :: r)) (gap last [])
def pool (es : List (Nat × CpInfo)) (last : Nat) : Array CpInfo := ⟨poolList es last⟩
def fileOf (pool : Array CpInfo) (this : Nat) (attrs : Array Attribute := #[]) (ms : Array MethodInfo := #[]) (fl : Nat := 33) (sup : Nat := 0) (ifs : Array Nat := #[]) (fds : Array FieldInfo := #[]) : ClassFile where
  minorVersion := 0
  majorVersion := 65
  constantPool := pool
  accessFlags := fl
  thisClass := this
  superClass := sup
  interfaces := ifs
  fields := fds
  methods := ms
  attributes := attrs
def plain (name : String) (sup : Option ClassId) : Class where
  name := name
  kind := .ordinary
  loader := none
  accessFlags := 33
  super := sup
  interfaces := #[]
  cf := none
  fields := #[]
  methods := #[]
  instanceTypes := #[]
  staticTypes := #[]
  resolved := #[]
  callSites := []
  init := .initialized
  statics := none
  mirror := none

def pool0 : Array CpInfo := pool [(5, u "<init>"), (0, u "()V"), (1, .class_ 10), (1, u "java/lang/Object")] 113

def k0c0 : Code := { maxStack := 0, maxLocals := 1, code := object_method_1_code, exceptionTable := #[], attributes := #[] }
def k0m0 : Method := { name := "<init>", desc := "()V", sig := { parameters := [], returnType := none }, accessFlags := 1, code := some k0c0 }
/-- java/lang/Object -/
def k0 : Class := { plain "java/lang/Object" none with
  accessFlags := 33
  interfaces := #[]
  cf := some (fileOf pool0 8 #[] #[{ accessFlags := 1, nameIndex := 5, descriptorIndex := 6, attributes := #[] }] 33 0 #[] #[])
  fields := #[]
  methods := #[k0m0]
  instanceTypes := #[]
  staticTypes := #[]
  resolved := Array.replicate 124 none
  statics := none }

def pool1 : Array CpInfo := pool [(2, .class_ 4), (1, u "java/lang/Object"), (0, u "<init>"), (0, u "()V"), (0, .class_ 8), (0, u "com/example/nwx/nwx/core/KeyIndex$Table"), (0, .methodref 7 10), (0, .nameAndType 5 11), (0, u "(I)V"), (0, .methodref 13 14), (0, .class_ 15), (0, .nameAndType 16 17), (0, u "com/example/nwx/nwx/core/KeyIndex$Keys"), (0, u "hash"), (0, u "(Lcom/example/nwx/nwx/core/KeyIndex$Table;I)I"), (0, .methodref 19 20), (0, .class_ 21), (0, .nameAndType 22 23), (0, u "com/example/nwx/nwx/core/KeysHashPinLaw"), (0, u "unmix"), (0, u "(I)I"), (0, .integer 2127672349), (0, .integer 2781581891), (2, u "law"), (0, u "(II)Z")] 8

def k1m0 : Method := { name := "<init>", desc := "()V", sig := { parameters := [], returnType := none }, accessFlags := 2, code := none }
def k1c1 : Code := { maxStack := 3, maxLocals := 4, code := code, exceptionTable := #[], attributes := #[] }
def k1m1 : Method := { name := "law", desc := "(II)Z", sig := { parameters := [.int, .int], returnType := some .boolean }, accessFlags := 9, code := some k1c1 }
def k1c2 : Code := { maxStack := 4, maxLocals := 2, code := method_3_code, exceptionTable := #[], attributes := #[] }
def k1m2 : Method := { name := "unmix", desc := "(I)I", sig := { parameters := [.int], returnType := some .int }, accessFlags := 10, code := some k1c2 }
/-- com/example/nwx/nwx/core/KeysHashPinLaw -/
def k1 : Class := { plain "com/example/nwx/nwx/core/KeysHashPinLaw" (some 0) with
  accessFlags := 49
  interfaces := #[]
  cf := some (fileOf pool1 19 #[] #[{ accessFlags := 2, nameIndex := 5, descriptorIndex := 6, attributes := #[] }, { accessFlags := 9, nameIndex := 28, descriptorIndex := 29, attributes := #[] }, { accessFlags := 10, nameIndex := 22, descriptorIndex := 23, attributes := #[] }] 49 2 #[] #[])
  fields := #[]
  methods := #[k1m0, k1m1, k1m2]
  instanceTypes := #[]
  staticTypes := #[]
  resolved := Array.replicate 38 none
  statics := none }

def pool2 : Array CpInfo := pool [(1, .methodref 2 3), (0, .class_ 4), (0, .nameAndType 5 6), (0, u "java/lang/Object"), (0, u "<init>"), (0, u "()V"), (0, .class_ 8), (0, u "com/example/nwx/nwx/core/Slots$Order"), (0, .methodref 7 3), (0, .fieldref 11 12), (0, .class_ 13), (0, .nameAndType 14 15), (0, u "com/example/nwx/nwx/core/KeyIndex$Table"), (0, u "order"), (0, u "Lcom/example/nwx/nwx/core/Slots$Order;"), (0, .fieldref 11 17), (0, .nameAndType 18 19), (0, u "salt"), (0, u "I"), (2, u "size"), (4, u "(I)V"), (5, .class_ 34), (0, u "com/example/nwx/nwx/core/KeyIndex")] 5

def k2c0 : Code := { maxStack := 3, maxLocals := 2, code := prog_49_method_1_code, exceptionTable := #[], attributes := #[] }
def k2m0 : Method := { name := "<init>", desc := "(I)V", sig := { parameters := [.int], returnType := none }, accessFlags := 0, code := some k2c0 }
/-- com/example/nwx/nwx/core/KeyIndex$Table -/
def k2 : Class := { plain "com/example/nwx/nwx/core/KeyIndex$Table" (some 0) with
  accessFlags := 32
  interfaces := #[]
  cf := some (fileOf pool2 11 #[.nestHost 33] #[{ accessFlags := 0, nameIndex := 5, descriptorIndex := 27, attributes := #[] }] 32 2 #[] #[{ accessFlags := 18, nameIndex := 18, descriptorIndex := 19, attributes := #[] }, { accessFlags := 18, nameIndex := 14, descriptorIndex := 15, attributes := #[] }, { accessFlags := 2, nameIndex := 22, descriptorIndex := 19, attributes := #[] }])
  fields := #[{ name := "salt", type := .int, accessFlags := 18, slot := 0, constantValue := 0 }, { name := "order", type := (.object "com/example/nwx/nwx/core/Slots$Order"), accessFlags := 18, slot := 1, constantValue := 0 }, { name := "size", type := .int, accessFlags := 2, slot := 2, constantValue := 0 }]
  methods := #[k2m0]
  instanceTypes := #[.int, (.object "com/example/nwx/nwx/core/Slots$Order"), .int]
  staticTypes := #[]
  resolved := Array.replicate 40 none
  statics := none }

def pool3 : Array CpInfo := pool [(1, .class_ 2), (0, u "com/example/nwx/nwx/core/Slots"), (0, .methodref 4 5), (0, .class_ 6), (0, .nameAndType 7 8), (0, u "java/lang/Object"), (0, u "<init>"), (0, u "()V"), (0, .fieldref 10 11), (0, .class_ 12), (0, .nameAndType 13 14), (0, u "com/example/nwx/nwx/core/Slots$Order"), (0, u "oldest"), (0, u "I"), (0, .fieldref 10 16), (0, .nameAndType 17 14), (0, u "newest")] 8

def k3c0 : Code := { maxStack := 2, maxLocals := 1, code := prog_67_method_1_code, exceptionTable := #[], attributes := #[] }
def k3m0 : Method := { name := "<init>", desc := "()V", sig := { parameters := [], returnType := none }, accessFlags := 0, code := some k3c0 }
/-- com/example/nwx/nwx/core/Slots$Order -/
def k3 : Class := { plain "com/example/nwx/nwx/core/Slots$Order" (some 0) with
  accessFlags := 32
  interfaces := #[]
  cf := some (fileOf pool3 10 #[.nestHost 1] #[{ accessFlags := 0, nameIndex := 7, descriptorIndex := 8, attributes := #[] }] 32 4 #[] #[{ accessFlags := 2, nameIndex := 13, descriptorIndex := 14, attributes := #[] }, { accessFlags := 2, nameIndex := 17, descriptorIndex := 14, attributes := #[] }])
  fields := #[{ name := "oldest", type := .int, accessFlags := 2, slot := 0, constantValue := 0 }, { name := "newest", type := .int, accessFlags := 2, slot := 1, constantValue := 0 }]
  methods := #[k3m0]
  instanceTypes := #[.int, .int]
  staticTypes := #[]
  resolved := Array.replicate 26 none
  statics := none }

def pool4 : Array CpInfo := pool [(2, .class_ 4), (1, u "java/lang/Object"), (0, u "<init>"), (0, u "()V"), (4, .class_ 13), (1, u "com/example/nwx/nwx/core/Slots"), (0, u "older"), (0, u "Lcom/example/nwx/nwx/core/Columns$Ints;"), (2, u "newer"), (2, u "free"), (0, u "I"), (6, u "end"), (2, u "capacity"), (12, .class_ 47), (1, u "com/example/nwx/nwx/core/Slots$Order"), (4, u "NONE")] 17

def k4m0 : Method := { name := "<init>", desc := "()V", sig := { parameters := [], returnType := none }, accessFlags := 0, code := none }
/-- com/example/nwx/nwx/core/Slots -/
def k4 : Class := { plain "com/example/nwx/nwx/core/Slots" (some 0) with
  accessFlags := 1056
  interfaces := #[]
  cf := some (fileOf pool4 11 #[.nestMembers #[45]] #[{ accessFlags := 0, nameIndex := 5, descriptorIndex := 6, attributes := #[] }] 1056 2 #[] #[{ accessFlags := 24, nameIndex := 52, descriptorIndex := 22, attributes := #[] }, { accessFlags := 18, nameIndex := 14, descriptorIndex := 15, attributes := #[] }, { accessFlags := 18, nameIndex := 18, descriptorIndex := 15, attributes := #[] }, { accessFlags := 2, nameIndex := 21, descriptorIndex := 22, attributes := #[] }, { accessFlags := 2, nameIndex := 29, descriptorIndex := 22, attributes := #[] }, { accessFlags := 2, nameIndex := 32, descriptorIndex := 22, attributes := #[] }])
  fields := #[{ name := "NONE", type := .int, accessFlags := 24, slot := 0, constantValue := 0 }, { name := "older", type := (.object "com/example/nwx/nwx/core/Columns$Ints"), accessFlags := 18, slot := 0, constantValue := 0 }, { name := "newer", type := (.object "com/example/nwx/nwx/core/Columns$Ints"), accessFlags := 18, slot := 1, constantValue := 0 }, { name := "free", type := .int, accessFlags := 2, slot := 2, constantValue := 0 }, { name := "end", type := .int, accessFlags := 2, slot := 3, constantValue := 0 }, { name := "capacity", type := .int, accessFlags := 2, slot := 4, constantValue := 0 }]
  methods := #[k4m0]
  instanceTypes := #[(.object "com/example/nwx/nwx/core/Columns$Ints"), (.object "com/example/nwx/nwx/core/Columns$Ints"), .int, .int, .int]
  staticTypes := #[.int]
  resolved := Array.replicate 70 none
  statics := none }

def pool5 : Array CpInfo := pool [(1, .class_ 2), (0, u "com/example/nwx/nwx/core/KeyIndex"), (1, .class_ 6), (1, u "com/example/nwx/nwx/core/Slots"), (0, u "<init>"), (0, u "()V"), (4, .class_ 15), (1, u "com/example/nwx/nwx/core/KeyIndex$Keys"), (0, u "high"), (0, u "Lcom/example/nwx/nwx/core/Columns$Longs;"), (2, u "low"), (5, u "shapes"), (0, u "Lcom/example/nwx/nwx/core/Columns$Ints;"), (5, u "spills"), (0, u "Lcom/example/nwx/nwx/core/Columns$Refs;"), (2, u "hashes"), (2, u "tables"), (2, u "updated"), (2, u "places"), (2, u "index"), (0, u "[I"), (1, .nameAndType 53 54), (0, u "salt"), (0, u "I"), (1, .fieldref 57 52), (0, .class_ 58), (0, u "com/example/nwx/nwx/core/KeyIndex$Table"), (0, .integer 2246822507), (0, .integer 3266489909), (13, u "count"), (92, u "LEAST_INDEX"), (7, u "hash"), (0, u "(Lcom/example/nwx/nwx/core/KeyIndex$Table;I)I")] 34

def k5m0 : Method := { name := "<init>", desc := "()V", sig := { parameters := [], returnType := none }, accessFlags := 0, code := none }
def k5c1 : Code := { maxStack := 3, maxLocals := 3, code := prog_46_method_3_code, exceptionTable := #[], attributes := #[] }
def k5m1 : Method := { name := "hash", desc := "(Lcom/example/nwx/nwx/core/KeyIndex$Table;I)I", sig := { parameters := [(.object "com/example/nwx/nwx/core/KeyIndex$Table"), .int], returnType := some .int }, accessFlags := 8, code := some k5c1 }
/-- com/example/nwx/nwx/core/KeyIndex$Keys -/
def k5 : Class := { plain "com/example/nwx/nwx/core/KeyIndex$Keys" (some 4) with
  accessFlags := 32
  interfaces := #[]
  cf := some (fileOf pool5 13 #[.nestHost 1] #[{ accessFlags := 0, nameIndex := 7, descriptorIndex := 8, attributes := #[] }, { accessFlags := 8, nameIndex := 175, descriptorIndex := 176, attributes := #[] }] 32 4 #[] #[{ accessFlags := 26, nameIndex := 167, descriptorIndex := 54, attributes := #[] }, { accessFlags := 18, nameIndex := 16, descriptorIndex := 17, attributes := #[] }, { accessFlags := 18, nameIndex := 20, descriptorIndex := 17, attributes := #[] }, { accessFlags := 18, nameIndex := 26, descriptorIndex := 27, attributes := #[] }, { accessFlags := 18, nameIndex := 33, descriptorIndex := 34, attributes := #[] }, { accessFlags := 18, nameIndex := 37, descriptorIndex := 27, attributes := #[] }, { accessFlags := 18, nameIndex := 40, descriptorIndex := 34, attributes := #[] }, { accessFlags := 18, nameIndex := 43, descriptorIndex := 17, attributes := #[] }, { accessFlags := 18, nameIndex := 46, descriptorIndex := 27, attributes := #[] }, { accessFlags := 2, nameIndex := 49, descriptorIndex := 50, attributes := #[] }, { accessFlags := 2, nameIndex := 74, descriptorIndex := 54, attributes := #[] }, { accessFlags := 2, nameIndex := 53, descriptorIndex := 54, attributes := #[] }])
  fields := #[{ name := "LEAST_INDEX", type := .int, accessFlags := 26, slot := 0, constantValue := 0 }, { name := "high", type := (.object "com/example/nwx/nwx/core/Columns$Longs"), accessFlags := 18, slot := 5, constantValue := 0 }, { name := "low", type := (.object "com/example/nwx/nwx/core/Columns$Longs"), accessFlags := 18, slot := 6, constantValue := 0 }, { name := "shapes", type := (.object "com/example/nwx/nwx/core/Columns$Ints"), accessFlags := 18, slot := 7, constantValue := 0 }, { name := "spills", type := (.object "com/example/nwx/nwx/core/Columns$Refs"), accessFlags := 18, slot := 8, constantValue := 0 }, { name := "hashes", type := (.object "com/example/nwx/nwx/core/Columns$Ints"), accessFlags := 18, slot := 9, constantValue := 0 }, { name := "tables", type := (.object "com/example/nwx/nwx/core/Columns$Refs"), accessFlags := 18, slot := 10, constantValue := 0 }, { name := "updated", type := (.object "com/example/nwx/nwx/core/Columns$Longs"), accessFlags := 18, slot := 11, constantValue := 0 }, { name := "places", type := (.object "com/example/nwx/nwx/core/Columns$Ints"), accessFlags := 18, slot := 12, constantValue := 0 }, { name := "index", type := (.array .int), accessFlags := 2, slot := 13, constantValue := 0 }, { name := "count", type := .int, accessFlags := 2, slot := 14, constantValue := 0 }, { name := "salt", type := .int, accessFlags := 2, slot := 15, constantValue := 0 }]
  methods := #[k5m0, k5m1]
  instanceTypes := #[(.object "com/example/nwx/nwx/core/Columns$Ints"), (.object "com/example/nwx/nwx/core/Columns$Ints"), .int, .int, .int, (.object "com/example/nwx/nwx/core/Columns$Longs"), (.object "com/example/nwx/nwx/core/Columns$Longs"), (.object "com/example/nwx/nwx/core/Columns$Ints"), (.object "com/example/nwx/nwx/core/Columns$Refs"), (.object "com/example/nwx/nwx/core/Columns$Ints"), (.object "com/example/nwx/nwx/core/Columns$Refs"), (.object "com/example/nwx/nwx/core/Columns$Longs"), (.object "com/example/nwx/nwx/core/Columns$Ints"), (.array .int), .int, .int]
  staticTypes := #[.int]
  resolved := Array.replicate 211 none
  statics := none }

def pool6 : Array CpInfo := pool [(1, u "java/lang/Cloneable"), (0, .class_ 1), (0, u "java/lang/Object"), (0, .class_ 3)] 3

/-- java/lang/Cloneable -/
def k6 : Class := { plain "java/lang/Cloneable" (some 0) with
  accessFlags := 1537
  interfaces := #[]
  cf := some (fileOf pool6 2 #[] #[] 1537 4 #[] #[])
  fields := #[]
  methods := #[]
  instanceTypes := #[]
  staticTypes := #[]
  resolved := Array.replicate 8 none
  statics := none }

def pool7 : Array CpInfo := pool [(1, u "java/io/Serializable"), (0, .class_ 1), (0, u "java/lang/Object"), (0, .class_ 3)] 3

/-- java/io/Serializable -/
def k7 : Class := { plain "java/io/Serializable" (some 0) with
  accessFlags := 1537
  interfaces := #[]
  cf := some (fileOf pool7 2 #[] #[] 1537 4 #[] #[])
  fields := #[]
  methods := #[]
  instanceTypes := #[]
  staticTypes := #[]
  resolved := Array.replicate 8 none
  statics := none }

/-- the primitive byte -/
def k8 : Class := { plain "byte" none with kind := .primitive 'B', accessFlags := 0x411 }
/-- [B -/
def k9 : Class := { plain "[B" (some 0) with kind := .array 8 .byte, interfaces := #[6, 7], accessFlags := 1041 }

/-- the primitive int -/
def k10 : Class := { plain "int" none with kind := .primitive 'I', accessFlags := 0x411 }
/-- [I -/
def k11 : Class := { plain "[I" (some 0) with kind := .array 10 .int, interfaces := #[6, 7], accessFlags := 1041 }

def pool12 : Array CpInfo := pool [(1, u "com/example/nwx/nwx/core/KeyIndex"), (0, .class_ 1), (0, u "java/lang/Object"), (0, .class_ 3), (0, u "com/example/nwx/nwx/core/KeyIndex$Table"), (0, .class_ 5), (0, u "com/example/nwx/nwx/core/KeyIndex$Keys"), (0, .class_ 7)] 3
/-- the nest's host -/
def k12 : Class := { plain "com/example/nwx/nwx/core/KeyIndex" (some 0) with
  accessFlags := 33
  cf := some (fileOf pool12 2 #[.nestMembers #[6, 8]] #[] 33 4 #[] #[])
  resolved := Array.replicate 12 none }

def heap : Heap := #[]
def classes : Array Class := #[k0, k1, k2, k3, k4, k5, k6, k7, k8, k9, k10, k11, k12]
def interned : List (Array UInt16 × Addr) := []
def slotsUsed : Nat := 0
def theMethod : MethodId := ⟨1, 1⟩
def args0 : Array Value := #[.int 5, .int 5]
def aboutOver (below : List Frame) : State where
  vm := { classes := classes, interned := interned.toArray }
  heap := heap
  slotsUsed := slotsUsed
  threads := #[{ frames := .invoking theMethod args0 :: below }]
def below0 : List Frame := [.native { method := ⟨0, 0⟩, args := #[] }]
def about1 : State := aboutOver below0
def p0 : Program := .bare "" "" ""
def e0 : Env := launch0.env 0 0 0
theorem w_frames : about1.frames = Frame.invoking theMethod args0 :: below0 := rfl
set_option maxRecDepth 65536 in
theorem w_args : argsFit about1.vm theMethod args0 = true := by decide +kernel
set_option maxRecDepth 65536 in
theorem w_heap : heapFits about1 = true := by decide +kernel
set_option maxRecDepth 65536 in
theorem w_runnable : about1.curStatus? = some .runnable := by decide +kernel
set_option maxRecDepth 65536 in
theorem w_alone : about1.alone = true := by decide +kernel
set_option maxRecDepth 65536 in
theorem w_named : about1.methodNamed? x = some theMethod := by decide +kernel
set_option maxRecDepth 65536 in
theorem w_hears : about1.hears theMethod below0 = true := by decide +kernel
set_option maxRecDepth 65536 in
theorem w_ripe : about1.ripe theMethod args0 below0 = true := by decide +kernel
theorem w_running : about1.status = .running := rfl
set_option maxRecDepth 65536 in
theorem w_room : about1.hasRoom e0.platform room_1 = true :=
  launch0.hasRoom_least _ room_1 (by decide +kernel) (by decide +kernel) (by decide +kernel) (by decide +kernel) (by decide +kernel) (by decide +kernel)
theorem allAtoms_all (ts : List Jvm.Cond) (a : Array Jvm.Value) (st : Jvm.State) : (allAtoms ts).before a st = ts.all (fun c => c.before a st) := by
  induction ts with
  | nil => rfl
  | cons c t ih =>
    show (Jvm.Cond.and c (allAtoms t)).before a st = _
    rw [Jvm.Cond.before_and, ih, List.all_cons]
def words1 : List Jvm.Cond := Jvm.Cond.code x code maxLocals ret :: tables_1
/-- a 'code' word, met by the world's own term for the bytes: nothing is compared byte by byte -/
theorem code_word {y : MethodName} {bytes : ByteArray} {mx : Nat} {rt : Option FieldType} {a : Array Value} {s : State} {m : MethodId} {meth : Method} {c : Code} (h1 : s.methodNamed? y = some m) (h2 : s.vm.method? m = some meth) (h3 : meth.code = some c) (h4 : c.code = bytes)
    (h5 : (c.maxLocals == mx && c.exceptionTable.isEmpty && decide (c.maxStack ≤ mostOperands) && decide (meth.sig.returnType = rt) && !meth.locks && decide (parseMethodDescriptor y.desc = some meth.sig)) = true) : (Jvm.Cond.code y bytes mx rt).before a s = true := by
  simp only [Bool.and_eq_true, beq_iff_eq, Bool.not_eq_true', decide_eq_true_eq] at h5
  obtain ⟨⟨⟨⟨⟨g1, g2⟩, g3⟩, g4⟩, g5⟩, g6⟩ := h5
  simp [Cond.before, Cond.holds, Cond.value, h1, h2, h3, h4, g1, g2, g3, g4, g5, g6]
def isCode : Jvm.Cond → Bool
  | .code _ _ _ _ => true
  | _ => false
theorem all_split {L : List Jvm.Cond} {P : Jvm.Cond → Bool} (h1 : L.all (fun c => isCode c || P c) = true) (h2 : ∀ c ∈ L.filter isCode, P c = true) : L.all P = true := by
  refine List.all_eq_true.mpr fun c hc => ?_
  have h := List.all_eq_true.mp h1 c hc
  rcases Bool.eq_false_or_eq_true (isCode c) with hi | hi
  · exact h2 c (List.mem_filter.mpr ⟨hc, hi⟩)
  · simpa [hi] using h
set_option maxRecDepth 65536 in
theorem w_c0 : (Jvm.Cond.code x code maxLocals ret).before args0 about1 = true := code_word (m := ⟨1, 1⟩) (meth := k1m1) (c := k1c1) (by decide +kernel) rfl rfl rfl (by decide +kernel)
set_option maxRecDepth 65536 in
theorem w_c1 : (Jvm.Cond.code ({ cls := "com/example/nwx/nwx/core/KeyIndex$Table", name := "<init>", desc := "(I)V" } : Jvm.MethodName) prog_49_method_1_code (2 : Nat) (Option.none : Option Jvm.ClassFile.FieldType)).before args0 about1 = true := code_word (m := ⟨2, 0⟩) (meth := k2m0) (c := k2c0) (by decide +kernel) rfl rfl rfl (by decide +kernel)
set_option maxRecDepth 65536 in
theorem w_c2 : (Jvm.Cond.code ({ cls := "java/lang/Object", name := "<init>", desc := "()V" } : Jvm.MethodName) object_method_1_code (1 : Nat) (Option.none : Option Jvm.ClassFile.FieldType)).before args0 about1 = true := code_word (m := ⟨0, 0⟩) (meth := k0m0) (c := k0c0) (by decide +kernel) rfl rfl rfl (by decide +kernel)
set_option maxRecDepth 65536 in
theorem w_c3 : (Jvm.Cond.code ({ cls := "com/example/nwx/nwx/core/Slots$Order", name := "<init>", desc := "()V" } : Jvm.MethodName) prog_67_method_1_code (1 : Nat) (Option.none : Option Jvm.ClassFile.FieldType)).before args0 about1 = true := code_word (m := ⟨3, 0⟩) (meth := k3m0) (c := k3c0) (by decide +kernel) rfl rfl rfl (by decide +kernel)
set_option maxRecDepth 65536 in
theorem w_c4 : (Jvm.Cond.code ({ cls := "com/example/nwx/nwx/core/KeyIndex$Keys", name := "hash", desc := "(Lcom/example/nwx/nwx/core/KeyIndex$Table;I)I" } : Jvm.MethodName) prog_46_method_3_code (3 : Nat) (Option.some Jvm.ClassFile.FieldType.int)).before args0 about1 = true := code_word (m := ⟨5, 1⟩) (meth := k5m1) (c := k5c1) (by decide +kernel) rfl rfl rfl (by decide +kernel)
set_option maxRecDepth 65536 in
theorem w_c5 : (Jvm.Cond.code ({ cls := "com/example/nwx/nwx/core/KeysHashPinLaw", name := "unmix", desc := "(I)I" } : Jvm.MethodName) method_3_code (2 : Nat) (Option.some Jvm.ClassFile.FieldType.int)).before args0 about1 = true := code_word (m := ⟨1, 2⟩) (meth := k1m2) (c := k1c2) (by decide +kernel) rfl rfl rfl (by decide +kernel)
def codes1 : List Jvm.Cond := [Jvm.Cond.code x code maxLocals ret, Jvm.Cond.code ({ cls := "com/example/nwx/nwx/core/KeyIndex$Table", name := "<init>", desc := "(I)V" } : Jvm.MethodName) prog_49_method_1_code (2 : Nat) (Option.none : Option Jvm.ClassFile.FieldType), Jvm.Cond.code ({ cls := "java/lang/Object", name := "<init>", desc := "()V" } : Jvm.MethodName) object_method_1_code (1 : Nat) (Option.none : Option Jvm.ClassFile.FieldType), Jvm.Cond.code ({ cls := "com/example/nwx/nwx/core/Slots$Order", name := "<init>", desc := "()V" } : Jvm.MethodName) prog_67_method_1_code (1 : Nat) (Option.none : Option Jvm.ClassFile.FieldType), Jvm.Cond.code ({ cls := "com/example/nwx/nwx/core/KeyIndex$Keys", name := "hash", desc := "(Lcom/example/nwx/nwx/core/KeyIndex$Table;I)I" } : Jvm.MethodName) prog_46_method_3_code (3 : Nat) (Option.some Jvm.ClassFile.FieldType.int), Jvm.Cond.code ({ cls := "com/example/nwx/nwx/core/KeysHashPinLaw", name := "unmix", desc := "(I)I" } : Jvm.MethodName) method_3_code (2 : Nat) (Option.some Jvm.ClassFile.FieldType.int)]
set_option maxRecDepth 65536 in
theorem codes_eq : words1.filter isCode = codes1 := rfl
theorem w_codes : ∀ c ∈ words1.filter isCode, c.before args0 about1 = true := by
  rw [codes_eq]
  intro c hc
  simp only [codes1, List.mem_cons, List.not_mem_nil, or_false] at hc
  rcases hc with rfl | rfl | rfl | rfl | rfl | rfl
  · exact w_c0
  · exact w_c1
  · exact w_c2
  · exact w_c3
  · exact w_c4
  · exact w_c5
set_option maxRecDepth 65536 in
theorem w_t1 : (words1.take 24).all (fun c => isCode c || c.before args0 about1) = true := by decide +kernel
set_option maxRecDepth 65536 in
theorem w_t2 : (words1.drop 24).all (fun c => isCode c || c.before args0 about1) = true := by decide +kernel
theorem w_tables : (allAtoms (Jvm.Cond.code x code maxLocals ret :: tables_1)).before args0 about1 = true := by
  rw [allAtoms_all]
  show words1.all (fun c => c.before args0 about1) = true
  refine all_split ?_ w_codes
  rw [← List.take_append_drop 24 words1, List.all_append, w_t1, w_t2]
  rfl
set_option maxRecDepth 65536 in
theorem w_case : (Jvm.Cond.and given_1 narrow_1).before args0 about1 = true := by decide +kernel
theorem w_applies : (headSpec (Jvm.Cond.code x code maxLocals ret :: tables_1) room_1).applies x e0.platform about1 = true :=
  (Spec.applies_iff w_frames).mpr ⟨w_running, w_runnable, w_alone, w_named, w_hears, w_ripe, w_room, w_tables⟩
theorem atStart : AtStart classFile x code maxLocals ret World_1 tables_1 room_1 Calls_1 rest_1 Pre_1 launch0 p0 e0 about1 theMethod args0 below0 :=
  ⟨lists_1, trivial, launch0.admits_env _ _ _, launch0.least_env, fairChoices_fair.cas, fairChoices_fair.clock, w_frames, w_args, w_heap, w_applies, trivial, trivial, w_case⟩
end start1
theorem witness_1 : WitnessClaimed_1 := ⟨start1.p0, start1.e0, start1.about1, start1.theMethod, start1.args0, start1.below0, start1.atStart⟩
end Jvm.Pilot.@@N@@
