import JvmDerived
import JvmDerived.Pilot.@@N@@Statement
import JvmDerived.Pilot.@@N@@Code
set_option linter.unusedVariables false
set_option linter.unusedSimpArgs false
namespace Jvm.Pilot.@@N@@
open Jvm Jvm.ClassFile Sem Op Lib Jvm.Free Jvm.Stand Jvm.LawKit Jvm.RoadKit Bundle Jvm.Pilot.@@N@@.Jvm.D
-- BY HAND: shifts as BitVec's
theorem own_lshl (x : Int64) (q : Int32) (k : Nat) (hk : q.toBitVec.toNat % 64 = k) : (x <<< (q &&& 0x3f).toInt64).toBitVec = x.toBitVec <<< k := by
  show x.toBitVec <<< ((q &&& 0x3f).toInt64.toBitVec.smod 64) = _
  rw [BitVec.shiftLeft_eq', (sm64 q k hk).1, smod64 k (sm64 q k hk).2]
theorem own_lushr (x : Int64) (q : Int32) (k : Nat) (hk : q.toBitVec.toNat % 64 = k) : ((x.toUInt64 >>> (q &&& 0x3f).toInt64.toUInt64).toInt64).toBitVec = x.toBitVec >>> k := by
  have h5 := (sm64 q k hk).2
  show x.toBitVec >>> ((q &&& 0x3f).toInt64.toBitVec % 64) = _
  rw [BitVec.ushiftRight_eq', BitVec.toNat_umod, (sm64 q k hk).1, BitVec.toNat_ofNat]
  congr 1
  show k % 2 ^ 64 % 64 = k
  omega
theorem own_iushr (x q : Int32) (k : Nat) (hk : q.toBitVec.toNat % 32 = k) : ((x.toUInt32 >>> (q &&& 31).toUInt32).toInt32).toBitVec = x.toBitVec >>> k := by
  have h1 : (q &&& 31).toBitVec.toNat = k := by
    show (q.toBitVec &&& (31 : Int32).toBitVec).toNat = _
    rw [BitVec.toNat_and, show (31 : Int32).toBitVec.toNat = 2 ^ 5 - 1 from by decide, Nat.and_two_pow_sub_one_eq_mod]; exact hk
  show x.toBitVec >>> ((q &&& 31).toBitVec % 32) = _
  rw [BitVec.ushiftRight_eq', BitVec.toNat_umod, h1]
  congr 1
  exact Nat.mod_eq_of_lt (by show k < 32; omega)
theorem ef_1 (m : MethodId) (x0 : Int64) (x1 : Int32) : entryFrame m #[(.long x0), (.int x1)] 3 = mkF m 0 #[.val (.long x0), .second, .val (.int x1)] [] := by first | (simp [entryFrame, mkF, argsToLocals, Value.category]; done) | rfl
theorem pn_0 : plainName "com/example/troth/troth/EightBytes" = true := by first | (simp [plainName, overriddenIn]; done) | decide +kernel
theorem d1_0 : decode prog_25_method_4_code 0 = .ok (.iload_n 2, 1) := by decide +kernel
theorem d1_1 : decode prog_25_method_4_code 1 = .ok (.bipush 8, 2) := by decide +kernel
theorem d1_3 : decode prog_25_method_4_code 3 = .ok (.if_icmp .ne 7, 3) := by decide +kernel
theorem d1_6 : decode prog_25_method_4_code 6 = .ok (.lload_n 0, 1) := by decide +kernel
theorem d1_7 : decode prog_25_method_4_code 7 = .ok (.goto 13, 3) := by decide +kernel
theorem d1_20 : decode prog_25_method_4_code 20 = .ok (.lreturn, 1) := by decide +kernel
theorem d1_10 : decode prog_25_method_4_code 10 = .ok (.lload_n 0, 1) := by decide +kernel
theorem d1_11 : decode prog_25_method_4_code 11 = .ok (.lconst 1, 1) := by decide +kernel
theorem d1_12 : decode prog_25_method_4_code 12 = .ok (.bipush 8, 2) := by decide +kernel
theorem d1_14 : decode prog_25_method_4_code 14 = .ok (.iload_n 2, 1) := by decide +kernel
theorem d1_15 : decode prog_25_method_4_code 15 = .ok (.imul, 1) := by decide +kernel
theorem d1_16 : decode prog_25_method_4_code 16 = .ok (.lshl, 1) := by decide +kernel
theorem d1_17 : decode prog_25_method_4_code 17 = .ok (.lconst 1, 1) := by decide +kernel
theorem d1_18 : decode prog_25_method_4_code 18 = .ok (.lsub, 1) := by decide +kernel
theorem d1_19 : decode prog_25_method_4_code 19 = .ok (.land, 1) := by decide +kernel
def f1 (q0 : Int64) (p1 : Int32) : Int64 := if p1 = (8 : Int32) then q0
  else (q0 &&& (((1 : Int64) <<< (((8 : Int32) * p1) &&& 0x3f).toInt64) - (1 : Int64)))
def Q1 (Z : State) (q0 : Int64) (p1 : Int32)  (h0 : Heap) (v : Option Value) (h : Heap) (L : List Loc) : Prop := v = some (.long (f1 q0 p1)) ∧ L = [] ∧ h = h0
set_option maxRecDepth 65536 in
set_option maxHeartbeats 40000000 in
theorem rm1 (l : Launch) (Z : State) (a0 : Array Value) (hw : ∀ d ∈ tables_1, d.before a0 Z = true) (ws : List Jvm.Cond) (q0 : Int64) (p1 : Int32)  (h0 : Heap)  :
    MetFree l (⟨"com/example/troth/troth/EightBytes", "firstBytes", "(JI)J"⟩ : MethodName) (head1 (Jvm.Cond.code (⟨"com/example/troth/troth/EightBytes", "firstBytes", "(JI)J"⟩ : MethodName) prog_25_method_4_code 3 (some .long) :: ws) ({ frames := 0, cells := 0, slots := 0, locals := 0 } : Room)) (fun a U => a = #[(.long q0), (.int p1)] ∧ Z.Warmed39 U.vm ∧ U.heap = h0) (fun _ _ _ _ _ => True) (fun _ U o U' => ∃ v L, o = .returned v ∧ Q1 Z q0 p1  h0 v U'.heap L ∧ FrameEnd U o U' L ({ frames := 0, cells := 0, slots := 0, locals := 0 } : Room).cells ({ frames := 0, cells := 0, slots := 0, locals := 0 } : Room).slots) := by
  refine MetFree.of_bodySF (plainFor_of_name pn_0) hisR ?_
  intro p e s m args below meth c s₁ Bd hml0 hP hK
  obtain ⟨rfl, hZ, hh⟩ := hP
  have hx := Bd.exec
  have hby := Bd.bytes
  have hml : c.maxLocals = 3 := hml0
  have hown : s.vm.findClass "com/example/troth/troth/EightBytes" = some m.cls := findClass_of_methodNamed Bd.named
  have hnm := (name_of_methodNamed Bd.named Bd.method).1
  have X0 : Stand p l e ({ frames := 0, cells := 0, slots := 0, locals := 0 } : Room) s m #[(.long q0), (.int p1)] below meth c s₁ [] 0 0 := Stand.of_body Bd
  have e0 : s₁.heap = h0 := by rw [← hh, Bd.state]; rfl
  have pre0 : ∀ t, Steps p.tables e below (s₁.setTop (mkF m 0 #[.val (.long q0), .second, .val (.int p1)] [])) t → Steps p.tables e below (s₁.setTop (entryFrame m #[(.long q0), (.int p1)] 3)) t := fun t k => castTop (ef_1 m q0 p1) k
  have K1 : ∀ t, Steps p.tables e below (s₁.setTop (mkF m 3 #[.val (.long q0), .second, .val (.int p1)] [(.int (8 : Int32)), (.int p1)])) t → Steps p.tables e below (s₁.setTop (mkF m 0 #[.val (.long q0), .second, .val (.int p1)] [])) t := by
    intro t kt
    show Steps p.tables e below (s₁.setTop (mkF m 0 #[.val (.long q0), .second, .val (.int p1)] [])) _
    refine XS.iloadN X0.here hx rfl (hb hby d1_0) rfl ?_
    show Steps p.tables e below (s₁.setTop (mkF m 1 #[.val (.long q0), .second, .val (.int p1)] [(.int p1)])) _
    refine XS.bipush X0.here hx rfl (hb hby d1_1) ?_
    exact kt
  by_cases hc2 : p1 = (8 : Int32)
  · skip
    have K3 : ∀ t, Steps p.tables e below (s₁.setTop (mkF m 20 #[.val (.long q0), .second, .val (.int p1)] [(.long q0)])) t → Steps p.tables e below (s₁.setTop (mkF m 0 #[.val (.long q0), .second, .val (.int p1)] [])) t := by
      intro t kt
      refine K1 _ ?_
      show Steps p.tables e below (s₁.setTop (mkF m 3 #[.val (.long q0), .second, .val (.int p1)] [(.int (8 : Int32)), (.int p1)])) _
      refine XS.icmpNo X0.here hx rfl (hb hby d1_3) rfl (teq hc2).2 ?_
      show Steps p.tables e below (s₁.setTop (mkF m 6 #[.val (.long q0), .second, .val (.int p1)] [])) _
      refine XS.lloadN X0.here hx rfl (hb hby d1_6) rfl ?_
      show Steps p.tables e below (s₁.setTop (mkF m 7 #[.val (.long q0), .second, .val (.int p1)] [(.long q0)])) _
      refine XS.goto X0.here hx rfl (pc0 := 7) (pc' := 20) rfl (hb hby d1_7) (by decide) (by decide) ?_
      exact kt
    have hv : f1 q0 p1 = q0 := by simp only [f1, if_pos hc2]
    obtain ⟨fs, hr, hrun, hended, hW, hsame⟩ := X0.leave (v := some (.long q0)) (fun h => by rw [Bd.returns] at h; cases h)
    refine ⟨_, _, pre0 _ (K3 _ ?_), hrun, hended, _, _, rfl, ?_, ⟨_, rfl⟩, hW, hsame.mono (by decide) (by decide)⟩
    · show Steps p.tables e below (s₁.setTop (mkF m 20 #[.val (.long q0), .second, .val (.int p1)] [(.long q0)])) _
      exact retOut X0 hx Bd.returns rfl (Or.inr (Or.inl ⟨rfl, rfl, _, rfl⟩)) (hb hby d1_20) hr
    · show Q1 Z q0 p1  h0 _ s₁.heap _
      rw [e0]
      exact ⟨by rw [hv], rfl, rfl⟩
  · skip
    have K4 : ∀ t, Steps p.tables e below (s₁.setTop (mkF m 20 #[.val (.long q0), .second, .val (.int p1)] [(.long (q0 &&& (((1 : Int64) <<< (((8 : Int32) * p1) &&& 0x3f).toInt64) - (1 : Int64))))])) t → Steps p.tables e below (s₁.setTop (mkF m 0 #[.val (.long q0), .second, .val (.int p1)] [])) t := by
      intro t kt
      refine K1 _ ?_
      show Steps p.tables e below (s₁.setTop (mkF m 3 #[.val (.long q0), .second, .val (.int p1)] [(.int (8 : Int32)), (.int p1)])) _
      refine XS.icmpYes X0.here hx rfl (pc0 := 3) (pc' := 10) rfl (hb hby d1_3) rfl (feq hc2).2 (by decide) (by decide) ?_
      show Steps p.tables e below (s₁.setTop (mkF m 10 #[.val (.long q0), .second, .val (.int p1)] [])) _
      refine XS.lloadN X0.here hx rfl (hb hby d1_10) rfl ?_
      show Steps p.tables e below (s₁.setTop (mkF m 11 #[.val (.long q0), .second, .val (.int p1)] [(.long q0)])) _
      refine XS.lconst X0.here hx rfl (hb hby d1_11) ?_
      show Steps p.tables e below (s₁.setTop (mkF m 12 #[.val (.long q0), .second, .val (.int p1)] [(.long (1 : Int64)), (.long q0)])) _
      refine XS.bipush X0.here hx rfl (hb hby d1_12) ?_
      show Steps p.tables e below (s₁.setTop (mkF m 14 #[.val (.long q0), .second, .val (.int p1)] [(.int (8 : Int32)), (.long (1 : Int64)), (.long q0)])) _
      refine XS.iloadN X0.here hx rfl (hb hby d1_14) rfl ?_
      show Steps p.tables e below (s₁.setTop (mkF m 15 #[.val (.long q0), .second, .val (.int p1)] [(.int p1), (.int (8 : Int32)), (.long (1 : Int64)), (.long q0)])) _
      refine XS.imul X0.here hx rfl (hb hby d1_15) rfl ?_
      show Steps p.tables e below (s₁.setTop (mkF m 16 #[.val (.long q0), .second, .val (.int p1)] [(.int ((8 : Int32) * p1)), (.long (1 : Int64)), (.long q0)])) _
      refine XS.lshl X0.here hx rfl (hb hby d1_16) rfl ?_
      show Steps p.tables e below (s₁.setTop (mkF m 17 #[.val (.long q0), .second, .val (.int p1)] [(.long ((1 : Int64) <<< (((8 : Int32) * p1) &&& 0x3f).toInt64)), (.long q0)])) _
      refine XS.lconst X0.here hx rfl (hb hby d1_17) ?_
      show Steps p.tables e below (s₁.setTop (mkF m 18 #[.val (.long q0), .second, .val (.int p1)] [(.long (1 : Int64)), (.long ((1 : Int64) <<< (((8 : Int32) * p1) &&& 0x3f).toInt64)), (.long q0)])) _
      refine XS.lsub X0.here hx rfl (hb hby d1_18) rfl ?_
      show Steps p.tables e below (s₁.setTop (mkF m 19 #[.val (.long q0), .second, .val (.int p1)] [(.long (((1 : Int64) <<< (((8 : Int32) * p1) &&& 0x3f).toInt64) - (1 : Int64))), (.long q0)])) _
      refine XS.land X0.here hx rfl (hb hby d1_19) rfl ?_
      exact kt
    have hv : f1 q0 p1 = (q0 &&& (((1 : Int64) <<< (((8 : Int32) * p1) &&& 0x3f).toInt64) - (1 : Int64))) := by simp only [f1, if_neg hc2]
    obtain ⟨fs, hr, hrun, hended, hW, hsame⟩ := X0.leave (v := some (.long (q0 &&& (((1 : Int64) <<< (((8 : Int32) * p1) &&& 0x3f).toInt64) - (1 : Int64))))) (fun h => by rw [Bd.returns] at h; cases h)
    refine ⟨_, _, pre0 _ (K4 _ ?_), hrun, hended, _, _, rfl, ?_, ⟨_, rfl⟩, hW, hsame.mono (by decide) (by decide)⟩
    · show Steps p.tables e below (s₁.setTop (mkF m 20 #[.val (.long q0), .second, .val (.int p1)] [(.long (q0 &&& (((1 : Int64) <<< (((8 : Int32) * p1) &&& 0x3f).toInt64) - (1 : Int64))))])) _
      exact retOut X0 hx Bd.returns rfl (Or.inr (Or.inl ⟨rfl, rfl, _, rfl⟩)) (hb hby d1_20) hr
    · show Q1 Z q0 p1  h0 _ s₁.heap _
      rw [e0]
      exact ⟨by rw [hv], rfl, rfl⟩
theorem ef_2 (m : MethodId) (x0 : Int64) (x1 : Int32) : entryFrame m #[(.long x0), (.int x1)] 4 = mkF m 0 #[.val (.long x0), .second, .val (.int x1), .unset] [] := by first | (simp [entryFrame, mkF, argsToLocals, Value.category]; done) | rfl
theorem pn_1 : plainName "com/example/troth/troth/EightBytesFirstBytesPinLaw" = true := by first | (simp [plainName, overriddenIn]; done) | decide +kernel
theorem d2_0 : decode method_2_code 0 = .ok (.iload_n 2, 1) := by decide +kernel
theorem d2_1 : decode method_2_code 1 = .ok (.ifCond .ne 5, 3) := by decide +kernel
theorem d2_4 : decode method_2_code 4 = .ok (.lconst 0, 1) := by decide +kernel
theorem d2_5 : decode method_2_code 5 = .ok (.lreturn, 1) := by decide +kernel
theorem d2_6 : decode method_2_code 6 = .ok (.bipush 64, 2) := by decide +kernel
theorem d2_8 : decode method_2_code 8 = .ok (.bipush 8, 2) := by decide +kernel
theorem d2_10 : decode method_2_code 10 = .ok (.iload_n 2, 1) := by decide +kernel
theorem d2_11 : decode method_2_code 11 = .ok (.imul, 1) := by decide +kernel
theorem d2_12 : decode method_2_code 12 = .ok (.isub, 1) := by decide +kernel
theorem d2_13 : decode method_2_code 13 = .ok (.istore_n 3, 1) := by decide +kernel
theorem d2_14 : decode method_2_code 14 = .ok (.lload_n 0, 1) := by decide +kernel
theorem d2_15 : decode method_2_code 15 = .ok (.iload_n 3, 1) := by decide +kernel
theorem d2_16 : decode method_2_code 16 = .ok (.lshl, 1) := by decide +kernel
theorem d2_17 : decode method_2_code 17 = .ok (.iload_n 3, 1) := by decide +kernel
theorem d2_18 : decode method_2_code 18 = .ok (.lushr, 1) := by decide +kernel
theorem d2_19 : decode method_2_code 19 = .ok (.lreturn, 1) := by decide +kernel
def f2 (q0 : Int64) (p1 : Int32) : Int64 := if p1 = (0 : Int32) then (0 : Int64)
  else (((q0 <<< (((64 : Int32) - ((8 : Int32) * p1)) &&& 0x3f).toInt64).toUInt64 >>> (((64 : Int32) - ((8 : Int32) * p1)) &&& 0x3f).toInt64.toUInt64).toInt64)
def Q2 (Z : State) (q0 : Int64) (p1 : Int32)  (h0 : Heap) (v : Option Value) (h : Heap) (L : List Loc) : Prop := v = some (.long (f2 q0 p1)) ∧ L = [] ∧ h = h0
set_option maxRecDepth 65536 in
set_option maxHeartbeats 40000000 in
theorem rm2 (l : Launch) (Z : State) (a0 : Array Value) (hw : ∀ d ∈ tables_1, d.before a0 Z = true) (ws : List Jvm.Cond) (q0 : Int64) (p1 : Int32)  (h0 : Heap)  :
    MetFree l (⟨"com/example/troth/troth/EightBytesFirstBytesPinLaw", "reference", "(JI)J"⟩ : MethodName) (head1 (Jvm.Cond.code (⟨"com/example/troth/troth/EightBytesFirstBytesPinLaw", "reference", "(JI)J"⟩ : MethodName) method_2_code 4 (some .long) :: ws) ({ frames := 0, cells := 0, slots := 0, locals := 0 } : Room)) (fun a U => a = #[(.long q0), (.int p1)] ∧ Z.Warmed39 U.vm ∧ U.heap = h0) (fun _ _ _ _ _ => True) (fun _ U o U' => ∃ v L, o = .returned v ∧ Q2 Z q0 p1  h0 v U'.heap L ∧ FrameEnd U o U' L ({ frames := 0, cells := 0, slots := 0, locals := 0 } : Room).cells ({ frames := 0, cells := 0, slots := 0, locals := 0 } : Room).slots) := by
  refine MetFree.of_bodySF (plainFor_of_name pn_1) hisR ?_
  intro p e s m args below meth c s₁ Bd hml0 hP hK
  obtain ⟨rfl, hZ, hh⟩ := hP
  have hx := Bd.exec
  have hby := Bd.bytes
  have hml : c.maxLocals = 4 := hml0
  have hown : s.vm.findClass "com/example/troth/troth/EightBytesFirstBytesPinLaw" = some m.cls := findClass_of_methodNamed Bd.named
  have hnm := (name_of_methodNamed Bd.named Bd.method).1
  have X0 : Stand p l e ({ frames := 0, cells := 0, slots := 0, locals := 0 } : Room) s m #[(.long q0), (.int p1)] below meth c s₁ [] 0 0 := Stand.of_body Bd
  have e0 : s₁.heap = h0 := by rw [← hh, Bd.state]; rfl
  have pre0 : ∀ t, Steps p.tables e below (s₁.setTop (mkF m 0 #[.val (.long q0), .second, .val (.int p1), .unset] [])) t → Steps p.tables e below (s₁.setTop (entryFrame m #[(.long q0), (.int p1)] 4)) t := fun t k => castTop (ef_2 m q0 p1) k
  have K1 : ∀ t, Steps p.tables e below (s₁.setTop (mkF m 1 #[.val (.long q0), .second, .val (.int p1), .unset] [(.int p1)])) t → Steps p.tables e below (s₁.setTop (mkF m 0 #[.val (.long q0), .second, .val (.int p1), .unset] [])) t := by
    intro t kt
    show Steps p.tables e below (s₁.setTop (mkF m 0 #[.val (.long q0), .second, .val (.int p1), .unset] [])) _
    refine XS.iloadN X0.here hx rfl (hb hby d2_0) rfl ?_
    exact kt
  by_cases hc2 : p1 = (0 : Int32)
  · skip
    have K3 : ∀ t, Steps p.tables e below (s₁.setTop (mkF m 5 #[.val (.long q0), .second, .val (.int p1), .unset] [(.long (0 : Int64))])) t → Steps p.tables e below (s₁.setTop (mkF m 0 #[.val (.long q0), .second, .val (.int p1), .unset] [])) t := by
      intro t kt
      refine K1 _ ?_
      show Steps p.tables e below (s₁.setTop (mkF m 1 #[.val (.long q0), .second, .val (.int p1), .unset] [(.int p1)])) _
      refine XS.ifNo X0.here hx rfl (hb hby d2_1) rfl ((if0 _ _).trans (teq hc2).2) ?_
      show Steps p.tables e below (s₁.setTop (mkF m 4 #[.val (.long q0), .second, .val (.int p1), .unset] [])) _
      refine XS.lconst X0.here hx rfl (hb hby d2_4) ?_
      exact kt
    have hv : f2 q0 p1 = (0 : Int64) := by simp only [f2, if_pos hc2]
    obtain ⟨fs, hr, hrun, hended, hW, hsame⟩ := X0.leave (v := some (.long (0 : Int64))) (fun h => by rw [Bd.returns] at h; cases h)
    refine ⟨_, _, pre0 _ (K3 _ ?_), hrun, hended, _, _, rfl, ?_, ⟨_, rfl⟩, hW, hsame.mono (by decide) (by decide)⟩
    · show Steps p.tables e below (s₁.setTop (mkF m 5 #[.val (.long q0), .second, .val (.int p1), .unset] [(.long (0 : Int64))])) _
      exact retOut X0 hx Bd.returns rfl (Or.inr (Or.inl ⟨rfl, rfl, _, rfl⟩)) (hb hby d2_5) hr
    · show Q2 Z q0 p1  h0 _ s₁.heap _
      rw [e0]
      exact ⟨by rw [hv], rfl, rfl⟩
  · skip
    have K4 : ∀ t, Steps p.tables e below (s₁.setTop (mkF m 19 #[.val (.long q0), .second, .val (.int p1), .val (.int ((64 : Int32) - ((8 : Int32) * p1)))] [(.long (((q0 <<< (((64 : Int32) - ((8 : Int32) * p1)) &&& 0x3f).toInt64).toUInt64 >>> (((64 : Int32) - ((8 : Int32) * p1)) &&& 0x3f).toInt64.toUInt64).toInt64))])) t → Steps p.tables e below (s₁.setTop (mkF m 0 #[.val (.long q0), .second, .val (.int p1), .unset] [])) t := by
      intro t kt
      refine K1 _ ?_
      show Steps p.tables e below (s₁.setTop (mkF m 1 #[.val (.long q0), .second, .val (.int p1), .unset] [(.int p1)])) _
      refine XS.ifYes X0.here hx rfl (pc0 := 1) (pc' := 6) rfl (hb hby d2_1) rfl ((if0 _ _).trans (feq hc2).2) (by decide) (by decide) ?_
      show Steps p.tables e below (s₁.setTop (mkF m 6 #[.val (.long q0), .second, .val (.int p1), .unset] [])) _
      refine XS.bipush X0.here hx rfl (hb hby d2_6) ?_
      show Steps p.tables e below (s₁.setTop (mkF m 8 #[.val (.long q0), .second, .val (.int p1), .unset] [(.int (64 : Int32))])) _
      refine XS.bipush X0.here hx rfl (hb hby d2_8) ?_
      show Steps p.tables e below (s₁.setTop (mkF m 10 #[.val (.long q0), .second, .val (.int p1), .unset] [(.int (8 : Int32)), (.int (64 : Int32))])) _
      refine XS.iloadN X0.here hx rfl (hb hby d2_10) rfl ?_
      show Steps p.tables e below (s₁.setTop (mkF m 11 #[.val (.long q0), .second, .val (.int p1), .unset] [(.int p1), (.int (8 : Int32)), (.int (64 : Int32))])) _
      refine XS.imul X0.here hx rfl (hb hby d2_11) rfl ?_
      show Steps p.tables e below (s₁.setTop (mkF m 12 #[.val (.long q0), .second, .val (.int p1), .unset] [(.int ((8 : Int32) * p1)), (.int (64 : Int32))])) _
      refine XS.isub X0.here hx rfl (hb hby d2_12) rfl ?_
      show Steps p.tables e below (s₁.setTop (mkF m 13 #[.val (.long q0), .second, .val (.int p1), .unset] [(.int ((64 : Int32) - ((8 : Int32) * p1)))])) _
      refine XS.istoreN X0.here hx rfl (hb hby d2_13) rfl (l' := #[.val (.long q0), .second, .val (.int p1), .val (.int ((64 : Int32) - ((8 : Int32) * p1)))]) rfl ?_
      show Steps p.tables e below (s₁.setTop (mkF m 14 #[.val (.long q0), .second, .val (.int p1), .val (.int ((64 : Int32) - ((8 : Int32) * p1)))] [])) _
      refine XS.lloadN X0.here hx rfl (hb hby d2_14) rfl ?_
      show Steps p.tables e below (s₁.setTop (mkF m 15 #[.val (.long q0), .second, .val (.int p1), .val (.int ((64 : Int32) - ((8 : Int32) * p1)))] [(.long q0)])) _
      refine XS.iloadN X0.here hx rfl (hb hby d2_15) rfl ?_
      show Steps p.tables e below (s₁.setTop (mkF m 16 #[.val (.long q0), .second, .val (.int p1), .val (.int ((64 : Int32) - ((8 : Int32) * p1)))] [(.int ((64 : Int32) - ((8 : Int32) * p1))), (.long q0)])) _
      refine XS.lshl X0.here hx rfl (hb hby d2_16) rfl ?_
      show Steps p.tables e below (s₁.setTop (mkF m 17 #[.val (.long q0), .second, .val (.int p1), .val (.int ((64 : Int32) - ((8 : Int32) * p1)))] [(.long (q0 <<< (((64 : Int32) - ((8 : Int32) * p1)) &&& 0x3f).toInt64))])) _
      refine XS.iloadN X0.here hx rfl (hb hby d2_17) rfl ?_
      show Steps p.tables e below (s₁.setTop (mkF m 18 #[.val (.long q0), .second, .val (.int p1), .val (.int ((64 : Int32) - ((8 : Int32) * p1)))] [(.int ((64 : Int32) - ((8 : Int32) * p1))), (.long (q0 <<< (((64 : Int32) - ((8 : Int32) * p1)) &&& 0x3f).toInt64))])) _
      refine XS.lushr X0.here hx rfl (hb hby d2_18) rfl ?_
      exact kt
    have hv : f2 q0 p1 = (((q0 <<< (((64 : Int32) - ((8 : Int32) * p1)) &&& 0x3f).toInt64).toUInt64 >>> (((64 : Int32) - ((8 : Int32) * p1)) &&& 0x3f).toInt64.toUInt64).toInt64) := by simp only [f2, if_neg hc2]
    obtain ⟨fs, hr, hrun, hended, hW, hsame⟩ := X0.leave (v := some (.long (((q0 <<< (((64 : Int32) - ((8 : Int32) * p1)) &&& 0x3f).toInt64).toUInt64 >>> (((64 : Int32) - ((8 : Int32) * p1)) &&& 0x3f).toInt64.toUInt64).toInt64))) (fun h => by rw [Bd.returns] at h; cases h)
    refine ⟨_, _, pre0 _ (K4 _ ?_), hrun, hended, _, _, rfl, ?_, ⟨_, rfl⟩, hW, hsame.mono (by decide) (by decide)⟩
    · show Steps p.tables e below (s₁.setTop (mkF m 19 #[.val (.long q0), .second, .val (.int p1), .val (.int ((64 : Int32) - ((8 : Int32) * p1)))] [(.long (((q0 <<< (((64 : Int32) - ((8 : Int32) * p1)) &&& 0x3f).toInt64).toUInt64 >>> (((64 : Int32) - ((8 : Int32) * p1)) &&& 0x3f).toInt64.toUInt64).toInt64))])) _
      exact retOut X0 hx Bd.returns rfl (Or.inr (Or.inl ⟨rfl, rfl, _, rfl⟩)) (hb hby d2_19) hr
    · show Q2 Z q0 p1  h0 _ s₁.heap _
      rw [e0]
      exact ⟨by rw [hv], rfl, rfl⟩
theorem ef_0 (m : MethodId) (x0 : Int64) (x1 : Int32) : entryFrame m #[(.long x0), (.int x1)] maxLocals = mkF m 0 #[.val (.long x0), .second, .val (.int x1), .unset, .unset, .unset] [] := by first | (simp [entryFrame, mkF, argsToLocals, Value.category, maxLocals]; done) | rfl
theorem pd_0 : parseMethodDescriptor "(JI)J" = some ⟨[.long, .int], some .long⟩ := by decide +kernel
def f0 (q0 : Int64) (p1 : Int32) : Int32 := if (f1 q0 ((p1 &&& (2147483647 : Int32)) % (9 : Int32))) = (f2 q0 ((p1 &&& (2147483647 : Int32)) % (9 : Int32))) then (1 : Int32)
  else (0 : Int32)
def Q0 (Z : State) (q0 : Int64) (p1 : Int32)  (h0 : Heap) (v : Option Value) (h : Heap) (L : List Loc) : Prop := v = some (.int (f0 q0 p1)) ∧ L = [] ∧ h = h0
set_option maxRecDepth 65536 in
set_option maxHeartbeats 40000000 in
theorem rm0 (l : Launch) (Z : State) (a0 : Array Value) (hw : ∀ d ∈ tables_1, d.before a0 Z = true) (ws : List Jvm.Cond) (q0 : Int64) (p1 : Int32)  (h0 : Heap)  :
    MetFree l x (head1 (Jvm.Cond.code x code maxLocals ret :: ws) room_1) (fun a U => a = #[(.long q0), (.int p1)] ∧ Z.Warmed39 U.vm ∧ U.heap = h0) (fun _ _ _ _ _ => True) (fun _ U o U' => ∃ v L, o = .returned v ∧ Q0 Z q0 p1  h0 v U'.heap L ∧ FrameEnd U o U' L room_1.cells room_1.slots) := by
  refine MetFree.of_bodySF (plainFor_of_name pn_1) hisR ?_
  intro p e s m args below meth c s₁ Bd hml0 hP hK
  obtain ⟨rfl, hZ, hh⟩ := hP
  have hx := Bd.exec
  have hby := Bd.bytes
  have hml : c.maxLocals = 6 := hml0
  have hown : s.vm.findClass "com/example/troth/troth/EightBytesFirstBytesPinLaw" = some m.cls := findClass_of_methodNamed Bd.named
  have hnm := (name_of_methodNamed Bd.named Bd.method).1
  have X0 : Stand p l e room_1 s m #[(.long q0), (.int p1)] below meth c s₁ [] 0 0 := Stand.of_body Bd
  have e0 : s₁.heap = h0 := by rw [← hh, Bd.state]; rfl
  have pre0 : ∀ t, Steps p.tables e below (s₁.setTop (mkF m 0 #[.val (.long q0), .second, .val (.int p1), .unset, .unset, .unset] [])) t → Steps p.tables e below (s₁.setTop (entryFrame m #[(.long q0), (.int p1)] maxLocals)) t := fun t k => castTop (ef_0 m q0 p1) k
  obtain ⟨_, _, ⟨T1, L1, k1, n1⟩, -, X1, ⟨Lc1, hQ1, l1, y1, z1⟩, st1⟩ := Jvm.LawKit.callS X0 hx (y := (⟨"com/example/troth/troth/EightBytes", "firstBytes", "(JI)J"⟩ : MethodName)) hown (mvT hZ (hw _ (List.mem_of_getElem? (i := 1) rfl))) (mvT hZ (hw _ (List.mem_of_getElem? (i := 2) rfl))) (mvT hZ (hw _ (List.mem_of_getElem? (i := 3) rfl))) (mvT hZ (hw _ (List.mem_of_getElem? (i := 4) rfl))) (by decide) (backOf (W := 0) (rm1 l Z a0 hw [] q0 ((p1 &&& (2147483647 : Int32)) % (9 : Int32))  h0 ) hZ (hw _ (List.mem_of_getElem? (i := 4) rfl)) (hw _ (List.mem_of_getElem? (i := 3) rfl)) (by decide) (by decide)) (g := (mkF m 10 #[.val (.long q0), .second, .val (.int p1), .val (.int ((p1 &&& (2147483647 : Int32)) % (9 : Int32))), .unset, .unset] [(.int ((p1 &&& (2147483647 : Int32)) % (9 : Int32))), (.long q0)])) rfl (by rw [hml]; rfl) (argsL := [(.long q0), (.int ((p1 &&& (2147483647 : Int32)) % (9 : Int32)))]) (rest := []) (lenOf pd_0 rfl) rfl (by show 2 * 0 + _ ≤ _; exact Nat.le_of_eq rfl) (hb hby at_10) (fun _ _ => ⟨rfl, e0, (by decide : 0 + 0 ≤ _), (by decide : 0 + 0 ≤ _)⟩)
  dsimp only [Pt.U, Pt.locs, Pt.cells, Pt.slots] at X1 l1 y1 z1 st1 hQ1
  subst l1 y1 z1
  obtain ⟨rfl, rfl, e1⟩ := hQ1
  try rw [List.append_nil] at X1
  obtain ⟨_, _, ⟨T2, L2, k2, n2⟩, -, X2, ⟨Lc2, hQ2, l2, y2, z2⟩, st2⟩ := Jvm.LawKit.callS X1 hx (y := (⟨"com/example/troth/troth/EightBytesFirstBytesPinLaw", "reference", "(JI)J"⟩ : MethodName)) hown (mvT hZ (hw _ (List.mem_of_getElem? (i := 5) rfl))) (mvT hZ (hw _ (List.mem_of_getElem? (i := 6) rfl))) (mvT hZ (hw _ (List.mem_of_getElem? (i := 7) rfl))) (mvT hZ (hw _ (List.mem_of_getElem? (i := 8) rfl))) (by decide) (backOf (W := 2) (rm2 l Z a0 hw [] q0 ((p1 &&& (2147483647 : Int32)) % (9 : Int32))  h0 ) hZ (hw _ (List.mem_of_getElem? (i := 8) rfl)) (hw _ (List.mem_of_getElem? (i := 7) rfl)) (by decide) (by decide)) (g := (mkF m 19 #[.val (.long q0), .second, .val (.int p1), .val (.int ((p1 &&& (2147483647 : Int32)) % (9 : Int32))), .val (.long (f1 q0 ((p1 &&& (2147483647 : Int32)) % (9 : Int32)))), .second] [(.int ((p1 &&& (2147483647 : Int32)) % (9 : Int32))), (.long q0), (.long (f1 q0 ((p1 &&& (2147483647 : Int32)) % (9 : Int32))))])) rfl (by rw [hml]; rfl) (argsL := [(.long q0), (.int ((p1 &&& (2147483647 : Int32)) % (9 : Int32)))]) (rest := [(.long (f1 q0 ((p1 &&& (2147483647 : Int32)) % (9 : Int32))))]) (lenOf pd_0 rfl) rfl (by show 2 * 0 + _ ≤ _; exact Nat.le_of_eq rfl) (hb hby at_19) (fun _ _ => ⟨rfl, e1, (by decide : 0 + 0 ≤ _), (by decide : 0 + 0 ≤ _)⟩)
  dsimp only [Pt.U, Pt.locs, Pt.cells, Pt.slots] at X2 l2 y2 z2 st2 hQ2
  subst l2 y2 z2
  obtain ⟨rfl, rfl, e2⟩ := hQ2
  try rw [List.append_nil] at X2
  have K3 : ∀ t, Steps p.tables e below (T2.setTop (mkF m 23 #[.val (.long q0), .second, .val (.int p1), .val (.int ((p1 &&& (2147483647 : Int32)) % (9 : Int32))), .val (.long (f1 q0 ((p1 &&& (2147483647 : Int32)) % (9 : Int32)))), .second] [(.int (lcmpW (f1 q0 ((p1 &&& (2147483647 : Int32)) % (9 : Int32))) (f2 q0 ((p1 &&& (2147483647 : Int32)) % (9 : Int32)))))])) t → Steps p.tables e below (s₁.setTop (mkF m 0 #[.val (.long q0), .second, .val (.int p1), .unset, .unset, .unset] [])) t := by
    intro t kt
    show Steps p.tables e below (s₁.setTop (mkF m 0 #[.val (.long q0), .second, .val (.int p1), .unset, .unset, .unset] [])) _
    refine XS.iloadN X0.here hx rfl (hb hby at_0) rfl ?_
    show Steps p.tables e below (s₁.setTop (mkF m 1 #[.val (.long q0), .second, .val (.int p1), .unset, .unset, .unset] [(.int p1)])) _
    refine X0.ldcInt hx hown (mvT hZ (hw _ (List.mem_of_getElem? (i := 0) rfl))) (g := (mkF m 1 #[.val (.long q0), .second, .val (.int p1), .unset, .unset, .unset] [(.int p1)])) rfl (hb hby at_1) _ ?_
    show Steps p.tables e below (s₁.setTop (mkF m 3 #[.val (.long q0), .second, .val (.int p1), .unset, .unset, .unset] [(.int (2147483647 : Int32)), (.int p1)])) _
    refine XS.iand X0.here hx rfl (hb hby at_3) rfl ?_
    show Steps p.tables e below (s₁.setTop (mkF m 4 #[.val (.long q0), .second, .val (.int p1), .unset, .unset, .unset] [(.int (p1 &&& (2147483647 : Int32)))])) _
    refine XS.bipush X0.here hx rfl (hb hby at_4) ?_
    show Steps p.tables e below (s₁.setTop (mkF m 6 #[.val (.long q0), .second, .val (.int p1), .unset, .unset, .unset] [(.int (9 : Int32)), (.int (p1 &&& (2147483647 : Int32)))])) _
    refine iremM X0 hx rfl (hb hby at_6) rfl (by decide) ?_
    show Steps p.tables e below (s₁.setTop (mkF m 7 #[.val (.long q0), .second, .val (.int p1), .unset, .unset, .unset] [(.int ((p1 &&& (2147483647 : Int32)) % (9 : Int32)))])) _
    refine XS.istoreN X0.here hx rfl (hb hby at_7) rfl (l' := #[.val (.long q0), .second, .val (.int p1), .val (.int ((p1 &&& (2147483647 : Int32)) % (9 : Int32))), .unset, .unset]) rfl ?_
    show Steps p.tables e below (s₁.setTop (mkF m 8 #[.val (.long q0), .second, .val (.int p1), .val (.int ((p1 &&& (2147483647 : Int32)) % (9 : Int32))), .unset, .unset] [])) _
    refine XS.lloadN X0.here hx rfl (hb hby at_8) rfl ?_
    show Steps p.tables e below (s₁.setTop (mkF m 9 #[.val (.long q0), .second, .val (.int p1), .val (.int ((p1 &&& (2147483647 : Int32)) % (9 : Int32))), .unset, .unset] [(.long q0)])) _
    refine XS.iloadN X0.here hx rfl (hb hby at_9) rfl ?_
    show Steps p.tables e below (s₁.setTop (mkF m 10 #[.val (.long q0), .second, .val (.int p1), .val (.int ((p1 &&& (2147483647 : Int32)) % (9 : Int32))), .unset, .unset] [(.int ((p1 &&& (2147483647 : Int32)) % (9 : Int32))), (.long q0)])) _
    refine st1 _ ?_
    show Steps p.tables e below (T1.setTop (mkF m 13 #[.val (.long q0), .second, .val (.int p1), .val (.int ((p1 &&& (2147483647 : Int32)) % (9 : Int32))), .unset, .unset] [(.long (f1 q0 ((p1 &&& (2147483647 : Int32)) % (9 : Int32))))])) _
    refine XS.lstore X1.here hx rfl (hb hby at_13) rfl (l' := #[.val (.long q0), .second, .val (.int p1), .val (.int ((p1 &&& (2147483647 : Int32)) % (9 : Int32))), .val (.long (f1 q0 ((p1 &&& (2147483647 : Int32)) % (9 : Int32)))), .second]) rfl ?_
    show Steps p.tables e below (T1.setTop (mkF m 15 #[.val (.long q0), .second, .val (.int p1), .val (.int ((p1 &&& (2147483647 : Int32)) % (9 : Int32))), .val (.long (f1 q0 ((p1 &&& (2147483647 : Int32)) % (9 : Int32)))), .second] [])) _
    refine XS.lload X1.here hx rfl (hb hby at_15) rfl ?_
    show Steps p.tables e below (T1.setTop (mkF m 17 #[.val (.long q0), .second, .val (.int p1), .val (.int ((p1 &&& (2147483647 : Int32)) % (9 : Int32))), .val (.long (f1 q0 ((p1 &&& (2147483647 : Int32)) % (9 : Int32)))), .second] [(.long (f1 q0 ((p1 &&& (2147483647 : Int32)) % (9 : Int32))))])) _
    refine XS.lloadN X1.here hx rfl (hb hby at_17) rfl ?_
    show Steps p.tables e below (T1.setTop (mkF m 18 #[.val (.long q0), .second, .val (.int p1), .val (.int ((p1 &&& (2147483647 : Int32)) % (9 : Int32))), .val (.long (f1 q0 ((p1 &&& (2147483647 : Int32)) % (9 : Int32)))), .second] [(.long q0), (.long (f1 q0 ((p1 &&& (2147483647 : Int32)) % (9 : Int32))))])) _
    refine XS.iloadN X1.here hx rfl (hb hby at_18) rfl ?_
    show Steps p.tables e below (T1.setTop (mkF m 19 #[.val (.long q0), .second, .val (.int p1), .val (.int ((p1 &&& (2147483647 : Int32)) % (9 : Int32))), .val (.long (f1 q0 ((p1 &&& (2147483647 : Int32)) % (9 : Int32)))), .second] [(.int ((p1 &&& (2147483647 : Int32)) % (9 : Int32))), (.long q0), (.long (f1 q0 ((p1 &&& (2147483647 : Int32)) % (9 : Int32))))])) _
    refine st2 _ ?_
    show Steps p.tables e below (T2.setTop (mkF m 22 #[.val (.long q0), .second, .val (.int p1), .val (.int ((p1 &&& (2147483647 : Int32)) % (9 : Int32))), .val (.long (f1 q0 ((p1 &&& (2147483647 : Int32)) % (9 : Int32)))), .second] [(.long (f2 q0 ((p1 &&& (2147483647 : Int32)) % (9 : Int32)))), (.long (f1 q0 ((p1 &&& (2147483647 : Int32)) % (9 : Int32))))])) _
    refine XS.lcmp X2.here hx rfl (hb hby at_22) rfl ?_
    exact kt
  by_cases hc4 : (f1 q0 ((p1 &&& (2147483647 : Int32)) % (9 : Int32))) = (f2 q0 ((p1 &&& (2147483647 : Int32)) % (9 : Int32)))
  · skip
    have K5 : ∀ t, Steps p.tables e below (T2.setTop (mkF m 31 #[.val (.long q0), .second, .val (.int p1), .val (.int ((p1 &&& (2147483647 : Int32)) % (9 : Int32))), .val (.long (f1 q0 ((p1 &&& (2147483647 : Int32)) % (9 : Int32)))), .second] [(.int (1 : Int32))])) t → Steps p.tables e below (s₁.setTop (mkF m 0 #[.val (.long q0), .second, .val (.int p1), .unset, .unset, .unset] [])) t := by
      intro t kt
      refine K3 _ ?_
      show Steps p.tables e below (T2.setTop (mkF m 23 #[.val (.long q0), .second, .val (.int p1), .val (.int ((p1 &&& (2147483647 : Int32)) % (9 : Int32))), .val (.long (f1 q0 ((p1 &&& (2147483647 : Int32)) % (9 : Int32)))), .second] [(.int (lcmpW (f1 q0 ((p1 &&& (2147483647 : Int32)) % (9 : Int32))) (f2 q0 ((p1 &&& (2147483647 : Int32)) % (9 : Int32)))))])) _
      refine XS.ifNo X2.here hx rfl (hb hby at_23) rfl ((if0 _ _).trans (teq ((lw_eq _ _).mpr hc4)).2) ?_
      show Steps p.tables e below (T2.setTop (mkF m 26 #[.val (.long q0), .second, .val (.int p1), .val (.int ((p1 &&& (2147483647 : Int32)) % (9 : Int32))), .val (.long (f1 q0 ((p1 &&& (2147483647 : Int32)) % (9 : Int32)))), .second] [])) _
      refine XS.iconst X2.here hx rfl (hb hby at_26) ?_
      show Steps p.tables e below (T2.setTop (mkF m 27 #[.val (.long q0), .second, .val (.int p1), .val (.int ((p1 &&& (2147483647 : Int32)) % (9 : Int32))), .val (.long (f1 q0 ((p1 &&& (2147483647 : Int32)) % (9 : Int32)))), .second] [(.int (1 : Int32))])) _
      refine XS.goto X2.here hx rfl (pc0 := 27) (pc' := 31) rfl (hb hby at_27) (by decide) (by decide) ?_
      exact kt
    have hv : f0 q0 p1 = (1 : Int32) := by simp only [f0, if_pos hc4]
    obtain ⟨fs, hr, hrun, hended, hW, hsame⟩ := X2.leave (v := some (.int (1 : Int32))) (fun h => by rw [Bd.returns] at h; cases h)
    refine ⟨_, _, pre0 _ (K5 _ ?_), hrun, hended, _, _, rfl, ?_, ⟨_, rfl⟩, hW, hsame.mono (by decide) (by decide)⟩
    · show Steps p.tables e below (T2.setTop (mkF m 31 #[.val (.long q0), .second, .val (.int p1), .val (.int ((p1 &&& (2147483647 : Int32)) % (9 : Int32))), .val (.long (f1 q0 ((p1 &&& (2147483647 : Int32)) % (9 : Int32)))), .second] [(.int (1 : Int32))])) _
      exact retN X2 hx (t := .boolean) Bd.returns (by simp) (hb hby at_31) hr
    · show Q0 Z q0 p1  h0 _ T2.heap _
      rw [e2]
      exact ⟨by rw [hv], rfl, rfl⟩
  · skip
    have K6 : ∀ t, Steps p.tables e below (T2.setTop (mkF m 31 #[.val (.long q0), .second, .val (.int p1), .val (.int ((p1 &&& (2147483647 : Int32)) % (9 : Int32))), .val (.long (f1 q0 ((p1 &&& (2147483647 : Int32)) % (9 : Int32)))), .second] [(.int (0 : Int32))])) t → Steps p.tables e below (s₁.setTop (mkF m 0 #[.val (.long q0), .second, .val (.int p1), .unset, .unset, .unset] [])) t := by
      intro t kt
      refine K3 _ ?_
      show Steps p.tables e below (T2.setTop (mkF m 23 #[.val (.long q0), .second, .val (.int p1), .val (.int ((p1 &&& (2147483647 : Int32)) % (9 : Int32))), .val (.long (f1 q0 ((p1 &&& (2147483647 : Int32)) % (9 : Int32)))), .second] [(.int (lcmpW (f1 q0 ((p1 &&& (2147483647 : Int32)) % (9 : Int32))) (f2 q0 ((p1 &&& (2147483647 : Int32)) % (9 : Int32)))))])) _
      refine XS.ifYes X2.here hx rfl (pc0 := 23) (pc' := 30) rfl (hb hby at_23) rfl ((if0 _ _).trans (feq (mt (lw_eq _ _).mp hc4)).2) (by decide) (by decide) ?_
      show Steps p.tables e below (T2.setTop (mkF m 30 #[.val (.long q0), .second, .val (.int p1), .val (.int ((p1 &&& (2147483647 : Int32)) % (9 : Int32))), .val (.long (f1 q0 ((p1 &&& (2147483647 : Int32)) % (9 : Int32)))), .second] [])) _
      refine XS.iconst X2.here hx rfl (hb hby at_30) ?_
      exact kt
    have hv : f0 q0 p1 = (0 : Int32) := by simp only [f0, if_neg hc4]
    obtain ⟨fs, hr, hrun, hended, hW, hsame⟩ := X2.leave (v := some (.int (0 : Int32))) (fun h => by rw [Bd.returns] at h; cases h)
    refine ⟨_, _, pre0 _ (K6 _ ?_), hrun, hended, _, _, rfl, ?_, ⟨_, rfl⟩, hW, hsame.mono (by decide) (by decide)⟩
    · show Steps p.tables e below (T2.setTop (mkF m 31 #[.val (.long q0), .second, .val (.int p1), .val (.int ((p1 &&& (2147483647 : Int32)) % (9 : Int32))), .val (.long (f1 q0 ((p1 &&& (2147483647 : Int32)) % (9 : Int32)))), .second] [(.int (0 : Int32))])) _
      exact retN X2 hx (t := .boolean) Bd.returns (by simp) (hb hby at_31) hr
    · show Q0 Z q0 p1  h0 _ T2.heap _
      rw [e2]
      exact ⟨by rw [hv], rfl, rfl⟩
theorem own_low (x : BitVec 64) (d e : Nat) (C : BitVec 64) (hC : C.toNat = 2 ^ e - 1) (hde : d + e = 64) : x &&& C = (x <<< d) >>> d := by
  apply BitVec.eq_of_toNat_eq
  have h : 2 ^ 64 = 2 ^ e * 2 ^ d := by rw [← Nat.pow_add]; congr 1; omega
  rw [BitVec.toNat_and, hC, Nat.and_two_pow_sub_one_eq_mod, BitVec.toNat_ushiftRight, BitVec.toNat_shiftLeft, Nat.shiftLeft_eq, Nat.shiftRight_eq_div_pow, h, Nat.mul_mod_mul_right, Nat.mul_div_cancel _ (Nat.two_pow_pos d)]
theorem own_case (x : Int64) (k : Int32) (d e : Nat) (h8 : ¬ k = 8) (h0 : ¬ k = 0) (hC : ((((1 : Int64) <<< (((8 : Int32) * k) &&& 0x3f).toInt64) - (1 : Int64))).toBitVec.toNat = 2 ^ e - 1) (hd : ((64 : Int32) - ((8 : Int32) * k)).toBitVec.toNat % 64 = d) (hde : d + e = 64) : f1 x k = f2 x k := by
  unfold f1 f2
  rw [if_neg h8, if_neg h0]
  apply Int64.toBitVec_inj.mp
  rw [own_lushr _ _ d hd, own_lshl _ _ d hd, Int64.toBitVec_and]
  exact own_low _ d e _ hC hde
theorem own_eq (x : Int64) (k : Int32) (h0 : 0 ≤ k.toInt) (h9 : k.toInt < 9) : f1 x k = f2 x k := by
  have e : k = Int32.ofInt k.toInt := (Int32.ofInt_toInt k).symm
  generalize k.toInt = z at e h0 h9
  have h : z = 0 ∨ z = 1 ∨ z = 2 ∨ z = 3 ∨ z = 4 ∨ z = 5 ∨ z = 6 ∨ z = 7 ∨ z = 8 := by omega
  rcases h with rfl | rfl | rfl | rfl | rfl | rfl | rfl | rfl | rfl <;> subst e
  · unfold f1 f2
    rw [if_neg (by decide), if_pos (by decide)]
    apply Int64.toBitVec_inj.mp
    rw [Int64.toBitVec_and, show ((((1 : Int64) <<< (((8 : Int32) * (Int32.ofInt 0)) &&& 0x3f).toInt64) - (1 : Int64))).toBitVec = 0 from by decide]
    exact BitVec.and_zero
  · exact own_case x _ 56 8 (by decide) (by decide) (by decide) (by decide) rfl
  · exact own_case x _ 48 16 (by decide) (by decide) (by decide) (by decide) rfl
  · exact own_case x _ 40 24 (by decide) (by decide) (by decide) (by decide) rfl
  · exact own_case x _ 32 32 (by decide) (by decide) (by decide) (by decide) rfl
  · exact own_case x _ 24 40 (by decide) (by decide) (by decide) (by decide) rfl
  · exact own_case x _ 16 48 (by decide) (by decide) (by decide) (by decide) rfl
  · exact own_case x _ 8 56 (by decide) (by decide) (by decide) (by decide) rfl
  · unfold f1 f2
    rw [if_pos (by decide), if_neg (by decide)]
    apply Int64.toBitVec_inj.mp
    rw [own_lushr _ _ 0 (by decide), own_lshl _ _ 0 (by decide)]
    simp
theorem own_law (x : Int64) (c : Int32) : f0 x c = 1 := by
  have h1 : (c &&& (2147483647 : Int32)).toInt = c.toInt % (2 ^ 31 : Nat) := c_mask c _ 31 (by decide) (by decide)
  have h2 := c_irem (c &&& (2147483647 : Int32)) 9 9 (by decide)
  have h3 := h2.1 (by omega)
  unfold f0
  rw [if_pos (own_eq x _ (by omega) (by omega))]
set_option maxRecDepth 65536 in
set_option maxHeartbeats 40000000 in
theorem comes_1 {Post : Tables → Env → Array Value → State → Outcome → State → Prop} (hpost : ∀ tb e args s v u, (limb_1_1.after args s (.returned v) u = true ∧ limb_1_2.after args s (.returned v) u = true ∧ True) → FrameEnd s (.returned v) u (Jvm.fieldLocs frame_1_writes args s ++ Jvm.arrayLocs frame_1_arrays args s ++ Jvm.staticLocs frame_1_statics s) 0 0 → Post tb e args s (.returned v) u) :
    ArmFor flags0 classFile x code maxLocals ret World_1 tables_1 room_1 Calls_1 rest_1 Pre_1 Post := by
  intro l hfl _ _ p e ha hc hk s m args below hf hA hF happ hP
  obtain ⟨hcalls, hrest, hpre⟩ := hP
  obtain ⟨-, -, -, hnamed, -, -, -, hat⟩ := (Spec.applies_iff hf).mp happ
  obtain ⟨hg, hn⟩ := and_e (Cond.before_iff.mp (show (Jvm.Cond.and given_1 narrow_1).before args s = true from hpre))
  obtain ⟨hcount, hk0⟩ := and_e hg
  obtain ⟨hi0, hk1⟩ := and_e hk0
  have hi1 := hk1
  obtain ⟨w0, w1, rfl⟩ : ∃ w0 w1 : Value, args = #[w0, w1] := by
    have hs : args.size = 2 := by simpa [Cond.value, given_1] using hcount
    obtain ⟨L⟩ := args
    match L, hs with
    | [w0, w1], _ => exact ⟨w0, w1, rfl⟩
  have hw := fun d (hd : d ∈ tables_1) => atoms_spec (ws := Jvm.Cond.code x code maxLocals ret :: tables_1) hat d (List.mem_cons_of_mem _ hd)
  obtain ⟨i0, ei0⟩ := isL_v hi0
  obtain rfl : w0 = (.long i0) := Option.some.inj ei0
  obtain ⟨i1, ei1⟩ := is_v hi1
  obtain rfl : w1 = (.int i1) := Option.some.inj ei1
  obtain ⟨n, o, h1, h2, h3, v, L, rfl, hQ, hq⟩ := rm0 l s _ hw tables_1 i0 i1 s.heap p e ha hc hk s m _ below hf ((Spec.applies_iff_loose hf).mp happ).1 ⟨rfl, State.Warmed39.refl s, rfl⟩ trivial
  obtain ⟨rfl, N⟩ : v = some (.int 1) ∧ Fr s.heap.size L := by
    obtain ⟨q1, q2, -⟩ := hQ
    subst q2
    rw [own_law i0 i1] at q1
    exact ⟨q1, Fr.nil _⟩
  refine ⟨n, _, h1, h2, h3, hpost _ _ _ _ _ _ ⟨Cond.after_iff.mpr rfl, Cond.after_iff.mpr (eq_i res_at (Term.int_eval (1)) rfl), trivial⟩ ⟨hq.1, hq.2.1, (hq.2.2.sift fun y hy => Or.inr (N y hy)).mono (by decide) (by decide)⟩⟩
theorem main_1_1 : Claimed_1_1 := comes_1 fun _ _ _ _ _ _ h hF => ⟨h.1, hF⟩
theorem main_1_2 : Claimed_1_2 := comes_1 fun _ _ _ _ _ _ h hF => ⟨h.2.1, hF⟩
end Jvm.Pilot.@@N@@
namespace Jvm.Pilot.@@N@@
open Jvm Jvm.ClassFile Sem Op Lib Jvm.Free Jvm.Stand Jvm.Pilot.@@N@@.Jvm.D
/-! MADE BY PROGRAM (witnessworld.py) out of the Statement's table words and the real class files: 9 classes; the members and pool entries that the words name. The judged class is class 1, her method 2. -/
namespace start1
open Jvm.ClassFile
def u (s : String) : CpInfo := .utf8 (stringToUtf16 s)
/-- a pool by its gaps: so many unusable entries, then the entry; so many at the end -/
def gap : Nat → List CpInfo → List CpInfo
  | 0, r => r
  | n + 1, r => .unusable :: gap n r
def poolList (es : List (Nat × CpInfo)) (last : Nat) : List CpInfo := es.foldr (fun e r => gap e.1 (e.2 :: r)) (gap last [])
def pool (es : List (Nat × CpInfo)) (last : Nat) : Array CpInfo := ⟨poolList es last⟩
def fileOf (pool : Array CpInfo) (this : Nat) (attrs : Array Attribute := #[]) (ms : Array MethodInfo := #[]) (fl : Nat := 33) (sup : Nat := 0) (ifs : Array Nat := #[]) (fds : Array FieldInfo := #[]) : ClassFile where
  minorVersion := 0
  majorVersion := 65
  constantPool := pool
  accessFlags := fl
  thisClass := this
  superClass := sup
  interfaces := ifs
  fields := fds
  methods := ms
  attributes := attrs
def plain (name : String) (sup : Option ClassId) : Class where
  name := name
  kind := .ordinary
  loader := none
  accessFlags := 33
  super := sup
  interfaces := #[]
  cf := none
  fields := #[]
  methods := #[]
  instanceTypes := #[]
  staticTypes := #[]
  resolved := #[]
  callSites := []
  init := .initialized
  statics := none
  mirror := none

def pool0 : Array CpInfo := pool [(5, u "<init>"), (0, u "()V"), (1, .class_ 10), (1, u "java/lang/Object")] 113

def k0m0 : Method := { name := "<init>", desc := "()V", sig := { parameters := [], returnType := none }, accessFlags := 1, code := none }
/-- java/lang/Object -/
def k0 : Class := { plain "java/lang/Object" none with
  accessFlags := 33
  interfaces := #[]
  cf := some (fileOf pool0 8 #[] #[{ accessFlags := 1, nameIndex := 5, descriptorIndex := 6, attributes := #[] }] 33 0 #[] #[])
  fields := #[]
  methods := #[k0m0]
  instanceTypes := #[]
  staticTypes := #[]
  resolved := Array.replicate 124 none
  statics := none }

def pool1 : Array CpInfo := pool [(2, .class_ 4), (1, u "java/lang/Object"), (0, u "<init>"), (0, u "()V"), (0, .integer 2147483647), (0, .methodref 9 10), (0, .class_ 11), (0, .nameAndType 12 13), (0, u "com/example/troth/troth/EightBytes"), (0, u "firstBytes"), (0, u "(JI)J"), (0, .methodref 15 16), (0, .class_ 17), (0, .nameAndType 18 13), (0, u "com/example/troth/troth/EightBytesFirstBytesPinLaw"), (0, u "reference"), (3, u "law"), (0, u "(JI)Z")] 2

def k1m0 : Method := { name := "<init>", desc := "()V", sig := { parameters := [], returnType := none }, accessFlags := 2, code := none }
def k1c1 : Code := { maxStack := 3, maxLocals := 4, code := method_2_code, exceptionTable := #[], attributes := #[] }
def k1m1 : Method := { name := "reference", desc := "(JI)J", sig := { parameters := [.long, .int], returnType := some .long }, accessFlags := 10, code := some k1c1 }
def k1c2 : Code := { maxStack := 5, maxLocals := 6, code := code, exceptionTable := #[], attributes := #[] }
def k1m2 : Method := { name := "law", desc := "(JI)Z", sig := { parameters := [.long, .int], returnType := some .boolean }, accessFlags := 9, code := some k1c2 }
/-- com/example/troth/troth/EightBytesFirstBytesPinLaw -/
def k1 : Class := { plain "com/example/troth/troth/EightBytesFirstBytesPinLaw" (some 0) with
  accessFlags := 49
  interfaces := #[]
  cf := some (fileOf pool1 15 #[] #[{ accessFlags := 2, nameIndex := 5, descriptorIndex := 6, attributes := #[] }, { accessFlags := 10, nameIndex := 18, descriptorIndex := 13, attributes := #[] }, { accessFlags := 9, nameIndex := 22, descriptorIndex := 23, attributes := #[] }] 49 2 #[] #[])
  fields := #[]
  methods := #[k1m0, k1m1, k1m2]
  instanceTypes := #[]
  staticTypes := #[]
  resolved := Array.replicate 26 none
  statics := none }

def pool2 : Array CpInfo := pool [(1, .class_ 2), (0, u "com/example/troth/troth/EightBytes"), (1, .class_ 6), (1, u "java/lang/Object"), (0, u "<init>"), (0, u "()V"), (4, u "LONGS"), (0, u "Ljava/lang/invoke/VarHandle;"), (8, u "firstBytes"), (0, u "(JI)J"), (30, u "ONES"), (0, u "J"), (1, u "HIGH_BITS"), (0, u "LOW_BITS"), (0, u "GATHER")] 14

def k2m0 : Method := { name := "<init>", desc := "()V", sig := { parameters := [], returnType := none }, accessFlags := 2, code := none }
def k2c1 : Code := { maxStack := 6, maxLocals := 3, code := prog_25_method_4_code, exceptionTable := #[], attributes := #[] }
def k2m1 : Method := { name := "firstBytes", desc := "(JI)J", sig := { parameters := [.long, .int], returnType := some .long }, accessFlags := 8, code := some k2c1 }
/-- com/example/troth/troth/EightBytes -/
def k2 : Class := { plain "com/example/troth/troth/EightBytes" (some 0) with
  accessFlags := 48
  interfaces := #[]
  cf := some (fileOf pool2 1 #[] #[{ accessFlags := 2, nameIndex := 7, descriptorIndex := 8, attributes := #[] }, { accessFlags := 8, nameIndex := 23, descriptorIndex := 24, attributes := #[] }] 48 4 #[] #[{ accessFlags := 24, nameIndex := 55, descriptorIndex := 56, attributes := #[] }, { accessFlags := 24, nameIndex := 58, descriptorIndex := 56, attributes := #[] }, { accessFlags := 26, nameIndex := 59, descriptorIndex := 56, attributes := #[] }, { accessFlags := 26, nameIndex := 60, descriptorIndex := 56, attributes := #[] }, { accessFlags := 26, nameIndex := 13, descriptorIndex := 14, attributes := #[] }])
  fields := #[{ name := "ONES", type := .long, accessFlags := 24, slot := 0, constantValue := 0 }, { name := "HIGH_BITS", type := .long, accessFlags := 24, slot := 1, constantValue := 0 }, { name := "LOW_BITS", type := .long, accessFlags := 26, slot := 2, constantValue := 0 }, { name := "GATHER", type := .long, accessFlags := 26, slot := 3, constantValue := 0 }, { name := "LONGS", type := (.object "java/lang/invoke/VarHandle"), accessFlags := 26, slot := 4, constantValue := 0 }]
  methods := #[k2m0, k2m1]
  instanceTypes := #[]
  staticTypes := #[.long, .long, .long, .long, (.object "java/lang/invoke/VarHandle")]
  resolved := Array.replicate 75 none
  statics := none }

def pool3 : Array CpInfo := pool [(1, u "java/lang/Cloneable"), (0, .class_ 1), (0, u "java/lang/Object"), (0, .class_ 3)] 3

/-- java/lang/Cloneable -/
def k3 : Class := { plain "java/lang/Cloneable" (some 0) with
  accessFlags := 1537
  interfaces := #[]
  cf := some (fileOf pool3 2 #[] #[] 1537 4 #[] #[])
  fields := #[]
  methods := #[]
  instanceTypes := #[]
  staticTypes := #[]
  resolved := Array.replicate 8 none
  statics := none }

def pool4 : Array CpInfo := pool [(1, u "java/io/Serializable"), (0, .class_ 1), (0, u "java/lang/Object"), (0, .class_ 3)] 3

/-- java/io/Serializable -/
def k4 : Class := { plain "java/io/Serializable" (some 0) with
  accessFlags := 1537
  interfaces := #[]
  cf := some (fileOf pool4 2 #[] #[] 1537 4 #[] #[])
  fields := #[]
  methods := #[]
  instanceTypes := #[]
  staticTypes := #[]
  resolved := Array.replicate 8 none
  statics := none }

/-- the primitive byte -/
def k5 : Class := { plain "byte" none with kind := .primitive 'B', accessFlags := 0x411 }
/-- [B -/
def k6 : Class := { plain "[B" (some 0) with kind := .array 5 .byte, interfaces := #[3, 4], accessFlags := 1041 }

/-- the primitive int -/
def k7 : Class := { plain "int" none with kind := .primitive 'I', accessFlags := 0x411 }
/-- [I -/
def k8 : Class := { plain "[I" (some 0) with kind := .array 7 .int, interfaces := #[3, 4], accessFlags := 1041 }

def heap : Heap := #[]
def classes : Array Class := #[k0, k1, k2, k3, k4, k5, k6, k7, k8]
def interned : List (Array UInt16 × Addr) := []
def slotsUsed : Nat := 0
def theMethod : MethodId := ⟨1, 2⟩
def args0 : Array Value := #[.long 5, .int 5]
def aboutOver (below : List Frame) : State where
  vm := { classes := classes, interned := interned.toArray }
  heap := heap
  slotsUsed := slotsUsed
  threads := #[{ frames := .invoking theMethod args0 :: below }]
def below0 : List Frame := [.native { method := ⟨0, 0⟩, args := #[] }]
def about1 : State := aboutOver below0
def p0 : Program := .bare "" "" ""
def e0 : Env := launch0.env 0 0 0
theorem w_frames : about1.frames = Frame.invoking theMethod args0 :: below0 := rfl
set_option maxRecDepth 65536 in
theorem w_args : argsFit about1.vm theMethod args0 = true := by decide +kernel
set_option maxRecDepth 65536 in
theorem w_heap : heapFits about1 = true := by decide +kernel
set_option maxRecDepth 65536 in
theorem w_runnable : about1.curStatus? = some .runnable := by decide +kernel
set_option maxRecDepth 65536 in
theorem w_alone : about1.alone = true := by decide +kernel
set_option maxRecDepth 65536 in
theorem w_named : about1.methodNamed? x = some theMethod := by decide +kernel
set_option maxRecDepth 65536 in
theorem w_hears : about1.hears theMethod below0 = true := by decide +kernel
set_option maxRecDepth 65536 in
theorem w_ripe : about1.ripe theMethod args0 below0 = true := by decide +kernel
theorem w_running : about1.status = .running := rfl
set_option maxRecDepth 65536 in
theorem w_room : about1.hasRoom e0.platform room_1 = true :=
  launch0.hasRoom_least _ room_1 (by decide +kernel) (by decide +kernel) (by decide +kernel) (by decide +kernel) (by decide +kernel) (by decide +kernel)
theorem allAtoms_all (ts : List Jvm.Cond) (a : Array Jvm.Value) (st : Jvm.State) : (allAtoms ts).before a st = ts.all (fun c => c.before a st) := by
  induction ts with
  | nil => rfl
  | cons c t ih =>
    show (Jvm.Cond.and c (allAtoms t)).before a st = _
    rw [Jvm.Cond.before_and, ih, List.all_cons]
def words1 : List Jvm.Cond := Jvm.Cond.code x code maxLocals ret :: tables_1
/-- a 'code' word, met by the world's own term for the bytes: nothing is compared byte by byte -/
theorem code_word {y : MethodName} {bytes : ByteArray} {mx : Nat} {rt : Option FieldType} {a : Array Value} {s : State} {m : MethodId} {meth : Method} {c : Code} (h1 : s.methodNamed? y = some m) (h2 : s.vm.method? m = some meth) (h3 : meth.code = some c) (h4 : c.code = bytes)
    (h5 : (c.maxLocals == mx && c.exceptionTable.isEmpty && decide (c.maxStack ≤ mostOperands) && decide (meth.sig.returnType = rt) && !meth.locks && decide (parseMethodDescriptor y.desc = some meth.sig)) = true) : (Jvm.Cond.code y bytes mx rt).before a s = true := by
  simp only [Bool.and_eq_true, beq_iff_eq, Bool.not_eq_true', decide_eq_true_eq] at h5
  obtain ⟨⟨⟨⟨⟨g1, g2⟩, g3⟩, g4⟩, g5⟩, g6⟩ := h5
  simp [Cond.before, Cond.holds, Cond.value, h1, h2, h3, h4, g1, g2, g3, g4, g5, g6]
def isCode : Jvm.Cond → Bool
  | .code _ _ _ _ => true
  | _ => false
theorem all_split {L : List Jvm.Cond} {P : Jvm.Cond → Bool} (h1 : L.all (fun c => isCode c || P c) = true) (h2 : ∀ c ∈ L.filter isCode, P c = true) : L.all P = true := by
  refine List.all_eq_true.mpr fun c hc => ?_
  have h := List.all_eq_true.mp h1 c hc
  rcases Bool.eq_false_or_eq_true (isCode c) with hi | hi
  · exact h2 c (List.mem_filter.mpr ⟨hc, hi⟩)
  · simpa [hi] using h
set_option maxRecDepth 65536 in
theorem w_c0 : (Jvm.Cond.code x code maxLocals ret).before args0 about1 = true := code_word (m := ⟨1, 2⟩) (meth := k1m2) (c := k1c2) (by decide +kernel) rfl rfl rfl (by decide +kernel)
set_option maxRecDepth 65536 in
theorem w_c1 : (Jvm.Cond.code ({ cls := "com/example/troth/troth/EightBytes", name := "firstBytes", desc := "(JI)J" } : Jvm.MethodName) prog_25_method_4_code (3 : Nat) (Option.some Jvm.ClassFile.FieldType.long)).before args0 about1 = true := code_word (m := ⟨2, 1⟩) (meth := k2m1) (c := k2c1) (by decide +kernel) rfl rfl rfl (by decide +kernel)
set_option maxRecDepth 65536 in
theorem w_c2 : (Jvm.Cond.code ({ cls := "com/example/troth/troth/EightBytesFirstBytesPinLaw", name := "reference", desc := "(JI)J" } : Jvm.MethodName) method_2_code (4 : Nat) (Option.some Jvm.ClassFile.FieldType.long)).before args0 about1 = true := code_word (m := ⟨1, 1⟩) (meth := k1m1) (c := k1c1) (by decide +kernel) rfl rfl rfl (by decide +kernel)
def codes1 : List Jvm.Cond := [Jvm.Cond.code x code maxLocals ret, Jvm.Cond.code ({ cls := "com/example/troth/troth/EightBytes", name := "firstBytes", desc := "(JI)J" } : Jvm.MethodName) prog_25_method_4_code (3 : Nat) (Option.some Jvm.ClassFile.FieldType.long), Jvm.Cond.code ({ cls := "com/example/troth/troth/EightBytesFirstBytesPinLaw", name := "reference", desc := "(JI)J" } : Jvm.MethodName) method_2_code (4 : Nat) (Option.some Jvm.ClassFile.FieldType.long)]
set_option maxRecDepth 65536 in
theorem codes_eq : words1.filter isCode = codes1 := rfl
theorem w_codes : ∀ c ∈ words1.filter isCode, c.before args0 about1 = true := by
  rw [codes_eq]
  intro c hc
  simp only [codes1, List.mem_cons, List.not_mem_nil, or_false] at hc
  rcases hc with rfl | rfl | rfl
  · exact w_c0
  · exact w_c1
  · exact w_c2
set_option maxRecDepth 65536 in
theorem w_t1 : words1.all (fun c => isCode c || c.before args0 about1) = true := by decide +kernel
theorem w_tables : (allAtoms (Jvm.Cond.code x code maxLocals ret :: tables_1)).before args0 about1 = true := by
  rw [allAtoms_all]
  show words1.all (fun c => c.before args0 about1) = true
  refine all_split ?_ w_codes
  rw [w_t1]
set_option maxRecDepth 65536 in
theorem w_case : (Jvm.Cond.and given_1 narrow_1).before args0 about1 = true := by decide +kernel
theorem w_applies : (headSpec (Jvm.Cond.code x code maxLocals ret :: tables_1) room_1).applies x e0.platform about1 = true :=
  (Spec.applies_iff w_frames).mpr ⟨w_running, w_runnable, w_alone, w_named, w_hears, w_ripe, w_room, w_tables⟩
theorem atStart : AtStart classFile x code maxLocals ret World_1 tables_1 room_1 Calls_1 rest_1 Pre_1 launch0 p0 e0 about1 theMethod args0 below0 :=
  ⟨lists_1, trivial, launch0.admits_env _ _ _, launch0.least_env, fairChoices_fair.cas, fairChoices_fair.clock, w_frames, w_args, w_heap, w_applies, trivial, trivial, w_case⟩
end start1
theorem witness_1 : WitnessClaimed_1 := ⟨start1.p0, start1.e0, start1.about1, start1.theMethod, start1.args0, start1.below0, start1.atStart⟩
end Jvm.Pilot.@@N@@
