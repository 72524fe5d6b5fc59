import JvmDerived
import JvmDerived.Pilot.@@N@@Statement
import JvmDerived.Pilot.@@N@@Code
set_option linter.unusedVariables false
set_option linter.unusedSimpArgs false
namespace Jvm.Pilot.@@N@@
open Jvm Jvm.ClassFile Sem Op Lib Jvm.Free Jvm.Stand Jvm.LawKit Jvm.RoadKit Bundle Jvm.Pilot.@@N@@.Jvm.D
-- BY HAND: shifts as BitVec's
theorem own_lshl (x : Int64) (q : Int32) (k : Nat) (hk : q.toBitVec.toNat % 64 = k) : (x <<< (q &&& 0x3f).toInt64).toBitVec = x.toBitVec <<< k := by
  show x.toBitVec <<< ((q &&& 0x3f).toInt64.toBitVec.smod 64) = _
  rw [BitVec.shiftLeft_eq', (sm64 q k hk).1, smod64 k (sm64 q k hk).2]
theorem own_lushr (x : Int64) (q : Int32) (k : Nat) (hk : q.toBitVec.toNat % 64 = k) : ((x.toUInt64 >>> (q &&& 0x3f).toInt64.toUInt64).toInt64).toBitVec = x.toBitVec >>> k := by
  have h5 := (sm64 q k hk).2
  show x.toBitVec >>> ((q &&& 0x3f).toInt64.toBitVec % 64) = _
  rw [BitVec.ushiftRight_eq', BitVec.toNat_umod, (sm64 q k hk).1, BitVec.toNat_ofNat]
  congr 1
  show k % 2 ^ 64 % 64 = k
  omega
theorem own_iushr (x q : Int32) (k : Nat) (hk : q.toBitVec.toNat % 32 = k) : ((x.toUInt32 >>> (q &&& 31).toUInt32).toInt32).toBitVec = x.toBitVec >>> k := by
  have h1 : (q &&& 31).toBitVec.toNat = k := by
    show (q.toBitVec &&& (31 : Int32).toBitVec).toNat = _
    rw [BitVec.toNat_and, show (31 : Int32).toBitVec.toNat = 2 ^ 5 - 1 from by decide, Nat.and_two_pow_sub_one_eq_mod]; exact hk
  show x.toBitVec >>> ((q &&& 31).toBitVec % 32) = _
  rw [BitVec.ushiftRight_eq', BitVec.toNat_umod, h1]
  congr 1
  exact Nat.mod_eq_of_lt (by show k < 32; omega)
-- BY HAND: the zero bytes of a word
abbrev own_M : BitVec 64 := 0x7f7f7f7f7f7f7f7f#64
def own_z (v : BitVec 64) : BitVec 64 := ((((v &&& own_M) + own_M) ||| v) ||| own_M) ^^^ (-1#64)
def own_mk (v : BitVec 64) (k : Nat) : BitVec 64 := if (v >>> (8 * k)) &&& 255#64 = 0#64 then 128#64 <<< (8 * k) else 0#64
theorem own_dig (V k : Nat) (hk : k < 8) : (V &&& 0x7f7f7f7f7f7f7f7f) / 2 ^ (8 * k) % 256 = V / 2 ^ (8 * k) % 128 := by
  have h : 0x7f7f7f7f7f7f7f7f / 2 ^ (8 * k) % 2 ^ 8 = 2 ^ 7 - 1 := by
    have : ∀ k : Fin 8, 0x7f7f7f7f7f7f7f7f / 2 ^ (8 * k.val) % 2 ^ 8 = 2 ^ 7 - 1 := by decide +kernel
    exact this ⟨k, hk⟩
  rw [Nat.and_div_two_pow, show (256 : Nat) = 2 ^ 8 from rfl, Nat.and_mod_two_pow, h, Nat.and_two_pow_sub_one_eq_mod]
  generalize V / 2 ^ (8 * k) = y
  omega
theorem own_nc (A M B : Nat) (hB : 0 < B) (h : A % B + M % B < B) : (A + M) / B = A / B + M / B := by
  have e : A + M = (A % B + M % B) + B * (A / B + M / B) := by
    have := Nat.mod_add_div A B
    have := Nat.mod_add_div M B
    rw [Nat.mul_add]
    generalize B * (A / B) = u at *
    generalize B * (M / B) = v at *
    omega
  rw [e, Nat.add_mul_div_left _ _ hB, Nat.div_eq_of_lt h, Nat.zero_add]
theorem own_car (V k : Nat) (hk : k < 8) : ((V &&& 0x7f7f7f7f7f7f7f7f) + 0x7f7f7f7f7f7f7f7f) / 2 ^ (8 * k + 7) % 2 = if V / 2 ^ (8 * k) % 128 = 0 then 0 else 1 := by
  have d := own_dig V k hk
  have hm : 0x7f7f7f7f7f7f7f7f % 2 ^ (8 * k) + 0x7f7f7f7f7f7f7f7f % 2 ^ (8 * k) < 2 ^ (8 * k) ∧ 0x7f7f7f7f7f7f7f7f / 2 ^ (8 * k) % 256 = 127 := by
    have : ∀ k : Fin 8, 0x7f7f7f7f7f7f7f7f % 2 ^ (8 * k.val) + 0x7f7f7f7f7f7f7f7f % 2 ^ (8 * k.val) < 2 ^ (8 * k.val) ∧ 0x7f7f7f7f7f7f7f7f / 2 ^ (8 * k.val) % 256 = 127 := by decide +kernel
    exact this ⟨k, hk⟩
  have ha : (V &&& 0x7f7f7f7f7f7f7f7f) % 2 ^ (8 * k) ≤ 0x7f7f7f7f7f7f7f7f % 2 ^ (8 * k) := by
    rw [Nat.and_mod_two_pow]; exact Nat.and_le_right
  rw [Nat.pow_add, ← Nat.div_div_eq_div_mul, own_nc _ _ _ (Nat.two_pow_pos _) (Nat.lt_of_le_of_lt (Nat.add_le_add_right ha _) hm.1)]
  have h2 := hm.2
  clear hm ha
  generalize (V &&& 0x7f7f7f7f7f7f7f7f) / 2 ^ (8 * k) = a at *
  generalize 0x7f7f7f7f7f7f7f7f / 2 ^ (8 * k) = m at *
  generalize V / 2 ^ (8 * k) = y at *
  split <;> omega
theorem own_tb (x : BitVec 64) (i : Nat) : x.getLsbD i = decide (x.toNat / 2 ^ i % 2 = 1) := by
  rw [← BitVec.testBit_toNat, Nat.testBit_eq_decide_div_mod_eq]
theorem own_zbit (v : BitVec 64) (k : Nat) (hk : k < 8) : (own_z v).getLsbD (8 * k + 7) = decide (v.toNat / 2 ^ (8 * k) % 256 = 0) := by
  have hS : ((v &&& own_M) + own_M).toNat = (v.toNat &&& 0x7f7f7f7f7f7f7f7f) + 0x7f7f7f7f7f7f7f7f := by
    have hle : (v.toNat &&& 0x7f7f7f7f7f7f7f7f) ≤ 0x7f7f7f7f7f7f7f7f := Nat.and_le_right
    rw [BitVec.toNat_add, BitVec.toNat_and, show own_M.toNat = 0x7f7f7f7f7f7f7f7f from rfl]
    exact Nat.mod_eq_of_lt (by omega)
  have hM : own_M.getLsbD (8 * k + 7) = false := by
    have : ∀ k : Fin 8, own_M.getLsbD (8 * k.val + 7) = false := by decide +kernel
    exact this ⟨k, hk⟩
  have h1 : (-1#64 : BitVec 64).getLsbD (8 * k + 7) = true := by
    have : ∀ k : Fin 8, (-1#64 : BitVec 64).getLsbD (8 * k.val + 7) = true := by decide +kernel
    exact this ⟨k, hk⟩
  have hc := own_car v.toNat k hk
  have e : v.toNat / 2 ^ (8 * k + 7) = v.toNat / 2 ^ (8 * k) / 128 := by rw [Nat.pow_add, ← Nat.div_div_eq_div_mul]
  unfold own_z
  rw [BitVec.getLsbD_xor, BitVec.getLsbD_or, BitVec.getLsbD_or, hM, h1, own_tb, own_tb, hS, hc, e]
  generalize v.toNat / 2 ^ (8 * k) = y
  by_cases p : y % 128 = 0
  · by_cases q : y / 128 % 2 = 1
    · have r : ¬ y % 256 = 0 := by omega
      simp [p, q, r]
    · have r : y % 256 = 0 := by omega
      simp [p, q, r]
  · have r : ¬ y % 256 = 0 := by omega
    simp [p, r]
theorem own_zbit' (v : BitVec 64) (i : Nat) (hi : i < 64) (h7 : i % 8 ≠ 7) : (own_z v).getLsbD i = false := by
  have hM : own_M.getLsbD i = true := by
    have : ∀ i : Fin 64, i.val % 8 ≠ 7 → own_M.getLsbD i.val = true := by decide +kernel
    exact this ⟨i, hi⟩ h7
  have h1 : (-1#64 : BitVec 64).getLsbD i = true := by
    have : ∀ i : Fin 64, (-1#64 : BitVec 64).getLsbD i.val = true := by decide +kernel
    exact this ⟨i, hi⟩
  unfold own_z
  rw [BitVec.getLsbD_xor, BitVec.getLsbD_or, hM, h1]
  simp
theorem own_mkbit (v : BitVec 64) (k : Nat) (hk : k < 8) (i : Nat) (hi : i < 64) : (own_mk v k).getLsbD i = (decide (v.toNat / 2 ^ (8 * k) % 256 = 0) && decide (i = 8 * k + 7)) := by
  have hb : (128#64 <<< (8 * k)).getLsbD i = decide (i = 8 * k + 7) := by
    have : ∀ k : Fin 8, ∀ i : Fin 64, (128#64 <<< (8 * k.val)).getLsbD i.val = decide (i.val = 8 * k.val + 7) := by decide +kernel
    exact this ⟨k, hk⟩ ⟨i, hi⟩
  have hc : ((v >>> (8 * k)) &&& 255#64 = 0#64) ↔ v.toNat / 2 ^ (8 * k) % 256 = 0 := by
    rw [← BitVec.toNat_inj, BitVec.toNat_and, BitVec.toNat_ushiftRight, Nat.shiftRight_eq_div_pow, show (255#64).toNat = 2 ^ 8 - 1 from rfl, Nat.and_two_pow_sub_one_eq_mod]
    exact Iff.rfl
  unfold own_mk
  by_cases h : v.toNat / 2 ^ (8 * k) % 256 = 0
  · rw [if_pos (hc.mpr h), hb]; simp [h]
  · rw [if_neg (mt hc.mp h)]; simp [h]
theorem own_zero (v : BitVec 64) : own_z v = own_mk v 0 ||| own_mk v 1 ||| own_mk v 2 ||| own_mk v 3 ||| own_mk v 4 ||| own_mk v 5 ||| own_mk v 6 ||| own_mk v 7 := by
  apply BitVec.eq_of_getLsbD_eq
  intro i hi
  rw [BitVec.getLsbD_or, BitVec.getLsbD_or, BitVec.getLsbD_or, BitVec.getLsbD_or, BitVec.getLsbD_or, BitVec.getLsbD_or, BitVec.getLsbD_or,
    own_mkbit v 0 (by decide) i hi, own_mkbit v 1 (by decide) i hi, own_mkbit v 2 (by decide) i hi, own_mkbit v 3 (by decide) i hi, own_mkbit v 4 (by decide) i hi, own_mkbit v 5 (by decide) i hi, own_mkbit v 6 (by decide) i hi, own_mkbit v 7 (by decide) i hi]
  by_cases h7 : i % 8 = 7
  · obtain ⟨k, hk, rfl⟩ : ∃ k, k < 8 ∧ i = 8 * k + 7 := ⟨i / 8, by omega, by omega⟩
    rw [own_zbit v k hk]
    have h : k = 0 ∨ k = 1 ∨ k = 2 ∨ k = 3 ∨ k = 4 ∨ k = 5 ∨ k = 6 ∨ k = 7 := by omega
    rcases h with rfl | rfl | rfl | rfl | rfl | rfl | rfl | rfl <;> simp
  · rw [own_zbit' v i hi h7]
    have hj : ∀ j, decide (i = 8 * j + 7) = false := fun j => decide_eq_false (by omega)
    rw [hj, hj, hj, hj, hj, hj, hj, hj]
    simp
theorem ef_1 (m : MethodId) (x0 : Int32) (x1 : Int32) : entryFrame m #[(.int x0), (.int x1)] 2 = mkF m 0 #[.val (.int x0), .val (.int x1)] [] := by first | (simp [entryFrame, mkF, argsToLocals, Value.category]; done) | rfl
theorem pn_0 : plainName "com/example/troth/troth/EightBytesZeroesPinLaw" = true := by first | (simp [plainName, overriddenIn]; done) | decide +kernel
theorem d1_0 : decode method_2_code 0 = .ok (.iload_n 0, 1) := by decide +kernel
theorem d1_1 : decode method_2_code 1 = .ok (.iload_n 1, 1) := by decide +kernel
theorem d1_2 : decode method_2_code 2 = .ok (.iushr, 1) := by decide +kernel
theorem d1_3 : decode method_2_code 3 = .ok (.iconst 1, 1) := by decide +kernel
theorem d1_4 : decode method_2_code 4 = .ok (.iand, 1) := by decide +kernel
theorem d1_5 : decode method_2_code 5 = .ok (.ifCond .eq 14, 3) := by decide +kernel
theorem d1_19 : decode method_2_code 19 = .ok (.lconst 0, 1) := by decide +kernel
theorem d1_20 : decode method_2_code 20 = .ok (.lreturn, 1) := by decide +kernel
theorem d1_8 : decode method_2_code 8 = .ok (.ldc2_w 7, 3) := by decide +kernel
theorem d1_11 : decode method_2_code 11 = .ok (.bipush 8, 2) := by decide +kernel
theorem d1_13 : decode method_2_code 13 = .ok (.iload_n 1, 1) := by decide +kernel
theorem d1_14 : decode method_2_code 14 = .ok (.imul, 1) := by decide +kernel
theorem d1_15 : decode method_2_code 15 = .ok (.lshl, 1) := by decide +kernel
theorem d1_16 : decode method_2_code 16 = .ok (.goto 4, 3) := by decide +kernel
def f1 (p0 : Int32) (p1 : Int32) : Int64 := if (((p0.toUInt32 >>> (p1 &&& 31).toUInt32).toInt32) &&& (1 : Int32)) = (0 : Int32) then (0 : Int64)
  else ((255 : Int64) <<< (((8 : Int32) * p1) &&& 0x3f).toInt64)
def Q1 (Z : State) (p0 : Int32) (p1 : Int32)  (h0 : Heap) (v : Option Value) (h : Heap) (L : List Loc) : Prop := v = some (.long (f1 p0 p1)) ∧ L = [] ∧ h = h0
set_option maxRecDepth 65536 in
set_option maxHeartbeats 40000000 in
theorem rm1 (l : Launch) (Z : State) (a0 : Array Value) (hw : ∀ d ∈ tables_1, d.before a0 Z = true) (ws : List Jvm.Cond) (p0 : Int32) (p1 : Int32)  (h0 : Heap)  :
    MetFree l (⟨"com/example/troth/troth/EightBytesZeroesPinLaw", "cleared", "(II)J"⟩ : MethodName) (head1 (Jvm.Cond.code (⟨"com/example/troth/troth/EightBytesZeroesPinLaw", "cleared", "(II)J"⟩ : MethodName) method_2_code 2 (some .long) :: ws) ({ frames := 0, cells := 0, slots := 0, locals := 0 } : Room)) (fun a U => a = #[(.int p0), (.int p1)] ∧ Z.Warmed39 U.vm ∧ U.heap = h0) (fun _ _ _ _ _ => True) (fun _ U o U' => ∃ v L, o = .returned v ∧ Q1 Z p0 p1  h0 v U'.heap L ∧ FrameEnd U o U' L ({ frames := 0, cells := 0, slots := 0, locals := 0 } : Room).cells ({ frames := 0, cells := 0, slots := 0, locals := 0 } : Room).slots) := by
  refine MetFree.of_bodySF (plainFor_of_name pn_0) hisR ?_
  intro p e s m args below meth c s₁ Bd hml0 hP hK
  obtain ⟨rfl, hZ, hh⟩ := hP
  have hx := Bd.exec
  have hby := Bd.bytes
  have hml : c.maxLocals = 2 := hml0
  have hown : s.vm.findClass "com/example/troth/troth/EightBytesZeroesPinLaw" = some m.cls := findClass_of_methodNamed Bd.named
  have hnm := (name_of_methodNamed Bd.named Bd.method).1
  have X0 : Stand p l e ({ frames := 0, cells := 0, slots := 0, locals := 0 } : Room) s m #[(.int p0), (.int p1)] below meth c s₁ [] 0 0 := Stand.of_body Bd
  have e0 : s₁.heap = h0 := by rw [← hh, Bd.state]; rfl
  have pre0 : ∀ t, Steps p.tables e below (s₁.setTop (mkF m 0 #[.val (.int p0), .val (.int p1)] [])) t → Steps p.tables e below (s₁.setTop (entryFrame m #[(.int p0), (.int p1)] 2)) t := fun t k => castTop (ef_1 m p0 p1) k
  have K1 : ∀ t, Steps p.tables e below (s₁.setTop (mkF m 5 #[.val (.int p0), .val (.int p1)] [(.int (((p0.toUInt32 >>> (p1 &&& 31).toUInt32).toInt32) &&& (1 : Int32)))])) t → Steps p.tables e below (s₁.setTop (mkF m 0 #[.val (.int p0), .val (.int p1)] [])) t := by
    intro t kt
    show Steps p.tables e below (s₁.setTop (mkF m 0 #[.val (.int p0), .val (.int p1)] [])) _
    refine XS.iloadN X0.here hx rfl (hb hby d1_0) rfl ?_
    show Steps p.tables e below (s₁.setTop (mkF m 1 #[.val (.int p0), .val (.int p1)] [(.int p0)])) _
    refine XS.iloadN X0.here hx rfl (hb hby d1_1) rfl ?_
    show Steps p.tables e below (s₁.setTop (mkF m 2 #[.val (.int p0), .val (.int p1)] [(.int p1), (.int p0)])) _
    refine XS.iushr X0.here hx rfl (hb hby d1_2) rfl ?_
    show Steps p.tables e below (s₁.setTop (mkF m 3 #[.val (.int p0), .val (.int p1)] [(.int ((p0.toUInt32 >>> (p1 &&& 31).toUInt32).toInt32))])) _
    refine XS.iconst X0.here hx rfl (hb hby d1_3) ?_
    show Steps p.tables e below (s₁.setTop (mkF m 4 #[.val (.int p0), .val (.int p1)] [(.int (1 : Int32)), (.int ((p0.toUInt32 >>> (p1 &&& 31).toUInt32).toInt32))])) _
    refine XS.iand X0.here hx rfl (hb hby d1_4) rfl ?_
    exact kt
  by_cases hc2 : (((p0.toUInt32 >>> (p1 &&& 31).toUInt32).toInt32) &&& (1 : Int32)) = (0 : Int32)
  · skip
    have K3 : ∀ t, Steps p.tables e below (s₁.setTop (mkF m 20 #[.val (.int p0), .val (.int p1)] [(.long (0 : Int64))])) t → Steps p.tables e below (s₁.setTop (mkF m 0 #[.val (.int p0), .val (.int p1)] [])) t := by
      intro t kt
      refine K1 _ ?_
      show Steps p.tables e below (s₁.setTop (mkF m 5 #[.val (.int p0), .val (.int p1)] [(.int (((p0.toUInt32 >>> (p1 &&& 31).toUInt32).toInt32) &&& (1 : Int32)))])) _
      refine XS.ifYes X0.here hx rfl (pc0 := 5) (pc' := 19) rfl (hb hby d1_5) rfl ((if0 _ _).trans (teq hc2).1) (by decide) (by decide) ?_
      show Steps p.tables e below (s₁.setTop (mkF m 19 #[.val (.int p0), .val (.int p1)] [])) _
      refine XS.lconst X0.here hx rfl (hb hby d1_19) ?_
      exact kt
    have hv : f1 p0 p1 = (0 : Int64) := by simp only [f1, if_pos hc2]
    obtain ⟨fs, hr, hrun, hended, hW, hsame⟩ := X0.leave (v := some (.long (0 : Int64))) (fun h => by rw [Bd.returns] at h; cases h)
    refine ⟨_, _, pre0 _ (K3 _ ?_), hrun, hended, _, _, rfl, ?_, ⟨_, rfl⟩, hW, hsame.mono (by decide) (by decide)⟩
    · show Steps p.tables e below (s₁.setTop (mkF m 20 #[.val (.int p0), .val (.int p1)] [(.long (0 : Int64))])) _
      exact retOut X0 hx Bd.returns rfl (Or.inr (Or.inl ⟨rfl, rfl, _, rfl⟩)) (hb hby d1_20) hr
    · show Q1 Z p0 p1  h0 _ s₁.heap _
      rw [e0]
      exact ⟨by rw [hv], rfl, rfl⟩
  · skip
    have K4 : ∀ t, Steps p.tables e below (s₁.setTop (mkF m 20 #[.val (.int p0), .val (.int p1)] [(.long ((255 : Int64) <<< (((8 : Int32) * p1) &&& 0x3f).toInt64))])) t → Steps p.tables e below (s₁.setTop (mkF m 0 #[.val (.int p0), .val (.int p1)] [])) t := by
      intro t kt
      refine K1 _ ?_
      show Steps p.tables e below (s₁.setTop (mkF m 5 #[.val (.int p0), .val (.int p1)] [(.int (((p0.toUInt32 >>> (p1 &&& 31).toUInt32).toInt32) &&& (1 : Int32)))])) _
      refine XS.ifNo X0.here hx rfl (hb hby d1_5) rfl ((if0 _ _).trans (feq hc2).1) ?_
      show Steps p.tables e below (s₁.setTop (mkF m 8 #[.val (.int p0), .val (.int p1)] [])) _
      refine X0.ldc2Long hx hown (mvT hZ (hw _ (List.mem_of_getElem? (i := 4) rfl))) (g := (mkF m 8 #[.val (.int p0), .val (.int p1)] [])) rfl (hb hby d1_8) _ ?_
      show Steps p.tables e below (s₁.setTop (mkF m 11 #[.val (.int p0), .val (.int p1)] [(.long (255 : Int64))])) _
      refine XS.bipush X0.here hx rfl (hb hby d1_11) ?_
      show Steps p.tables e below (s₁.setTop (mkF m 13 #[.val (.int p0), .val (.int p1)] [(.int (8 : Int32)), (.long (255 : Int64))])) _
      refine XS.iloadN X0.here hx rfl (hb hby d1_13) rfl ?_
      show Steps p.tables e below (s₁.setTop (mkF m 14 #[.val (.int p0), .val (.int p1)] [(.int p1), (.int (8 : Int32)), (.long (255 : Int64))])) _
      refine XS.imul X0.here hx rfl (hb hby d1_14) rfl ?_
      show Steps p.tables e below (s₁.setTop (mkF m 15 #[.val (.int p0), .val (.int p1)] [(.int ((8 : Int32) * p1)), (.long (255 : Int64))])) _
      refine XS.lshl X0.here hx rfl (hb hby d1_15) rfl ?_
      show Steps p.tables e below (s₁.setTop (mkF m 16 #[.val (.int p0), .val (.int p1)] [(.long ((255 : Int64) <<< (((8 : Int32) * p1) &&& 0x3f).toInt64))])) _
      refine XS.goto X0.here hx rfl (pc0 := 16) (pc' := 20) rfl (hb hby d1_16) (by decide) (by decide) ?_
      exact kt
    have hv : f1 p0 p1 = ((255 : Int64) <<< (((8 : Int32) * p1) &&& 0x3f).toInt64) := by simp only [f1, if_neg hc2]
    obtain ⟨fs, hr, hrun, hended, hW, hsame⟩ := X0.leave (v := some (.long ((255 : Int64) <<< (((8 : Int32) * p1) &&& 0x3f).toInt64))) (fun h => by rw [Bd.returns] at h; cases h)
    refine ⟨_, _, pre0 _ (K4 _ ?_), hrun, hended, _, _, rfl, ?_, ⟨_, rfl⟩, hW, hsame.mono (by decide) (by decide)⟩
    · show Steps p.tables e below (s₁.setTop (mkF m 20 #[.val (.int p0), .val (.int p1)] [(.long ((255 : Int64) <<< (((8 : Int32) * p1) &&& 0x3f).toInt64))])) _
      exact retOut X0 hx Bd.returns rfl (Or.inr (Or.inl ⟨rfl, rfl, _, rfl⟩)) (hb hby d1_20) hr
    · show Q1 Z p0 p1  h0 _ s₁.heap _
      rw [e0]
      exact ⟨by rw [hv], rfl, rfl⟩
theorem ef_2 (m : MethodId) (x0 : Int64) (x1 : Int32) : entryFrame m #[(.long x0), (.int x1)] 3 = mkF m 0 #[.val (.long x0), .second, .val (.int x1)] [] := by first | (simp [entryFrame, mkF, argsToLocals, Value.category]; done) | rfl
theorem d2_0 : decode method_3_code 0 = .ok (.lload_n 0, 1) := by decide +kernel
theorem d2_1 : decode method_3_code 1 = .ok (.bipush 8, 2) := by decide +kernel
theorem d2_3 : decode method_3_code 3 = .ok (.iload_n 2, 1) := by decide +kernel
theorem d2_4 : decode method_3_code 4 = .ok (.imul, 1) := by decide +kernel
theorem d2_5 : decode method_3_code 5 = .ok (.lushr, 1) := by decide +kernel
theorem d2_6 : decode method_3_code 6 = .ok (.ldc2_w 7, 3) := by decide +kernel
theorem d2_9 : decode method_3_code 9 = .ok (.land, 1) := by decide +kernel
theorem d2_10 : decode method_3_code 10 = .ok (.lconst 0, 1) := by decide +kernel
theorem d2_11 : decode method_3_code 11 = .ok (.lcmp, 1) := by decide +kernel
theorem d2_12 : decode method_3_code 12 = .ok (.ifCond .ne 14, 3) := by decide +kernel
theorem d2_15 : decode method_3_code 15 = .ok (.ldc2_w 9, 3) := by decide +kernel
theorem d2_18 : decode method_3_code 18 = .ok (.bipush 8, 2) := by decide +kernel
theorem d2_20 : decode method_3_code 20 = .ok (.iload_n 2, 1) := by decide +kernel
theorem d2_21 : decode method_3_code 21 = .ok (.imul, 1) := by decide +kernel
theorem d2_22 : decode method_3_code 22 = .ok (.lshl, 1) := by decide +kernel
theorem d2_23 : decode method_3_code 23 = .ok (.goto 4, 3) := by decide +kernel
theorem d2_27 : decode method_3_code 27 = .ok (.lreturn, 1) := by decide +kernel
theorem d2_26 : decode method_3_code 26 = .ok (.lconst 0, 1) := by decide +kernel
def f2 (q0 : Int64) (p1 : Int32) : Int64 := if (((q0.toUInt64 >>> (((8 : Int32) * p1) &&& 0x3f).toInt64.toUInt64).toInt64) &&& (255 : Int64)) = (0 : Int64) then ((128 : Int64) <<< (((8 : Int32) * p1) &&& 0x3f).toInt64)
  else (0 : Int64)
def Q2 (Z : State) (q0 : Int64) (p1 : Int32)  (h0 : Heap) (v : Option Value) (h : Heap) (L : List Loc) : Prop := v = some (.long (f2 q0 p1)) ∧ L = [] ∧ h = h0
set_option maxRecDepth 65536 in
set_option maxHeartbeats 40000000 in
theorem rm2 (l : Launch) (Z : State) (a0 : Array Value) (hw : ∀ d ∈ tables_1, d.before a0 Z = true) (ws : List Jvm.Cond) (q0 : Int64) (p1 : Int32)  (h0 : Heap)  :
    MetFree l (⟨"com/example/troth/troth/EightBytesZeroesPinLaw", "mark", "(JI)J"⟩ : MethodName) (head1 (Jvm.Cond.code (⟨"com/example/troth/troth/EightBytesZeroesPinLaw", "mark", "(JI)J"⟩ : MethodName) method_3_code 3 (some .long) :: ws) ({ frames := 0, cells := 0, slots := 0, locals := 0 } : Room)) (fun a U => a = #[(.long q0), (.int p1)] ∧ Z.Warmed39 U.vm ∧ U.heap = h0) (fun _ _ _ _ _ => True) (fun _ U o U' => ∃ v L, o = .returned v ∧ Q2 Z q0 p1  h0 v U'.heap L ∧ FrameEnd U o U' L ({ frames := 0, cells := 0, slots := 0, locals := 0 } : Room).cells ({ frames := 0, cells := 0, slots := 0, locals := 0 } : Room).slots) := by
  refine MetFree.of_bodySF (plainFor_of_name pn_0) hisR ?_
  intro p e s m args below meth c s₁ Bd hml0 hP hK
  obtain ⟨rfl, hZ, hh⟩ := hP
  have hx := Bd.exec
  have hby := Bd.bytes
  have hml : c.maxLocals = 3 := hml0
  have hown : s.vm.findClass "com/example/troth/troth/EightBytesZeroesPinLaw" = some m.cls := findClass_of_methodNamed Bd.named
  have hnm := (name_of_methodNamed Bd.named Bd.method).1
  have X0 : Stand p l e ({ frames := 0, cells := 0, slots := 0, locals := 0 } : Room) s m #[(.long q0), (.int p1)] below meth c s₁ [] 0 0 := Stand.of_body Bd
  have e0 : s₁.heap = h0 := by rw [← hh, Bd.state]; rfl
  have pre0 : ∀ t, Steps p.tables e below (s₁.setTop (mkF m 0 #[.val (.long q0), .second, .val (.int p1)] [])) t → Steps p.tables e below (s₁.setTop (entryFrame m #[(.long q0), (.int p1)] 3)) t := fun t k => castTop (ef_2 m q0 p1) k
  have K1 : ∀ t, Steps p.tables e below (s₁.setTop (mkF m 12 #[.val (.long q0), .second, .val (.int p1)] [(.int (lcmpW (((q0.toUInt64 >>> (((8 : Int32) * p1) &&& 0x3f).toInt64.toUInt64).toInt64) &&& (255 : Int64)) (0 : Int64)))])) t → Steps p.tables e below (s₁.setTop (mkF m 0 #[.val (.long q0), .second, .val (.int p1)] [])) t := by
    intro t kt
    show Steps p.tables e below (s₁.setTop (mkF m 0 #[.val (.long q0), .second, .val (.int p1)] [])) _
    refine XS.lloadN X0.here hx rfl (hb hby d2_0) rfl ?_
    show Steps p.tables e below (s₁.setTop (mkF m 1 #[.val (.long q0), .second, .val (.int p1)] [(.long q0)])) _
    refine XS.bipush X0.here hx rfl (hb hby d2_1) ?_
    show Steps p.tables e below (s₁.setTop (mkF m 3 #[.val (.long q0), .second, .val (.int p1)] [(.int (8 : Int32)), (.long q0)])) _
    refine XS.iloadN X0.here hx rfl (hb hby d2_3) rfl ?_
    show Steps p.tables e below (s₁.setTop (mkF m 4 #[.val (.long q0), .second, .val (.int p1)] [(.int p1), (.int (8 : Int32)), (.long q0)])) _
    refine XS.imul X0.here hx rfl (hb hby d2_4) rfl ?_
    show Steps p.tables e below (s₁.setTop (mkF m 5 #[.val (.long q0), .second, .val (.int p1)] [(.int ((8 : Int32) * p1)), (.long q0)])) _
    refine XS.lushr X0.here hx rfl (hb hby d2_5) rfl ?_
    show Steps p.tables e below (s₁.setTop (mkF m 6 #[.val (.long q0), .second, .val (.int p1)] [(.long ((q0.toUInt64 >>> (((8 : Int32) * p1) &&& 0x3f).toInt64.toUInt64).toInt64))])) _
    refine X0.ldc2Long hx hown (mvT hZ (hw _ (List.mem_of_getElem? (i := 4) rfl))) (g := (mkF m 6 #[.val (.long q0), .second, .val (.int p1)] [(.long ((q0.toUInt64 >>> (((8 : Int32) * p1) &&& 0x3f).toInt64.toUInt64).toInt64))])) rfl (hb hby d2_6) _ ?_
    show Steps p.tables e below (s₁.setTop (mkF m 9 #[.val (.long q0), .second, .val (.int p1)] [(.long (255 : Int64)), (.long ((q0.toUInt64 >>> (((8 : Int32) * p1) &&& 0x3f).toInt64.toUInt64).toInt64))])) _
    refine XS.land X0.here hx rfl (hb hby d2_9) rfl ?_
    show Steps p.tables e below (s₁.setTop (mkF m 10 #[.val (.long q0), .second, .val (.int p1)] [(.long (((q0.toUInt64 >>> (((8 : Int32) * p1) &&& 0x3f).toInt64.toUInt64).toInt64) &&& (255 : Int64)))])) _
    refine XS.lconst X0.here hx rfl (hb hby d2_10) ?_
    show Steps p.tables e below (s₁.setTop (mkF m 11 #[.val (.long q0), .second, .val (.int p1)] [(.long (0 : Int64)), (.long (((q0.toUInt64 >>> (((8 : Int32) * p1) &&& 0x3f).toInt64.toUInt64).toInt64) &&& (255 : Int64)))])) _
    refine XS.lcmp X0.here hx rfl (hb hby d2_11) rfl ?_
    exact kt
  by_cases hc2 : (((q0.toUInt64 >>> (((8 : Int32) * p1) &&& 0x3f).toInt64.toUInt64).toInt64) &&& (255 : Int64)) = (0 : Int64)
  · skip
    have K3 : ∀ t, Steps p.tables e below (s₁.setTop (mkF m 27 #[.val (.long q0), .second, .val (.int p1)] [(.long ((128 : Int64) <<< (((8 : Int32) * p1) &&& 0x3f).toInt64))])) t → Steps p.tables e below (s₁.setTop (mkF m 0 #[.val (.long q0), .second, .val (.int p1)] [])) t := by
      intro t kt
      refine K1 _ ?_
      show Steps p.tables e below (s₁.setTop (mkF m 12 #[.val (.long q0), .second, .val (.int p1)] [(.int (lcmpW (((q0.toUInt64 >>> (((8 : Int32) * p1) &&& 0x3f).toInt64.toUInt64).toInt64) &&& (255 : Int64)) (0 : Int64)))])) _
      refine XS.ifNo X0.here hx rfl (hb hby d2_12) rfl ((if0 _ _).trans (teq ((lw_eq _ _).mpr hc2)).2) ?_
      show Steps p.tables e below (s₁.setTop (mkF m 15 #[.val (.long q0), .second, .val (.int p1)] [])) _
      refine X0.ldc2Long hx hown (mvT hZ (hw _ (List.mem_of_getElem? (i := 9) rfl))) (g := (mkF m 15 #[.val (.long q0), .second, .val (.int p1)] [])) rfl (hb hby d2_15) _ ?_
      show Steps p.tables e below (s₁.setTop (mkF m 18 #[.val (.long q0), .second, .val (.int p1)] [(.long (128 : Int64))])) _
      refine XS.bipush X0.here hx rfl (hb hby d2_18) ?_
      show Steps p.tables e below (s₁.setTop (mkF m 20 #[.val (.long q0), .second, .val (.int p1)] [(.int (8 : Int32)), (.long (128 : Int64))])) _
      refine XS.iloadN X0.here hx rfl (hb hby d2_20) rfl ?_
      show Steps p.tables e below (s₁.setTop (mkF m 21 #[.val (.long q0), .second, .val (.int p1)] [(.int p1), (.int (8 : Int32)), (.long (128 : Int64))])) _
      refine XS.imul X0.here hx rfl (hb hby d2_21) rfl ?_
      show Steps p.tables e below (s₁.setTop (mkF m 22 #[.val (.long q0), .second, .val (.int p1)] [(.int ((8 : Int32) * p1)), (.long (128 : Int64))])) _
      refine XS.lshl X0.here hx rfl (hb hby d2_22) rfl ?_
      show Steps p.tables e below (s₁.setTop (mkF m 23 #[.val (.long q0), .second, .val (.int p1)] [(.long ((128 : Int64) <<< (((8 : Int32) * p1) &&& 0x3f).toInt64))])) _
      refine XS.goto X0.here hx rfl (pc0 := 23) (pc' := 27) rfl (hb hby d2_23) (by decide) (by decide) ?_
      exact kt
    have hv : f2 q0 p1 = ((128 : Int64) <<< (((8 : Int32) * p1) &&& 0x3f).toInt64) := by simp only [f2, if_pos hc2]
    obtain ⟨fs, hr, hrun, hended, hW, hsame⟩ := X0.leave (v := some (.long ((128 : Int64) <<< (((8 : Int32) * p1) &&& 0x3f).toInt64))) (fun h => by rw [Bd.returns] at h; cases h)
    refine ⟨_, _, pre0 _ (K3 _ ?_), hrun, hended, _, _, rfl, ?_, ⟨_, rfl⟩, hW, hsame.mono (by decide) (by decide)⟩
    · show Steps p.tables e below (s₁.setTop (mkF m 27 #[.val (.long q0), .second, .val (.int p1)] [(.long ((128 : Int64) <<< (((8 : Int32) * p1) &&& 0x3f).toInt64))])) _
      exact retOut X0 hx Bd.returns rfl (Or.inr (Or.inl ⟨rfl, rfl, _, rfl⟩)) (hb hby d2_27) hr
    · show Q2 Z q0 p1  h0 _ s₁.heap _
      rw [e0]
      exact ⟨by rw [hv], rfl, rfl⟩
  · skip
    have K4 : ∀ t, Steps p.tables e below (s₁.setTop (mkF m 27 #[.val (.long q0), .second, .val (.int p1)] [(.long (0 : Int64))])) t → Steps p.tables e below (s₁.setTop (mkF m 0 #[.val (.long q0), .second, .val (.int p1)] [])) t := by
      intro t kt
      refine K1 _ ?_
      show Steps p.tables e below (s₁.setTop (mkF m 12 #[.val (.long q0), .second, .val (.int p1)] [(.int (lcmpW (((q0.toUInt64 >>> (((8 : Int32) * p1) &&& 0x3f).toInt64.toUInt64).toInt64) &&& (255 : Int64)) (0 : Int64)))])) _
      refine XS.ifYes X0.here hx rfl (pc0 := 12) (pc' := 26) rfl (hb hby d2_12) rfl ((if0 _ _).trans (feq (mt (lw_eq _ _).mp hc2)).2) (by decide) (by decide) ?_
      show Steps p.tables e below (s₁.setTop (mkF m 26 #[.val (.long q0), .second, .val (.int p1)] [])) _
      refine XS.lconst X0.here hx rfl (hb hby d2_26) ?_
      exact kt
    have hv : f2 q0 p1 = (0 : Int64) := by simp only [f2, if_neg hc2]
    obtain ⟨fs, hr, hrun, hended, hW, hsame⟩ := X0.leave (v := some (.long (0 : Int64))) (fun h => by rw [Bd.returns] at h; cases h)
    refine ⟨_, _, pre0 _ (K4 _ ?_), hrun, hended, _, _, rfl, ?_, ⟨_, rfl⟩, hW, hsame.mono (by decide) (by decide)⟩
    · show Steps p.tables e below (s₁.setTop (mkF m 27 #[.val (.long q0), .second, .val (.int p1)] [(.long (0 : Int64))])) _
      exact retOut X0 hx Bd.returns rfl (Or.inr (Or.inl ⟨rfl, rfl, _, rfl⟩)) (hb hby d2_27) hr
    · show Q2 Z q0 p1  h0 _ s₁.heap _
      rw [e0]
      exact ⟨by rw [hv], rfl, rfl⟩
theorem ef_3 (m : MethodId) (x0 : Int64) : entryFrame m #[(.long x0)] 2 = mkF m 0 #[.val (.long x0), .second] [] := by first | (simp [entryFrame, mkF, argsToLocals, Value.category]; done) | rfl
theorem pn_1 : plainName "com/example/troth/troth/EightBytes" = true := by first | (simp [plainName, overriddenIn]; done) | decide +kernel
theorem d3_0 : decode prog_25_method_5_code 0 = .ok (.lload_n 0, 1) := by decide +kernel
theorem d3_1 : decode prog_25_method_5_code 1 = .ok (.ldc2_w 29, 3) := by decide +kernel
theorem d3_4 : decode prog_25_method_5_code 4 = .ok (.land, 1) := by decide +kernel
theorem d3_5 : decode prog_25_method_5_code 5 = .ok (.ldc2_w 29, 3) := by decide +kernel
theorem d3_8 : decode prog_25_method_5_code 8 = .ok (.ladd, 1) := by decide +kernel
theorem d3_9 : decode prog_25_method_5_code 9 = .ok (.lload_n 0, 1) := by decide +kernel
theorem d3_10 : decode prog_25_method_5_code 10 = .ok (.lor, 1) := by decide +kernel
theorem d3_11 : decode prog_25_method_5_code 11 = .ok (.ldc2_w 29, 3) := by decide +kernel
theorem d3_14 : decode prog_25_method_5_code 14 = .ok (.lor, 1) := by decide +kernel
theorem d3_15 : decode prog_25_method_5_code 15 = .ok (.ldc2_w 31, 3) := by decide +kernel
theorem d3_18 : decode prog_25_method_5_code 18 = .ok (.lxor, 1) := by decide +kernel
theorem d3_19 : decode prog_25_method_5_code 19 = .ok (.lreturn, 1) := by decide +kernel
def f3 (q0 : Int64) : Int64 := (((((q0 &&& (9187201950435737471 : Int64)) + (9187201950435737471 : Int64)) ||| q0) ||| (9187201950435737471 : Int64)) ^^^ (-1 : Int64))
def Q3 (Z : State) (q0 : Int64)  (h0 : Heap) (v : Option Value) (h : Heap) (L : List Loc) : Prop := v = some (.long (f3 q0)) ∧ L = [] ∧ h = h0
set_option maxRecDepth 65536 in
set_option maxHeartbeats 40000000 in
theorem rm3 (l : Launch) (Z : State) (a0 : Array Value) (hw : ∀ d ∈ tables_1, d.before a0 Z = true) (ws : List Jvm.Cond) (q0 : Int64)  (h0 : Heap)  :
    MetFree l (⟨"com/example/troth/troth/EightBytes", "zeroes", "(J)J"⟩ : MethodName) (head1 (Jvm.Cond.code (⟨"com/example/troth/troth/EightBytes", "zeroes", "(J)J"⟩ : MethodName) prog_25_method_5_code 2 (some .long) :: ws) ({ frames := 0, cells := 0, slots := 0, locals := 0 } : Room)) (fun a U => a = #[(.long q0)] ∧ Z.Warmed39 U.vm ∧ U.heap = h0) (fun _ _ _ _ _ => True) (fun _ U o U' => ∃ v L, o = .returned v ∧ Q3 Z q0  h0 v U'.heap L ∧ FrameEnd U o U' L ({ frames := 0, cells := 0, slots := 0, locals := 0 } : Room).cells ({ frames := 0, cells := 0, slots := 0, locals := 0 } : Room).slots) := by
  refine MetFree.of_bodySF (plainFor_of_name pn_1) hisR ?_
  intro p e s m args below meth c s₁ Bd hml0 hP hK
  obtain ⟨rfl, hZ, hh⟩ := hP
  have hx := Bd.exec
  have hby := Bd.bytes
  have hml : c.maxLocals = 2 := hml0
  have hown : s.vm.findClass "com/example/troth/troth/EightBytes" = some m.cls := findClass_of_methodNamed Bd.named
  have hnm := (name_of_methodNamed Bd.named Bd.method).1
  have X0 : Stand p l e ({ frames := 0, cells := 0, slots := 0, locals := 0 } : Room) s m #[(.long q0)] below meth c s₁ [] 0 0 := Stand.of_body Bd
  have e0 : s₁.heap = h0 := by rw [← hh, Bd.state]; rfl
  have pre0 : ∀ t, Steps p.tables e below (s₁.setTop (mkF m 0 #[.val (.long q0), .second] [])) t → Steps p.tables e below (s₁.setTop (entryFrame m #[(.long q0)] 2)) t := fun t k => castTop (ef_3 m q0) k
  have K1 : ∀ t, Steps p.tables e below (s₁.setTop (mkF m 19 #[.val (.long q0), .second] [(.long (((((q0 &&& (9187201950435737471 : Int64)) + (9187201950435737471 : Int64)) ||| q0) ||| (9187201950435737471 : Int64)) ^^^ (-1 : Int64)))])) t → Steps p.tables e below (s₁.setTop (mkF m 0 #[.val (.long q0), .second] [])) t := by
    intro t kt
    show Steps p.tables e below (s₁.setTop (mkF m 0 #[.val (.long q0), .second] [])) _
    refine XS.lloadN X0.here hx rfl (hb hby d3_0) rfl ?_
    show Steps p.tables e below (s₁.setTop (mkF m 1 #[.val (.long q0), .second] [(.long q0)])) _
    refine X0.ldc2Long hx hown (mvT hZ (hw _ (List.mem_of_getElem? (i := 14) rfl))) (g := (mkF m 1 #[.val (.long q0), .second] [(.long q0)])) rfl (hb hby d3_1) _ ?_
    show Steps p.tables e below (s₁.setTop (mkF m 4 #[.val (.long q0), .second] [(.long (9187201950435737471 : Int64)), (.long q0)])) _
    refine XS.land X0.here hx rfl (hb hby d3_4) rfl ?_
    show Steps p.tables e below (s₁.setTop (mkF m 5 #[.val (.long q0), .second] [(.long (q0 &&& (9187201950435737471 : Int64)))])) _
    refine X0.ldc2Long hx hown (mvT hZ (hw _ (List.mem_of_getElem? (i := 14) rfl))) (g := (mkF m 5 #[.val (.long q0), .second] [(.long (q0 &&& (9187201950435737471 : Int64)))])) rfl (hb hby d3_5) _ ?_
    show Steps p.tables e below (s₁.setTop (mkF m 8 #[.val (.long q0), .second] [(.long (9187201950435737471 : Int64)), (.long (q0 &&& (9187201950435737471 : Int64)))])) _
    refine XS.ladd X0.here hx rfl (hb hby d3_8) rfl ?_
    show Steps p.tables e below (s₁.setTop (mkF m 9 #[.val (.long q0), .second] [(.long ((q0 &&& (9187201950435737471 : Int64)) + (9187201950435737471 : Int64)))])) _
    refine XS.lloadN X0.here hx rfl (hb hby d3_9) rfl ?_
    show Steps p.tables e below (s₁.setTop (mkF m 10 #[.val (.long q0), .second] [(.long q0), (.long ((q0 &&& (9187201950435737471 : Int64)) + (9187201950435737471 : Int64)))])) _
    refine XS.lor X0.here hx rfl (hb hby d3_10) rfl ?_
    show Steps p.tables e below (s₁.setTop (mkF m 11 #[.val (.long q0), .second] [(.long (((q0 &&& (9187201950435737471 : Int64)) + (9187201950435737471 : Int64)) ||| q0))])) _
    refine X0.ldc2Long hx hown (mvT hZ (hw _ (List.mem_of_getElem? (i := 14) rfl))) (g := (mkF m 11 #[.val (.long q0), .second] [(.long (((q0 &&& (9187201950435737471 : Int64)) + (9187201950435737471 : Int64)) ||| q0))])) rfl (hb hby d3_11) _ ?_
    show Steps p.tables e below (s₁.setTop (mkF m 14 #[.val (.long q0), .second] [(.long (9187201950435737471 : Int64)), (.long (((q0 &&& (9187201950435737471 : Int64)) + (9187201950435737471 : Int64)) ||| q0))])) _
    refine XS.lor X0.here hx rfl (hb hby d3_14) rfl ?_
    show Steps p.tables e below (s₁.setTop (mkF m 15 #[.val (.long q0), .second] [(.long ((((q0 &&& (9187201950435737471 : Int64)) + (9187201950435737471 : Int64)) ||| q0) ||| (9187201950435737471 : Int64)))])) _
    refine X0.ldc2Long hx hown (mvT hZ (hw _ (List.mem_of_getElem? (i := 15) rfl))) (g := (mkF m 15 #[.val (.long q0), .second] [(.long ((((q0 &&& (9187201950435737471 : Int64)) + (9187201950435737471 : Int64)) ||| q0) ||| (9187201950435737471 : Int64)))])) rfl (hb hby d3_15) _ ?_
    show Steps p.tables e below (s₁.setTop (mkF m 18 #[.val (.long q0), .second] [(.long (-1 : Int64)), (.long ((((q0 &&& (9187201950435737471 : Int64)) + (9187201950435737471 : Int64)) ||| q0) ||| (9187201950435737471 : Int64)))])) _
    refine XS.lxor X0.here hx rfl (hb hby d3_18) rfl ?_
    exact kt
  have hv : f3 q0 = (((((q0 &&& (9187201950435737471 : Int64)) + (9187201950435737471 : Int64)) ||| q0) ||| (9187201950435737471 : Int64)) ^^^ (-1 : Int64)) := rfl
  obtain ⟨fs, hr, hrun, hended, hW, hsame⟩ := X0.leave (v := some (.long (((((q0 &&& (9187201950435737471 : Int64)) + (9187201950435737471 : Int64)) ||| q0) ||| (9187201950435737471 : Int64)) ^^^ (-1 : Int64)))) (fun h => by rw [Bd.returns] at h; cases h)
  refine ⟨_, _, pre0 _ (K1 _ ?_), hrun, hended, _, _, rfl, ?_, ⟨_, rfl⟩, hW, hsame.mono (by decide) (by decide)⟩
  · show Steps p.tables e below (s₁.setTop (mkF m 19 #[.val (.long q0), .second] [(.long (((((q0 &&& (9187201950435737471 : Int64)) + (9187201950435737471 : Int64)) ||| q0) ||| (9187201950435737471 : Int64)) ^^^ (-1 : Int64)))])) _
    exact retOut X0 hx Bd.returns rfl (Or.inr (Or.inl ⟨rfl, rfl, _, rfl⟩)) (hb hby d3_19) hr
  · show Q3 Z q0  h0 _ s₁.heap _
    rw [e0]
    exact ⟨by rw [hv], rfl, rfl⟩
theorem ef_0 (m : MethodId) (x0 : Int64) (x1 : Int32) : entryFrame m #[(.long x0), (.int x1)] maxLocals = mkF m 0 #[.val (.long x0), .second, .val (.int x1), .unset, .unset, .unset, .unset, .unset, .unset] [] := by first | (simp [entryFrame, mkF, argsToLocals, Value.category, maxLocals]; done) | rfl
theorem pd_0 : parseMethodDescriptor "(II)J" = some ⟨[.int, .int], some .long⟩ := by decide +kernel
def gc (q0 : Int64) (p1 : Int32) : Int64 := ((((((((f1 p1 (0 : Int32)) ||| (f1 p1 (1 : Int32))) ||| (f1 p1 (2 : Int32))) ||| (f1 p1 (3 : Int32))) ||| (f1 p1 (4 : Int32))) ||| (f1 p1 (5 : Int32))) ||| (f1 p1 (6 : Int32))) ||| (f1 p1 (7 : Int32)))
def gv (q0 : Int64) (p1 : Int32) : Int64 := (q0 &&& ((gc q0 p1) ^^^ (-1 : Int64)))
theorem pd_1 : parseMethodDescriptor "(JI)J" = some ⟨[.long, .int], some .long⟩ := by decide +kernel
theorem pd_2 : parseMethodDescriptor "(J)J" = some ⟨[.long], some .long⟩ := by decide +kernel
def f0 (q0 : Int64) (p1 : Int32) : Int32 := if (f3 (gv q0 p1)) = ((((((((f2 (gv q0 p1) (0 : Int32)) ||| (f2 (gv q0 p1) (1 : Int32))) ||| (f2 (gv q0 p1) (2 : Int32))) ||| (f2 (gv q0 p1) (3 : Int32))) ||| (f2 (gv q0 p1) (4 : Int32))) ||| (f2 (gv q0 p1) (5 : Int32))) ||| (f2 (gv q0 p1) (6 : Int32))) ||| (f2 (gv q0 p1) (7 : Int32))) then (1 : Int32)
  else (0 : Int32)
def Q0 (Z : State) (q0 : Int64) (p1 : Int32)  (h0 : Heap) (v : Option Value) (h : Heap) (L : List Loc) : Prop := v = some (.int (f0 q0 p1)) ∧ L = [] ∧ h = h0
set_option maxRecDepth 65536 in
set_option maxHeartbeats 40000000 in
theorem rm0 (l : Launch) (Z : State) (a0 : Array Value) (hw : ∀ d ∈ tables_1, d.before a0 Z = true) (ws : List Jvm.Cond) (q0 : Int64) (p1 : Int32)  (h0 : Heap)  :
    MetFree l x (head1 (Jvm.Cond.code x code maxLocals ret :: ws) room_1) (fun a U => a = #[(.long q0), (.int p1)] ∧ Z.Warmed39 U.vm ∧ U.heap = h0) (fun _ _ _ _ _ => True) (fun _ U o U' => ∃ v L, o = .returned v ∧ Q0 Z q0 p1  h0 v U'.heap L ∧ FrameEnd U o U' L room_1.cells room_1.slots) := by
  refine MetFree.of_bodySF (plainFor_of_name pn_0) hisR ?_
  intro p e s m args below meth c s₁ Bd hml0 hP hK
  obtain ⟨rfl, hZ, hh⟩ := hP
  have hx := Bd.exec
  have hby := Bd.bytes
  have hml : c.maxLocals = 9 := hml0
  have hown : s.vm.findClass "com/example/troth/troth/EightBytesZeroesPinLaw" = some m.cls := findClass_of_methodNamed Bd.named
  have hnm := (name_of_methodNamed Bd.named Bd.method).1
  have X0 : Stand p l e room_1 s m #[(.long q0), (.int p1)] below meth c s₁ [] 0 0 := Stand.of_body Bd
  have e0 : s₁.heap = h0 := by rw [← hh, Bd.state]; rfl
  have pre0 : ∀ t, Steps p.tables e below (s₁.setTop (mkF m 0 #[.val (.long q0), .second, .val (.int p1), .unset, .unset, .unset, .unset, .unset, .unset] [])) t → Steps p.tables e below (s₁.setTop (entryFrame m #[(.long q0), (.int p1)] maxLocals)) t := fun t k => castTop (ef_0 m q0 p1) k
  obtain ⟨_, _, ⟨T1, L1, k1, n1⟩, -, X1, ⟨Lc1, hQ1, l1, y1, z1⟩, st1⟩ := Jvm.LawKit.callS X0 hx (y := (⟨"com/example/troth/troth/EightBytesZeroesPinLaw", "cleared", "(II)J"⟩ : MethodName)) hown (mvT hZ (hw _ (List.mem_of_getElem? (i := 0) rfl))) (mvT hZ (hw _ (List.mem_of_getElem? (i := 1) rfl))) (mvT hZ (hw _ (List.mem_of_getElem? (i := 2) rfl))) (mvT hZ (hw _ (List.mem_of_getElem? (i := 3) rfl))) (by decide) (backOf (W := 0) (rm1 l Z a0 hw [] p1 (0 : Int32)  h0 ) hZ (hw _ (List.mem_of_getElem? (i := 3) rfl)) (hw _ (List.mem_of_getElem? (i := 2) rfl)) (by decide) (by decide)) (g := (mkF m 2 #[.val (.long q0), .second, .val (.int p1), .unset, .unset, .unset, .unset, .unset, .unset] [(.int (0 : Int32)), (.int p1)])) rfl (by rw [hml]; rfl) (argsL := [(.int p1), (.int (0 : Int32))]) (rest := []) (lenOf pd_0 rfl) rfl (by show 2 * 0 + _ ≤ _; exact Nat.le_of_eq rfl) (hb hby at_2) (fun _ _ => ⟨rfl, e0, (by decide : 0 + 0 ≤ _), (by decide : 0 + 0 ≤ _)⟩)
  dsimp only [Pt.U, Pt.locs, Pt.cells, Pt.slots] at X1 l1 y1 z1 st1 hQ1
  subst l1 y1 z1
  obtain ⟨rfl, rfl, e1⟩ := hQ1
  try rw [List.append_nil] at X1
  obtain ⟨_, _, ⟨T2, L2, k2, n2⟩, -, X2, ⟨Lc2, hQ2, l2, y2, z2⟩, st2⟩ := Jvm.LawKit.callS X1 hx (y := (⟨"com/example/troth/troth/EightBytesZeroesPinLaw", "cleared", "(II)J"⟩ : MethodName)) hown (mvT hZ (hw _ (List.mem_of_getElem? (i := 0) rfl))) (mvT hZ (hw _ (List.mem_of_getElem? (i := 1) rfl))) (mvT hZ (hw _ (List.mem_of_getElem? (i := 2) rfl))) (mvT hZ (hw _ (List.mem_of_getElem? (i := 3) rfl))) (by decide) (backOf (W := 2) (rm1 l Z a0 hw [] p1 (1 : Int32)  h0 ) hZ (hw _ (List.mem_of_getElem? (i := 3) rfl)) (hw _ (List.mem_of_getElem? (i := 2) rfl)) (by decide) (by decide)) (g := (mkF m 7 #[.val (.long q0), .second, .val (.int p1), .unset, .unset, .unset, .unset, .unset, .unset] [(.int (1 : Int32)), (.int p1), (.long (f1 p1 (0 : Int32)))])) rfl (by rw [hml]; rfl) (argsL := [(.int p1), (.int (1 : Int32))]) (rest := [(.long (f1 p1 (0 : Int32)))]) (lenOf pd_0 rfl) rfl (by show 2 * 0 + _ ≤ _; exact Nat.le_of_eq rfl) (hb hby at_7) (fun _ _ => ⟨rfl, e1, (by decide : 0 + 0 ≤ _), (by decide : 0 + 0 ≤ _)⟩)
  dsimp only [Pt.U, Pt.locs, Pt.cells, Pt.slots] at X2 l2 y2 z2 st2 hQ2
  subst l2 y2 z2
  obtain ⟨rfl, rfl, e2⟩ := hQ2
  try rw [List.append_nil] at X2
  obtain ⟨_, _, ⟨T3, L3, k3, n3⟩, -, X3, ⟨Lc3, hQ3, l3, y3, z3⟩, st3⟩ := Jvm.LawKit.callS X2 hx (y := (⟨"com/example/troth/troth/EightBytesZeroesPinLaw", "cleared", "(II)J"⟩ : MethodName)) hown (mvT hZ (hw _ (List.mem_of_getElem? (i := 0) rfl))) (mvT hZ (hw _ (List.mem_of_getElem? (i := 1) rfl))) (mvT hZ (hw _ (List.mem_of_getElem? (i := 2) rfl))) (mvT hZ (hw _ (List.mem_of_getElem? (i := 3) rfl))) (by decide) (backOf (W := 2) (rm1 l Z a0 hw [] p1 (2 : Int32)  h0 ) hZ (hw _ (List.mem_of_getElem? (i := 3) rfl)) (hw _ (List.mem_of_getElem? (i := 2) rfl)) (by decide) (by decide)) (g := (mkF m 13 #[.val (.long q0), .second, .val (.int p1), .unset, .unset, .unset, .unset, .unset, .unset] [(.int (2 : Int32)), (.int p1), (.long ((f1 p1 (0 : Int32)) ||| (f1 p1 (1 : Int32))))])) rfl (by rw [hml]; rfl) (argsL := [(.int p1), (.int (2 : Int32))]) (rest := [(.long ((f1 p1 (0 : Int32)) ||| (f1 p1 (1 : Int32))))]) (lenOf pd_0 rfl) rfl (by show 2 * 0 + _ ≤ _; exact Nat.le_of_eq rfl) (hb hby at_13) (fun _ _ => ⟨rfl, e2, (by decide : 0 + 0 ≤ _), (by decide : 0 + 0 ≤ _)⟩)
  dsimp only [Pt.U, Pt.locs, Pt.cells, Pt.slots] at X3 l3 y3 z3 st3 hQ3
  subst l3 y3 z3
  obtain ⟨rfl, rfl, e3⟩ := hQ3
  try rw [List.append_nil] at X3
  obtain ⟨_, _, ⟨T4, L4, k4, n4⟩, -, X4, ⟨Lc4, hQ4, l4, y4, z4⟩, st4⟩ := Jvm.LawKit.callS X3 hx (y := (⟨"com/example/troth/troth/EightBytesZeroesPinLaw", "cleared", "(II)J"⟩ : MethodName)) hown (mvT hZ (hw _ (List.mem_of_getElem? (i := 0) rfl))) (mvT hZ (hw _ (List.mem_of_getElem? (i := 1) rfl))) (mvT hZ (hw _ (List.mem_of_getElem? (i := 2) rfl))) (mvT hZ (hw _ (List.mem_of_getElem? (i := 3) rfl))) (by decide) (backOf (W := 2) (rm1 l Z a0 hw [] p1 (3 : Int32)  h0 ) hZ (hw _ (List.mem_of_getElem? (i := 3) rfl)) (hw _ (List.mem_of_getElem? (i := 2) rfl)) (by decide) (by decide)) (g := (mkF m 19 #[.val (.long q0), .second, .val (.int p1), .unset, .unset, .unset, .unset, .unset, .unset] [(.int (3 : Int32)), (.int p1), (.long (((f1 p1 (0 : Int32)) ||| (f1 p1 (1 : Int32))) ||| (f1 p1 (2 : Int32))))])) rfl (by rw [hml]; rfl) (argsL := [(.int p1), (.int (3 : Int32))]) (rest := [(.long (((f1 p1 (0 : Int32)) ||| (f1 p1 (1 : Int32))) ||| (f1 p1 (2 : Int32))))]) (lenOf pd_0 rfl) rfl (by show 2 * 0 + _ ≤ _; exact Nat.le_of_eq rfl) (hb hby at_19) (fun _ _ => ⟨rfl, e3, (by decide : 0 + 0 ≤ _), (by decide : 0 + 0 ≤ _)⟩)
  dsimp only [Pt.U, Pt.locs, Pt.cells, Pt.slots] at X4 l4 y4 z4 st4 hQ4
  subst l4 y4 z4
  obtain ⟨rfl, rfl, e4⟩ := hQ4
  try rw [List.append_nil] at X4
  obtain ⟨_, _, ⟨T5, L5, k5, n5⟩, -, X5, ⟨Lc5, hQ5, l5, y5, z5⟩, st5⟩ := Jvm.LawKit.callS X4 hx (y := (⟨"com/example/troth/troth/EightBytesZeroesPinLaw", "cleared", "(II)J"⟩ : MethodName)) hown (mvT hZ (hw _ (List.mem_of_getElem? (i := 0) rfl))) (mvT hZ (hw _ (List.mem_of_getElem? (i := 1) rfl))) (mvT hZ (hw _ (List.mem_of_getElem? (i := 2) rfl))) (mvT hZ (hw _ (List.mem_of_getElem? (i := 3) rfl))) (by decide) (backOf (W := 2) (rm1 l Z a0 hw [] p1 (4 : Int32)  h0 ) hZ (hw _ (List.mem_of_getElem? (i := 3) rfl)) (hw _ (List.mem_of_getElem? (i := 2) rfl)) (by decide) (by decide)) (g := (mkF m 25 #[.val (.long q0), .second, .val (.int p1), .unset, .unset, .unset, .unset, .unset, .unset] [(.int (4 : Int32)), (.int p1), (.long ((((f1 p1 (0 : Int32)) ||| (f1 p1 (1 : Int32))) ||| (f1 p1 (2 : Int32))) ||| (f1 p1 (3 : Int32))))])) rfl (by rw [hml]; rfl) (argsL := [(.int p1), (.int (4 : Int32))]) (rest := [(.long ((((f1 p1 (0 : Int32)) ||| (f1 p1 (1 : Int32))) ||| (f1 p1 (2 : Int32))) ||| (f1 p1 (3 : Int32))))]) (lenOf pd_0 rfl) rfl (by show 2 * 0 + _ ≤ _; exact Nat.le_of_eq rfl) (hb hby at_25) (fun _ _ => ⟨rfl, e4, (by decide : 0 + 0 ≤ _), (by decide : 0 + 0 ≤ _)⟩)
  dsimp only [Pt.U, Pt.locs, Pt.cells, Pt.slots] at X5 l5 y5 z5 st5 hQ5
  subst l5 y5 z5
  obtain ⟨rfl, rfl, e5⟩ := hQ5
  try rw [List.append_nil] at X5
  obtain ⟨_, _, ⟨T6, L6, k6, n6⟩, -, X6, ⟨Lc6, hQ6, l6, y6, z6⟩, st6⟩ := Jvm.LawKit.callS X5 hx (y := (⟨"com/example/troth/troth/EightBytesZeroesPinLaw", "cleared", "(II)J"⟩ : MethodName)) hown (mvT hZ (hw _ (List.mem_of_getElem? (i := 0) rfl))) (mvT hZ (hw _ (List.mem_of_getElem? (i := 1) rfl))) (mvT hZ (hw _ (List.mem_of_getElem? (i := 2) rfl))) (mvT hZ (hw _ (List.mem_of_getElem? (i := 3) rfl))) (by decide) (backOf (W := 2) (rm1 l Z a0 hw [] p1 (5 : Int32)  h0 ) hZ (hw _ (List.mem_of_getElem? (i := 3) rfl)) (hw _ (List.mem_of_getElem? (i := 2) rfl)) (by decide) (by decide)) (g := (mkF m 31 #[.val (.long q0), .second, .val (.int p1), .unset, .unset, .unset, .unset, .unset, .unset] [(.int (5 : Int32)), (.int p1), (.long (((((f1 p1 (0 : Int32)) ||| (f1 p1 (1 : Int32))) ||| (f1 p1 (2 : Int32))) ||| (f1 p1 (3 : Int32))) ||| (f1 p1 (4 : Int32))))])) rfl (by rw [hml]; rfl) (argsL := [(.int p1), (.int (5 : Int32))]) (rest := [(.long (((((f1 p1 (0 : Int32)) ||| (f1 p1 (1 : Int32))) ||| (f1 p1 (2 : Int32))) ||| (f1 p1 (3 : Int32))) ||| (f1 p1 (4 : Int32))))]) (lenOf pd_0 rfl) rfl (by show 2 * 0 + _ ≤ _; exact Nat.le_of_eq rfl) (hb hby at_31) (fun _ _ => ⟨rfl, e5, (by decide : 0 + 0 ≤ _), (by decide : 0 + 0 ≤ _)⟩)
  dsimp only [Pt.U, Pt.locs, Pt.cells, Pt.slots] at X6 l6 y6 z6 st6 hQ6
  subst l6 y6 z6
  obtain ⟨rfl, rfl, e6⟩ := hQ6
  try rw [List.append_nil] at X6
  obtain ⟨_, _, ⟨T7, L7, k7, n7⟩, -, X7, ⟨Lc7, hQ7, l7, y7, z7⟩, st7⟩ := Jvm.LawKit.callS X6 hx (y := (⟨"com/example/troth/troth/EightBytesZeroesPinLaw", "cleared", "(II)J"⟩ : MethodName)) hown (mvT hZ (hw _ (List.mem_of_getElem? (i := 0) rfl))) (mvT hZ (hw _ (List.mem_of_getElem? (i := 1) rfl))) (mvT hZ (hw _ (List.mem_of_getElem? (i := 2) rfl))) (mvT hZ (hw _ (List.mem_of_getElem? (i := 3) rfl))) (by decide) (backOf (W := 2) (rm1 l Z a0 hw [] p1 (6 : Int32)  h0 ) hZ (hw _ (List.mem_of_getElem? (i := 3) rfl)) (hw _ (List.mem_of_getElem? (i := 2) rfl)) (by decide) (by decide)) (g := (mkF m 38 #[.val (.long q0), .second, .val (.int p1), .unset, .unset, .unset, .unset, .unset, .unset] [(.int (6 : Int32)), (.int p1), (.long ((((((f1 p1 (0 : Int32)) ||| (f1 p1 (1 : Int32))) ||| (f1 p1 (2 : Int32))) ||| (f1 p1 (3 : Int32))) ||| (f1 p1 (4 : Int32))) ||| (f1 p1 (5 : Int32))))])) rfl (by rw [hml]; rfl) (argsL := [(.int p1), (.int (6 : Int32))]) (rest := [(.long ((((((f1 p1 (0 : Int32)) ||| (f1 p1 (1 : Int32))) ||| (f1 p1 (2 : Int32))) ||| (f1 p1 (3 : Int32))) ||| (f1 p1 (4 : Int32))) ||| (f1 p1 (5 : Int32))))]) (lenOf pd_0 rfl) rfl (by show 2 * 0 + _ ≤ _; exact Nat.le_of_eq rfl) (hb hby at_38) (fun _ _ => ⟨rfl, e6, (by decide : 0 + 0 ≤ _), (by decide : 0 + 0 ≤ _)⟩)
  dsimp only [Pt.U, Pt.locs, Pt.cells, Pt.slots] at X7 l7 y7 z7 st7 hQ7
  subst l7 y7 z7
  obtain ⟨rfl, rfl, e7⟩ := hQ7
  try rw [List.append_nil] at X7
  obtain ⟨_, _, ⟨T8, L8, k8, n8⟩, -, X8, ⟨Lc8, hQ8, l8, y8, z8⟩, st8⟩ := Jvm.LawKit.callS X7 hx (y := (⟨"com/example/troth/troth/EightBytesZeroesPinLaw", "cleared", "(II)J"⟩ : MethodName)) hown (mvT hZ (hw _ (List.mem_of_getElem? (i := 0) rfl))) (mvT hZ (hw _ (List.mem_of_getElem? (i := 1) rfl))) (mvT hZ (hw _ (List.mem_of_getElem? (i := 2) rfl))) (mvT hZ (hw _ (List.mem_of_getElem? (i := 3) rfl))) (by decide) (backOf (W := 2) (rm1 l Z a0 hw [] p1 (7 : Int32)  h0 ) hZ (hw _ (List.mem_of_getElem? (i := 3) rfl)) (hw _ (List.mem_of_getElem? (i := 2) rfl)) (by decide) (by decide)) (g := (mkF m 45 #[.val (.long q0), .second, .val (.int p1), .unset, .unset, .unset, .unset, .unset, .unset] [(.int (7 : Int32)), (.int p1), (.long (((((((f1 p1 (0 : Int32)) ||| (f1 p1 (1 : Int32))) ||| (f1 p1 (2 : Int32))) ||| (f1 p1 (3 : Int32))) ||| (f1 p1 (4 : Int32))) ||| (f1 p1 (5 : Int32))) ||| (f1 p1 (6 : Int32))))])) rfl (by rw [hml]; rfl) (argsL := [(.int p1), (.int (7 : Int32))]) (rest := [(.long (((((((f1 p1 (0 : Int32)) ||| (f1 p1 (1 : Int32))) ||| (f1 p1 (2 : Int32))) ||| (f1 p1 (3 : Int32))) ||| (f1 p1 (4 : Int32))) ||| (f1 p1 (5 : Int32))) ||| (f1 p1 (6 : Int32))))]) (lenOf pd_0 rfl) rfl (by show 2 * 0 + _ ≤ _; exact Nat.le_of_eq rfl) (hb hby at_45) (fun _ _ => ⟨rfl, e7, (by decide : 0 + 0 ≤ _), (by decide : 0 + 0 ≤ _)⟩)
  dsimp only [Pt.U, Pt.locs, Pt.cells, Pt.slots] at X8 l8 y8 z8 st8 hQ8
  subst l8 y8 z8
  obtain ⟨rfl, rfl, e8⟩ := hQ8
  try rw [List.append_nil] at X8
  obtain ⟨_, _, ⟨T9, L9, k9, n9⟩, -, X9, ⟨Lc9, hQ9, l9, y9, z9⟩, st9⟩ := Jvm.LawKit.callS X8 hx (y := (⟨"com/example/troth/troth/EightBytesZeroesPinLaw", "mark", "(JI)J"⟩ : MethodName)) hown (mvT hZ (hw _ (List.mem_of_getElem? (i := 6) rfl))) (mvT hZ (hw _ (List.mem_of_getElem? (i := 7) rfl))) (mvT hZ (hw _ (List.mem_of_getElem? (i := 2) rfl))) (mvT hZ (hw _ (List.mem_of_getElem? (i := 8) rfl))) (by decide) (backOf (W := 0) (rm2 l Z a0 hw [] (gv q0 p1) (0 : Int32)  h0 ) hZ (hw _ (List.mem_of_getElem? (i := 8) rfl)) (hw _ (List.mem_of_getElem? (i := 2) rfl)) (by decide) (by decide)) (g := (mkF m 62 #[.val (.long q0), .second, .val (.int p1), .val (.long (gc q0 p1)), .second, .val (.long (gv q0 p1)), .second, .unset, .unset] [(.int (0 : Int32)), (.long (gv q0 p1))])) rfl (by rw [hml]; rfl) (argsL := [(.long (gv q0 p1)), (.int (0 : Int32))]) (rest := []) (lenOf pd_1 rfl) rfl (by show 2 * 0 + _ ≤ _; exact Nat.le_of_eq rfl) (hb hby at_62) (fun _ _ => ⟨rfl, e8, (by decide : 0 + 0 ≤ _), (by decide : 0 + 0 ≤ _)⟩)
  dsimp only [Pt.U, Pt.locs, Pt.cells, Pt.slots] at X9 l9 y9 z9 st9 hQ9
  subst l9 y9 z9
  obtain ⟨rfl, rfl, e9⟩ := hQ9
  try rw [List.append_nil] at X9
  obtain ⟨_, _, ⟨T10, L10, k10, n10⟩, -, X10, ⟨Lc10, hQ10, l10, y10, z10⟩, st10⟩ := Jvm.LawKit.callS X9 hx (y := (⟨"com/example/troth/troth/EightBytesZeroesPinLaw", "mark", "(JI)J"⟩ : MethodName)) hown (mvT hZ (hw _ (List.mem_of_getElem? (i := 6) rfl))) (mvT hZ (hw _ (List.mem_of_getElem? (i := 7) rfl))) (mvT hZ (hw _ (List.mem_of_getElem? (i := 2) rfl))) (mvT hZ (hw _ (List.mem_of_getElem? (i := 8) rfl))) (by decide) (backOf (W := 2) (rm2 l Z a0 hw [] (gv q0 p1) (1 : Int32)  h0 ) hZ (hw _ (List.mem_of_getElem? (i := 8) rfl)) (hw _ (List.mem_of_getElem? (i := 2) rfl)) (by decide) (by decide)) (g := (mkF m 68 #[.val (.long q0), .second, .val (.int p1), .val (.long (gc q0 p1)), .second, .val (.long (gv q0 p1)), .second, .unset, .unset] [(.int (1 : Int32)), (.long (gv q0 p1)), (.long (f2 (gv q0 p1) (0 : Int32)))])) rfl (by rw [hml]; rfl) (argsL := [(.long (gv q0 p1)), (.int (1 : Int32))]) (rest := [(.long (f2 (gv q0 p1) (0 : Int32)))]) (lenOf pd_1 rfl) rfl (by show 2 * 0 + _ ≤ _; exact Nat.le_of_eq rfl) (hb hby at_68) (fun _ _ => ⟨rfl, e9, (by decide : 0 + 0 ≤ _), (by decide : 0 + 0 ≤ _)⟩)
  dsimp only [Pt.U, Pt.locs, Pt.cells, Pt.slots] at X10 l10 y10 z10 st10 hQ10
  subst l10 y10 z10
  obtain ⟨rfl, rfl, e10⟩ := hQ10
  try rw [List.append_nil] at X10
  obtain ⟨_, _, ⟨T11, L11, k11, n11⟩, -, X11, ⟨Lc11, hQ11, l11, y11, z11⟩, st11⟩ := Jvm.LawKit.callS X10 hx (y := (⟨"com/example/troth/troth/EightBytesZeroesPinLaw", "mark", "(JI)J"⟩ : MethodName)) hown (mvT hZ (hw _ (List.mem_of_getElem? (i := 6) rfl))) (mvT hZ (hw _ (List.mem_of_getElem? (i := 7) rfl))) (mvT hZ (hw _ (List.mem_of_getElem? (i := 2) rfl))) (mvT hZ (hw _ (List.mem_of_getElem? (i := 8) rfl))) (by decide) (backOf (W := 2) (rm2 l Z a0 hw [] (gv q0 p1) (2 : Int32)  h0 ) hZ (hw _ (List.mem_of_getElem? (i := 8) rfl)) (hw _ (List.mem_of_getElem? (i := 2) rfl)) (by decide) (by decide)) (g := (mkF m 75 #[.val (.long q0), .second, .val (.int p1), .val (.long (gc q0 p1)), .second, .val (.long (gv q0 p1)), .second, .unset, .unset] [(.int (2 : Int32)), (.long (gv q0 p1)), (.long ((f2 (gv q0 p1) (0 : Int32)) ||| (f2 (gv q0 p1) (1 : Int32))))])) rfl (by rw [hml]; rfl) (argsL := [(.long (gv q0 p1)), (.int (2 : Int32))]) (rest := [(.long ((f2 (gv q0 p1) (0 : Int32)) ||| (f2 (gv q0 p1) (1 : Int32))))]) (lenOf pd_1 rfl) rfl (by show 2 * 0 + _ ≤ _; exact Nat.le_of_eq rfl) (hb hby at_75) (fun _ _ => ⟨rfl, e10, (by decide : 0 + 0 ≤ _), (by decide : 0 + 0 ≤ _)⟩)
  dsimp only [Pt.U, Pt.locs, Pt.cells, Pt.slots] at X11 l11 y11 z11 st11 hQ11
  subst l11 y11 z11
  obtain ⟨rfl, rfl, e11⟩ := hQ11
  try rw [List.append_nil] at X11
  obtain ⟨_, _, ⟨T12, L12, k12, n12⟩, -, X12, ⟨Lc12, hQ12, l12, y12, z12⟩, st12⟩ := Jvm.LawKit.callS X11 hx (y := (⟨"com/example/troth/troth/EightBytesZeroesPinLaw", "mark", "(JI)J"⟩ : MethodName)) hown (mvT hZ (hw _ (List.mem_of_getElem? (i := 6) rfl))) (mvT hZ (hw _ (List.mem_of_getElem? (i := 7) rfl))) (mvT hZ (hw _ (List.mem_of_getElem? (i := 2) rfl))) (mvT hZ (hw _ (List.mem_of_getElem? (i := 8) rfl))) (by decide) (backOf (W := 2) (rm2 l Z a0 hw [] (gv q0 p1) (3 : Int32)  h0 ) hZ (hw _ (List.mem_of_getElem? (i := 8) rfl)) (hw _ (List.mem_of_getElem? (i := 2) rfl)) (by decide) (by decide)) (g := (mkF m 82 #[.val (.long q0), .second, .val (.int p1), .val (.long (gc q0 p1)), .second, .val (.long (gv q0 p1)), .second, .unset, .unset] [(.int (3 : Int32)), (.long (gv q0 p1)), (.long (((f2 (gv q0 p1) (0 : Int32)) ||| (f2 (gv q0 p1) (1 : Int32))) ||| (f2 (gv q0 p1) (2 : Int32))))])) rfl (by rw [hml]; rfl) (argsL := [(.long (gv q0 p1)), (.int (3 : Int32))]) (rest := [(.long (((f2 (gv q0 p1) (0 : Int32)) ||| (f2 (gv q0 p1) (1 : Int32))) ||| (f2 (gv q0 p1) (2 : Int32))))]) (lenOf pd_1 rfl) rfl (by show 2 * 0 + _ ≤ _; exact Nat.le_of_eq rfl) (hb hby at_82) (fun _ _ => ⟨rfl, e11, (by decide : 0 + 0 ≤ _), (by decide : 0 + 0 ≤ _)⟩)
  dsimp only [Pt.U, Pt.locs, Pt.cells, Pt.slots] at X12 l12 y12 z12 st12 hQ12
  subst l12 y12 z12
  obtain ⟨rfl, rfl, e12⟩ := hQ12
  try rw [List.append_nil] at X12
  obtain ⟨_, _, ⟨T13, L13, k13, n13⟩, -, X13, ⟨Lc13, hQ13, l13, y13, z13⟩, st13⟩ := Jvm.LawKit.callS X12 hx (y := (⟨"com/example/troth/troth/EightBytesZeroesPinLaw", "mark", "(JI)J"⟩ : MethodName)) hown (mvT hZ (hw _ (List.mem_of_getElem? (i := 6) rfl))) (mvT hZ (hw _ (List.mem_of_getElem? (i := 7) rfl))) (mvT hZ (hw _ (List.mem_of_getElem? (i := 2) rfl))) (mvT hZ (hw _ (List.mem_of_getElem? (i := 8) rfl))) (by decide) (backOf (W := 2) (rm2 l Z a0 hw [] (gv q0 p1) (4 : Int32)  h0 ) hZ (hw _ (List.mem_of_getElem? (i := 8) rfl)) (hw _ (List.mem_of_getElem? (i := 2) rfl)) (by decide) (by decide)) (g := (mkF m 89 #[.val (.long q0), .second, .val (.int p1), .val (.long (gc q0 p1)), .second, .val (.long (gv q0 p1)), .second, .unset, .unset] [(.int (4 : Int32)), (.long (gv q0 p1)), (.long ((((f2 (gv q0 p1) (0 : Int32)) ||| (f2 (gv q0 p1) (1 : Int32))) ||| (f2 (gv q0 p1) (2 : Int32))) ||| (f2 (gv q0 p1) (3 : Int32))))])) rfl (by rw [hml]; rfl) (argsL := [(.long (gv q0 p1)), (.int (4 : Int32))]) (rest := [(.long ((((f2 (gv q0 p1) (0 : Int32)) ||| (f2 (gv q0 p1) (1 : Int32))) ||| (f2 (gv q0 p1) (2 : Int32))) ||| (f2 (gv q0 p1) (3 : Int32))))]) (lenOf pd_1 rfl) rfl (by show 2 * 0 + _ ≤ _; exact Nat.le_of_eq rfl) (hb hby at_89) (fun _ _ => ⟨rfl, e12, (by decide : 0 + 0 ≤ _), (by decide : 0 + 0 ≤ _)⟩)
  dsimp only [Pt.U, Pt.locs, Pt.cells, Pt.slots] at X13 l13 y13 z13 st13 hQ13
  subst l13 y13 z13
  obtain ⟨rfl, rfl, e13⟩ := hQ13
  try rw [List.append_nil] at X13
  obtain ⟨_, _, ⟨T14, L14, k14, n14⟩, -, X14, ⟨Lc14, hQ14, l14, y14, z14⟩, st14⟩ := Jvm.LawKit.callS X13 hx (y := (⟨"com/example/troth/troth/EightBytesZeroesPinLaw", "mark", "(JI)J"⟩ : MethodName)) hown (mvT hZ (hw _ (List.mem_of_getElem? (i := 6) rfl))) (mvT hZ (hw _ (List.mem_of_getElem? (i := 7) rfl))) (mvT hZ (hw _ (List.mem_of_getElem? (i := 2) rfl))) (mvT hZ (hw _ (List.mem_of_getElem? (i := 8) rfl))) (by decide) (backOf (W := 2) (rm2 l Z a0 hw [] (gv q0 p1) (5 : Int32)  h0 ) hZ (hw _ (List.mem_of_getElem? (i := 8) rfl)) (hw _ (List.mem_of_getElem? (i := 2) rfl)) (by decide) (by decide)) (g := (mkF m 96 #[.val (.long q0), .second, .val (.int p1), .val (.long (gc q0 p1)), .second, .val (.long (gv q0 p1)), .second, .unset, .unset] [(.int (5 : Int32)), (.long (gv q0 p1)), (.long (((((f2 (gv q0 p1) (0 : Int32)) ||| (f2 (gv q0 p1) (1 : Int32))) ||| (f2 (gv q0 p1) (2 : Int32))) ||| (f2 (gv q0 p1) (3 : Int32))) ||| (f2 (gv q0 p1) (4 : Int32))))])) rfl (by rw [hml]; rfl) (argsL := [(.long (gv q0 p1)), (.int (5 : Int32))]) (rest := [(.long (((((f2 (gv q0 p1) (0 : Int32)) ||| (f2 (gv q0 p1) (1 : Int32))) ||| (f2 (gv q0 p1) (2 : Int32))) ||| (f2 (gv q0 p1) (3 : Int32))) ||| (f2 (gv q0 p1) (4 : Int32))))]) (lenOf pd_1 rfl) rfl (by show 2 * 0 + _ ≤ _; exact Nat.le_of_eq rfl) (hb hby at_96) (fun _ _ => ⟨rfl, e13, (by decide : 0 + 0 ≤ _), (by decide : 0 + 0 ≤ _)⟩)
  dsimp only [Pt.U, Pt.locs, Pt.cells, Pt.slots] at X14 l14 y14 z14 st14 hQ14
  subst l14 y14 z14
  obtain ⟨rfl, rfl, e14⟩ := hQ14
  try rw [List.append_nil] at X14
  obtain ⟨_, _, ⟨T15, L15, k15, n15⟩, -, X15, ⟨Lc15, hQ15, l15, y15, z15⟩, st15⟩ := Jvm.LawKit.callS X14 hx (y := (⟨"com/example/troth/troth/EightBytesZeroesPinLaw", "mark", "(JI)J"⟩ : MethodName)) hown (mvT hZ (hw _ (List.mem_of_getElem? (i := 6) rfl))) (mvT hZ (hw _ (List.mem_of_getElem? (i := 7) rfl))) (mvT hZ (hw _ (List.mem_of_getElem? (i := 2) rfl))) (mvT hZ (hw _ (List.mem_of_getElem? (i := 8) rfl))) (by decide) (backOf (W := 2) (rm2 l Z a0 hw [] (gv q0 p1) (6 : Int32)  h0 ) hZ (hw _ (List.mem_of_getElem? (i := 8) rfl)) (hw _ (List.mem_of_getElem? (i := 2) rfl)) (by decide) (by decide)) (g := (mkF m 104 #[.val (.long q0), .second, .val (.int p1), .val (.long (gc q0 p1)), .second, .val (.long (gv q0 p1)), .second, .unset, .unset] [(.int (6 : Int32)), (.long (gv q0 p1)), (.long ((((((f2 (gv q0 p1) (0 : Int32)) ||| (f2 (gv q0 p1) (1 : Int32))) ||| (f2 (gv q0 p1) (2 : Int32))) ||| (f2 (gv q0 p1) (3 : Int32))) ||| (f2 (gv q0 p1) (4 : Int32))) ||| (f2 (gv q0 p1) (5 : Int32))))])) rfl (by rw [hml]; rfl) (argsL := [(.long (gv q0 p1)), (.int (6 : Int32))]) (rest := [(.long ((((((f2 (gv q0 p1) (0 : Int32)) ||| (f2 (gv q0 p1) (1 : Int32))) ||| (f2 (gv q0 p1) (2 : Int32))) ||| (f2 (gv q0 p1) (3 : Int32))) ||| (f2 (gv q0 p1) (4 : Int32))) ||| (f2 (gv q0 p1) (5 : Int32))))]) (lenOf pd_1 rfl) rfl (by show 2 * 0 + _ ≤ _; exact Nat.le_of_eq rfl) (hb hby at_104) (fun _ _ => ⟨rfl, e14, (by decide : 0 + 0 ≤ _), (by decide : 0 + 0 ≤ _)⟩)
  dsimp only [Pt.U, Pt.locs, Pt.cells, Pt.slots] at X15 l15 y15 z15 st15 hQ15
  subst l15 y15 z15
  obtain ⟨rfl, rfl, e15⟩ := hQ15
  try rw [List.append_nil] at X15
  obtain ⟨_, _, ⟨T16, L16, k16, n16⟩, -, X16, ⟨Lc16, hQ16, l16, y16, z16⟩, st16⟩ := Jvm.LawKit.callS X15 hx (y := (⟨"com/example/troth/troth/EightBytesZeroesPinLaw", "mark", "(JI)J"⟩ : MethodName)) hown (mvT hZ (hw _ (List.mem_of_getElem? (i := 6) rfl))) (mvT hZ (hw _ (List.mem_of_getElem? (i := 7) rfl))) (mvT hZ (hw _ (List.mem_of_getElem? (i := 2) rfl))) (mvT hZ (hw _ (List.mem_of_getElem? (i := 8) rfl))) (by decide) (backOf (W := 2) (rm2 l Z a0 hw [] (gv q0 p1) (7 : Int32)  h0 ) hZ (hw _ (List.mem_of_getElem? (i := 8) rfl)) (hw _ (List.mem_of_getElem? (i := 2) rfl)) (by decide) (by decide)) (g := (mkF m 112 #[.val (.long q0), .second, .val (.int p1), .val (.long (gc q0 p1)), .second, .val (.long (gv q0 p1)), .second, .unset, .unset] [(.int (7 : Int32)), (.long (gv q0 p1)), (.long (((((((f2 (gv q0 p1) (0 : Int32)) ||| (f2 (gv q0 p1) (1 : Int32))) ||| (f2 (gv q0 p1) (2 : Int32))) ||| (f2 (gv q0 p1) (3 : Int32))) ||| (f2 (gv q0 p1) (4 : Int32))) ||| (f2 (gv q0 p1) (5 : Int32))) ||| (f2 (gv q0 p1) (6 : Int32))))])) rfl (by rw [hml]; rfl) (argsL := [(.long (gv q0 p1)), (.int (7 : Int32))]) (rest := [(.long (((((((f2 (gv q0 p1) (0 : Int32)) ||| (f2 (gv q0 p1) (1 : Int32))) ||| (f2 (gv q0 p1) (2 : Int32))) ||| (f2 (gv q0 p1) (3 : Int32))) ||| (f2 (gv q0 p1) (4 : Int32))) ||| (f2 (gv q0 p1) (5 : Int32))) ||| (f2 (gv q0 p1) (6 : Int32))))]) (lenOf pd_1 rfl) rfl (by show 2 * 0 + _ ≤ _; exact Nat.le_of_eq rfl) (hb hby at_112) (fun _ _ => ⟨rfl, e15, (by decide : 0 + 0 ≤ _), (by decide : 0 + 0 ≤ _)⟩)
  dsimp only [Pt.U, Pt.locs, Pt.cells, Pt.slots] at X16 l16 y16 z16 st16 hQ16
  subst l16 y16 z16
  obtain ⟨rfl, rfl, e16⟩ := hQ16
  try rw [List.append_nil] at X16
  obtain ⟨_, _, ⟨T17, L17, k17, n17⟩, -, X17, ⟨Lc17, hQ17, l17, y17, z17⟩, st17⟩ := Jvm.LawKit.callS X16 hx (y := (⟨"com/example/troth/troth/EightBytes", "zeroes", "(J)J"⟩ : MethodName)) hown (mvT hZ (hw _ (List.mem_of_getElem? (i := 10) rfl))) (mvT hZ (hw _ (List.mem_of_getElem? (i := 11) rfl))) (mvT hZ (hw _ (List.mem_of_getElem? (i := 12) rfl))) (mvT hZ (hw _ (List.mem_of_getElem? (i := 13) rfl))) (by decide) (backOf (W := 0) (rm3 l Z a0 hw [] (gv q0 p1)  h0 ) hZ (hw _ (List.mem_of_getElem? (i := 13) rfl)) (hw _ (List.mem_of_getElem? (i := 12) rfl)) (by decide) (by decide)) (g := (mkF m 120 #[.val (.long q0), .second, .val (.int p1), .val (.long (gc q0 p1)), .second, .val (.long (gv q0 p1)), .second, .val (.long ((((((((f2 (gv q0 p1) (0 : Int32)) ||| (f2 (gv q0 p1) (1 : Int32))) ||| (f2 (gv q0 p1) (2 : Int32))) ||| (f2 (gv q0 p1) (3 : Int32))) ||| (f2 (gv q0 p1) (4 : Int32))) ||| (f2 (gv q0 p1) (5 : Int32))) ||| (f2 (gv q0 p1) (6 : Int32))) ||| (f2 (gv q0 p1) (7 : Int32)))), .second] [(.long (gv q0 p1))])) rfl (by rw [hml]; rfl) (argsL := [(.long (gv q0 p1))]) (rest := []) (lenOf pd_2 rfl) rfl (by show 2 * 0 + _ ≤ _; exact Nat.le_of_eq rfl) (hb hby at_120) (fun _ _ => ⟨rfl, e16, (by decide : 0 + 0 ≤ _), (by decide : 0 + 0 ≤ _)⟩)
  dsimp only [Pt.U, Pt.locs, Pt.cells, Pt.slots] at X17 l17 y17 z17 st17 hQ17
  subst l17 y17 z17
  obtain ⟨rfl, rfl, e17⟩ := hQ17
  try rw [List.append_nil] at X17
  have K18 : ∀ t, Steps p.tables e below (T17.setTop (mkF m 126 #[.val (.long q0), .second, .val (.int p1), .val (.long (gc q0 p1)), .second, .val (.long (gv q0 p1)), .second, .val (.long ((((((((f2 (gv q0 p1) (0 : Int32)) ||| (f2 (gv q0 p1) (1 : Int32))) ||| (f2 (gv q0 p1) (2 : Int32))) ||| (f2 (gv q0 p1) (3 : Int32))) ||| (f2 (gv q0 p1) (4 : Int32))) ||| (f2 (gv q0 p1) (5 : Int32))) ||| (f2 (gv q0 p1) (6 : Int32))) ||| (f2 (gv q0 p1) (7 : Int32)))), .second] [(.int (lcmpW (f3 (gv q0 p1)) ((((((((f2 (gv q0 p1) (0 : Int32)) ||| (f2 (gv q0 p1) (1 : Int32))) ||| (f2 (gv q0 p1) (2 : Int32))) ||| (f2 (gv q0 p1) (3 : Int32))) ||| (f2 (gv q0 p1) (4 : Int32))) ||| (f2 (gv q0 p1) (5 : Int32))) ||| (f2 (gv q0 p1) (6 : Int32))) ||| (f2 (gv q0 p1) (7 : Int32)))))])) t → Steps p.tables e below (s₁.setTop (mkF m 0 #[.val (.long q0), .second, .val (.int p1), .unset, .unset, .unset, .unset, .unset, .unset] [])) t := by
    intro t kt
    show Steps p.tables e below (s₁.setTop (mkF m 0 #[.val (.long q0), .second, .val (.int p1), .unset, .unset, .unset, .unset, .unset, .unset] [])) _
    refine XS.iloadN X0.here hx rfl (hb hby at_0) rfl ?_
    show Steps p.tables e below (s₁.setTop (mkF m 1 #[.val (.long q0), .second, .val (.int p1), .unset, .unset, .unset, .unset, .unset, .unset] [(.int p1)])) _
    refine XS.iconst X0.here hx rfl (hb hby at_1) ?_
    show Steps p.tables e below (s₁.setTop (mkF m 2 #[.val (.long q0), .second, .val (.int p1), .unset, .unset, .unset, .unset, .unset, .unset] [(.int (0 : Int32)), (.int p1)])) _
    refine st1 _ ?_
    show Steps p.tables e below (T1.setTop (mkF m 5 #[.val (.long q0), .second, .val (.int p1), .unset, .unset, .unset, .unset, .unset, .unset] [(.long (f1 p1 (0 : Int32)))])) _
    refine XS.iloadN X1.here hx rfl (hb hby at_5) rfl ?_
    show Steps p.tables e below (T1.setTop (mkF m 6 #[.val (.long q0), .second, .val (.int p1), .unset, .unset, .unset, .unset, .unset, .unset] [(.int p1), (.long (f1 p1 (0 : Int32)))])) _
    refine XS.iconst X1.here hx rfl (hb hby at_6) ?_
    show Steps p.tables e below (T1.setTop (mkF m 7 #[.val (.long q0), .second, .val (.int p1), .unset, .unset, .unset, .unset, .unset, .unset] [(.int (1 : Int32)), (.int p1), (.long (f1 p1 (0 : Int32)))])) _
    refine st2 _ ?_
    show Steps p.tables e below (T2.setTop (mkF m 10 #[.val (.long q0), .second, .val (.int p1), .unset, .unset, .unset, .unset, .unset, .unset] [(.long (f1 p1 (1 : Int32))), (.long (f1 p1 (0 : Int32)))])) _
    refine XS.lor X2.here hx rfl (hb hby at_10) rfl ?_
    show Steps p.tables e below (T2.setTop (mkF m 11 #[.val (.long q0), .second, .val (.int p1), .unset, .unset, .unset, .unset, .unset, .unset] [(.long ((f1 p1 (0 : Int32)) ||| (f1 p1 (1 : Int32))))])) _
    refine XS.iloadN X2.here hx rfl (hb hby at_11) rfl ?_
    show Steps p.tables e below (T2.setTop (mkF m 12 #[.val (.long q0), .second, .val (.int p1), .unset, .unset, .unset, .unset, .unset, .unset] [(.int p1), (.long ((f1 p1 (0 : Int32)) ||| (f1 p1 (1 : Int32))))])) _
    refine XS.iconst X2.here hx rfl (hb hby at_12) ?_
    show Steps p.tables e below (T2.setTop (mkF m 13 #[.val (.long q0), .second, .val (.int p1), .unset, .unset, .unset, .unset, .unset, .unset] [(.int (2 : Int32)), (.int p1), (.long ((f1 p1 (0 : Int32)) ||| (f1 p1 (1 : Int32))))])) _
    refine st3 _ ?_
    show Steps p.tables e below (T3.setTop (mkF m 16 #[.val (.long q0), .second, .val (.int p1), .unset, .unset, .unset, .unset, .unset, .unset] [(.long (f1 p1 (2 : Int32))), (.long ((f1 p1 (0 : Int32)) ||| (f1 p1 (1 : Int32))))])) _
    refine XS.lor X3.here hx rfl (hb hby at_16) rfl ?_
    show Steps p.tables e below (T3.setTop (mkF m 17 #[.val (.long q0), .second, .val (.int p1), .unset, .unset, .unset, .unset, .unset, .unset] [(.long (((f1 p1 (0 : Int32)) ||| (f1 p1 (1 : Int32))) ||| (f1 p1 (2 : Int32))))])) _
    refine XS.iloadN X3.here hx rfl (hb hby at_17) rfl ?_
    show Steps p.tables e below (T3.setTop (mkF m 18 #[.val (.long q0), .second, .val (.int p1), .unset, .unset, .unset, .unset, .unset, .unset] [(.int p1), (.long (((f1 p1 (0 : Int32)) ||| (f1 p1 (1 : Int32))) ||| (f1 p1 (2 : Int32))))])) _
    refine XS.iconst X3.here hx rfl (hb hby at_18) ?_
    show Steps p.tables e below (T3.setTop (mkF m 19 #[.val (.long q0), .second, .val (.int p1), .unset, .unset, .unset, .unset, .unset, .unset] [(.int (3 : Int32)), (.int p1), (.long (((f1 p1 (0 : Int32)) ||| (f1 p1 (1 : Int32))) ||| (f1 p1 (2 : Int32))))])) _
    refine st4 _ ?_
    show Steps p.tables e below (T4.setTop (mkF m 22 #[.val (.long q0), .second, .val (.int p1), .unset, .unset, .unset, .unset, .unset, .unset] [(.long (f1 p1 (3 : Int32))), (.long (((f1 p1 (0 : Int32)) ||| (f1 p1 (1 : Int32))) ||| (f1 p1 (2 : Int32))))])) _
    refine XS.lor X4.here hx rfl (hb hby at_22) rfl ?_
    show Steps p.tables e below (T4.setTop (mkF m 23 #[.val (.long q0), .second, .val (.int p1), .unset, .unset, .unset, .unset, .unset, .unset] [(.long ((((f1 p1 (0 : Int32)) ||| (f1 p1 (1 : Int32))) ||| (f1 p1 (2 : Int32))) ||| (f1 p1 (3 : Int32))))])) _
    refine XS.iloadN X4.here hx rfl (hb hby at_23) rfl ?_
    show Steps p.tables e below (T4.setTop (mkF m 24 #[.val (.long q0), .second, .val (.int p1), .unset, .unset, .unset, .unset, .unset, .unset] [(.int p1), (.long ((((f1 p1 (0 : Int32)) ||| (f1 p1 (1 : Int32))) ||| (f1 p1 (2 : Int32))) ||| (f1 p1 (3 : Int32))))])) _
    refine XS.iconst X4.here hx rfl (hb hby at_24) ?_
    show Steps p.tables e below (T4.setTop (mkF m 25 #[.val (.long q0), .second, .val (.int p1), .unset, .unset, .unset, .unset, .unset, .unset] [(.int (4 : Int32)), (.int p1), (.long ((((f1 p1 (0 : Int32)) ||| (f1 p1 (1 : Int32))) ||| (f1 p1 (2 : Int32))) ||| (f1 p1 (3 : Int32))))])) _
    refine st5 _ ?_
    show Steps p.tables e below (T5.setTop (mkF m 28 #[.val (.long q0), .second, .val (.int p1), .unset, .unset, .unset, .unset, .unset, .unset] [(.long (f1 p1 (4 : Int32))), (.long ((((f1 p1 (0 : Int32)) ||| (f1 p1 (1 : Int32))) ||| (f1 p1 (2 : Int32))) ||| (f1 p1 (3 : Int32))))])) _
    refine XS.lor X5.here hx rfl (hb hby at_28) rfl ?_
    show Steps p.tables e below (T5.setTop (mkF m 29 #[.val (.long q0), .second, .val (.int p1), .unset, .unset, .unset, .unset, .unset, .unset] [(.long (((((f1 p1 (0 : Int32)) ||| (f1 p1 (1 : Int32))) ||| (f1 p1 (2 : Int32))) ||| (f1 p1 (3 : Int32))) ||| (f1 p1 (4 : Int32))))])) _
    refine XS.iloadN X5.here hx rfl (hb hby at_29) rfl ?_
    show Steps p.tables e below (T5.setTop (mkF m 30 #[.val (.long q0), .second, .val (.int p1), .unset, .unset, .unset, .unset, .unset, .unset] [(.int p1), (.long (((((f1 p1 (0 : Int32)) ||| (f1 p1 (1 : Int32))) ||| (f1 p1 (2 : Int32))) ||| (f1 p1 (3 : Int32))) ||| (f1 p1 (4 : Int32))))])) _
    refine XS.iconst X5.here hx rfl (hb hby at_30) ?_
    show Steps p.tables e below (T5.setTop (mkF m 31 #[.val (.long q0), .second, .val (.int p1), .unset, .unset, .unset, .unset, .unset, .unset] [(.int (5 : Int32)), (.int p1), (.long (((((f1 p1 (0 : Int32)) ||| (f1 p1 (1 : Int32))) ||| (f1 p1 (2 : Int32))) ||| (f1 p1 (3 : Int32))) ||| (f1 p1 (4 : Int32))))])) _
    refine st6 _ ?_
    show Steps p.tables e below (T6.setTop (mkF m 34 #[.val (.long q0), .second, .val (.int p1), .unset, .unset, .unset, .unset, .unset, .unset] [(.long (f1 p1 (5 : Int32))), (.long (((((f1 p1 (0 : Int32)) ||| (f1 p1 (1 : Int32))) ||| (f1 p1 (2 : Int32))) ||| (f1 p1 (3 : Int32))) ||| (f1 p1 (4 : Int32))))])) _
    refine XS.lor X6.here hx rfl (hb hby at_34) rfl ?_
    show Steps p.tables e below (T6.setTop (mkF m 35 #[.val (.long q0), .second, .val (.int p1), .unset, .unset, .unset, .unset, .unset, .unset] [(.long ((((((f1 p1 (0 : Int32)) ||| (f1 p1 (1 : Int32))) ||| (f1 p1 (2 : Int32))) ||| (f1 p1 (3 : Int32))) ||| (f1 p1 (4 : Int32))) ||| (f1 p1 (5 : Int32))))])) _
    refine XS.iloadN X6.here hx rfl (hb hby at_35) rfl ?_
    show Steps p.tables e below (T6.setTop (mkF m 36 #[.val (.long q0), .second, .val (.int p1), .unset, .unset, .unset, .unset, .unset, .unset] [(.int p1), (.long ((((((f1 p1 (0 : Int32)) ||| (f1 p1 (1 : Int32))) ||| (f1 p1 (2 : Int32))) ||| (f1 p1 (3 : Int32))) ||| (f1 p1 (4 : Int32))) ||| (f1 p1 (5 : Int32))))])) _
    refine XS.bipush X6.here hx rfl (hb hby at_36) ?_
    show Steps p.tables e below (T6.setTop (mkF m 38 #[.val (.long q0), .second, .val (.int p1), .unset, .unset, .unset, .unset, .unset, .unset] [(.int (6 : Int32)), (.int p1), (.long ((((((f1 p1 (0 : Int32)) ||| (f1 p1 (1 : Int32))) ||| (f1 p1 (2 : Int32))) ||| (f1 p1 (3 : Int32))) ||| (f1 p1 (4 : Int32))) ||| (f1 p1 (5 : Int32))))])) _
    refine st7 _ ?_
    show Steps p.tables e below (T7.setTop (mkF m 41 #[.val (.long q0), .second, .val (.int p1), .unset, .unset, .unset, .unset, .unset, .unset] [(.long (f1 p1 (6 : Int32))), (.long ((((((f1 p1 (0 : Int32)) ||| (f1 p1 (1 : Int32))) ||| (f1 p1 (2 : Int32))) ||| (f1 p1 (3 : Int32))) ||| (f1 p1 (4 : Int32))) ||| (f1 p1 (5 : Int32))))])) _
    refine XS.lor X7.here hx rfl (hb hby at_41) rfl ?_
    show Steps p.tables e below (T7.setTop (mkF m 42 #[.val (.long q0), .second, .val (.int p1), .unset, .unset, .unset, .unset, .unset, .unset] [(.long (((((((f1 p1 (0 : Int32)) ||| (f1 p1 (1 : Int32))) ||| (f1 p1 (2 : Int32))) ||| (f1 p1 (3 : Int32))) ||| (f1 p1 (4 : Int32))) ||| (f1 p1 (5 : Int32))) ||| (f1 p1 (6 : Int32))))])) _
    refine XS.iloadN X7.here hx rfl (hb hby at_42) rfl ?_
    show Steps p.tables e below (T7.setTop (mkF m 43 #[.val (.long q0), .second, .val (.int p1), .unset, .unset, .unset, .unset, .unset, .unset] [(.int p1), (.long (((((((f1 p1 (0 : Int32)) ||| (f1 p1 (1 : Int32))) ||| (f1 p1 (2 : Int32))) ||| (f1 p1 (3 : Int32))) ||| (f1 p1 (4 : Int32))) ||| (f1 p1 (5 : Int32))) ||| (f1 p1 (6 : Int32))))])) _
    refine XS.bipush X7.here hx rfl (hb hby at_43) ?_
    show Steps p.tables e below (T7.setTop (mkF m 45 #[.val (.long q0), .second, .val (.int p1), .unset, .unset, .unset, .unset, .unset, .unset] [(.int (7 : Int32)), (.int p1), (.long (((((((f1 p1 (0 : Int32)) ||| (f1 p1 (1 : Int32))) ||| (f1 p1 (2 : Int32))) ||| (f1 p1 (3 : Int32))) ||| (f1 p1 (4 : Int32))) ||| (f1 p1 (5 : Int32))) ||| (f1 p1 (6 : Int32))))])) _
    refine st8 _ ?_
    show Steps p.tables e below (T8.setTop (mkF m 48 #[.val (.long q0), .second, .val (.int p1), .unset, .unset, .unset, .unset, .unset, .unset] [(.long (f1 p1 (7 : Int32))), (.long (((((((f1 p1 (0 : Int32)) ||| (f1 p1 (1 : Int32))) ||| (f1 p1 (2 : Int32))) ||| (f1 p1 (3 : Int32))) ||| (f1 p1 (4 : Int32))) ||| (f1 p1 (5 : Int32))) ||| (f1 p1 (6 : Int32))))])) _
    refine XS.lor X8.here hx rfl (hb hby at_48) rfl ?_
    show Steps p.tables e below (T8.setTop (mkF m 49 #[.val (.long q0), .second, .val (.int p1), .unset, .unset, .unset, .unset, .unset, .unset] [(.long ((((((((f1 p1 (0 : Int32)) ||| (f1 p1 (1 : Int32))) ||| (f1 p1 (2 : Int32))) ||| (f1 p1 (3 : Int32))) ||| (f1 p1 (4 : Int32))) ||| (f1 p1 (5 : Int32))) ||| (f1 p1 (6 : Int32))) ||| (f1 p1 (7 : Int32))))])) _
    refine XS.lstoreN X8.here hx rfl (hb hby at_49) rfl (l' := #[.val (.long q0), .second, .val (.int p1), .val (.long (gc q0 p1)), .second, .unset, .unset, .unset, .unset]) rfl ?_
    show Steps p.tables e below (T8.setTop (mkF m 50 #[.val (.long q0), .second, .val (.int p1), .val (.long (gc q0 p1)), .second, .unset, .unset, .unset, .unset] [])) _
    refine XS.lloadN X8.here hx rfl (hb hby at_50) rfl ?_
    show Steps p.tables e below (T8.setTop (mkF m 51 #[.val (.long q0), .second, .val (.int p1), .val (.long (gc q0 p1)), .second, .unset, .unset, .unset, .unset] [(.long q0)])) _
    refine XS.lloadN X8.here hx rfl (hb hby at_51) rfl ?_
    show Steps p.tables e below (T8.setTop (mkF m 52 #[.val (.long q0), .second, .val (.int p1), .val (.long (gc q0 p1)), .second, .unset, .unset, .unset, .unset] [(.long (gc q0 p1)), (.long q0)])) _
    refine X8.ldc2Long hx hown (mvT hZ (hw _ (List.mem_of_getElem? (i := 5) rfl))) (g := (mkF m 52 #[.val (.long q0), .second, .val (.int p1), .val (.long (gc q0 p1)), .second, .unset, .unset, .unset, .unset] [(.long (gc q0 p1)), (.long q0)])) rfl (hb hby at_52) _ ?_
    show Steps p.tables e below (T8.setTop (mkF m 55 #[.val (.long q0), .second, .val (.int p1), .val (.long (gc q0 p1)), .second, .unset, .unset, .unset, .unset] [(.long (-1 : Int64)), (.long (gc q0 p1)), (.long q0)])) _
    refine XS.lxor X8.here hx rfl (hb hby at_55) rfl ?_
    show Steps p.tables e below (T8.setTop (mkF m 56 #[.val (.long q0), .second, .val (.int p1), .val (.long (gc q0 p1)), .second, .unset, .unset, .unset, .unset] [(.long ((gc q0 p1) ^^^ (-1 : Int64))), (.long q0)])) _
    refine XS.land X8.here hx rfl (hb hby at_56) rfl ?_
    show Steps p.tables e below (T8.setTop (mkF m 57 #[.val (.long q0), .second, .val (.int p1), .val (.long (gc q0 p1)), .second, .unset, .unset, .unset, .unset] [(.long (q0 &&& ((gc q0 p1) ^^^ (-1 : Int64))))])) _
    refine XS.lstore X8.here hx rfl (hb hby at_57) rfl (l' := #[.val (.long q0), .second, .val (.int p1), .val (.long (gc q0 p1)), .second, .val (.long (gv q0 p1)), .second, .unset, .unset]) rfl ?_
    show Steps p.tables e below (T8.setTop (mkF m 59 #[.val (.long q0), .second, .val (.int p1), .val (.long (gc q0 p1)), .second, .val (.long (gv q0 p1)), .second, .unset, .unset] [])) _
    refine XS.lload X8.here hx rfl (hb hby at_59) rfl ?_
    show Steps p.tables e below (T8.setTop (mkF m 61 #[.val (.long q0), .second, .val (.int p1), .val (.long (gc q0 p1)), .second, .val (.long (gv q0 p1)), .second, .unset, .unset] [(.long (gv q0 p1))])) _
    refine XS.iconst X8.here hx rfl (hb hby at_61) ?_
    show Steps p.tables e below (T8.setTop (mkF m 62 #[.val (.long q0), .second, .val (.int p1), .val (.long (gc q0 p1)), .second, .val (.long (gv q0 p1)), .second, .unset, .unset] [(.int (0 : Int32)), (.long (gv q0 p1))])) _
    refine st9 _ ?_
    show Steps p.tables e below (T9.setTop (mkF m 65 #[.val (.long q0), .second, .val (.int p1), .val (.long (gc q0 p1)), .second, .val (.long (gv q0 p1)), .second, .unset, .unset] [(.long (f2 (gv q0 p1) (0 : Int32)))])) _
    refine XS.lload X9.here hx rfl (hb hby at_65) rfl ?_
    show Steps p.tables e below (T9.setTop (mkF m 67 #[.val (.long q0), .second, .val (.int p1), .val (.long (gc q0 p1)), .second, .val (.long (gv q0 p1)), .second, .unset, .unset] [(.long (gv q0 p1)), (.long (f2 (gv q0 p1) (0 : Int32)))])) _
    refine XS.iconst X9.here hx rfl (hb hby at_67) ?_
    show Steps p.tables e below (T9.setTop (mkF m 68 #[.val (.long q0), .second, .val (.int p1), .val (.long (gc q0 p1)), .second, .val (.long (gv q0 p1)), .second, .unset, .unset] [(.int (1 : Int32)), (.long (gv q0 p1)), (.long (f2 (gv q0 p1) (0 : Int32)))])) _
    refine st10 _ ?_
    show Steps p.tables e below (T10.setTop (mkF m 71 #[.val (.long q0), .second, .val (.int p1), .val (.long (gc q0 p1)), .second, .val (.long (gv q0 p1)), .second, .unset, .unset] [(.long (f2 (gv q0 p1) (1 : Int32))), (.long (f2 (gv q0 p1) (0 : Int32)))])) _
    refine XS.lor X10.here hx rfl (hb hby at_71) rfl ?_
    show Steps p.tables e below (T10.setTop (mkF m 72 #[.val (.long q0), .second, .val (.int p1), .val (.long (gc q0 p1)), .second, .val (.long (gv q0 p1)), .second, .unset, .unset] [(.long ((f2 (gv q0 p1) (0 : Int32)) ||| (f2 (gv q0 p1) (1 : Int32))))])) _
    refine XS.lload X10.here hx rfl (hb hby at_72) rfl ?_
    show Steps p.tables e below (T10.setTop (mkF m 74 #[.val (.long q0), .second, .val (.int p1), .val (.long (gc q0 p1)), .second, .val (.long (gv q0 p1)), .second, .unset, .unset] [(.long (gv q0 p1)), (.long ((f2 (gv q0 p1) (0 : Int32)) ||| (f2 (gv q0 p1) (1 : Int32))))])) _
    refine XS.iconst X10.here hx rfl (hb hby at_74) ?_
    show Steps p.tables e below (T10.setTop (mkF m 75 #[.val (.long q0), .second, .val (.int p1), .val (.long (gc q0 p1)), .second, .val (.long (gv q0 p1)), .second, .unset, .unset] [(.int (2 : Int32)), (.long (gv q0 p1)), (.long ((f2 (gv q0 p1) (0 : Int32)) ||| (f2 (gv q0 p1) (1 : Int32))))])) _
    refine st11 _ ?_
    show Steps p.tables e below (T11.setTop (mkF m 78 #[.val (.long q0), .second, .val (.int p1), .val (.long (gc q0 p1)), .second, .val (.long (gv q0 p1)), .second, .unset, .unset] [(.long (f2 (gv q0 p1) (2 : Int32))), (.long ((f2 (gv q0 p1) (0 : Int32)) ||| (f2 (gv q0 p1) (1 : Int32))))])) _
    refine XS.lor X11.here hx rfl (hb hby at_78) rfl ?_
    show Steps p.tables e below (T11.setTop (mkF m 79 #[.val (.long q0), .second, .val (.int p1), .val (.long (gc q0 p1)), .second, .val (.long (gv q0 p1)), .second, .unset, .unset] [(.long (((f2 (gv q0 p1) (0 : Int32)) ||| (f2 (gv q0 p1) (1 : Int32))) ||| (f2 (gv q0 p1) (2 : Int32))))])) _
    refine XS.lload X11.here hx rfl (hb hby at_79) rfl ?_
    show Steps p.tables e below (T11.setTop (mkF m 81 #[.val (.long q0), .second, .val (.int p1), .val (.long (gc q0 p1)), .second, .val (.long (gv q0 p1)), .second, .unset, .unset] [(.long (gv q0 p1)), (.long (((f2 (gv q0 p1) (0 : Int32)) ||| (f2 (gv q0 p1) (1 : Int32))) ||| (f2 (gv q0 p1) (2 : Int32))))])) _
    refine XS.iconst X11.here hx rfl (hb hby at_81) ?_
    show Steps p.tables e below (T11.setTop (mkF m 82 #[.val (.long q0), .second, .val (.int p1), .val (.long (gc q0 p1)), .second, .val (.long (gv q0 p1)), .second, .unset, .unset] [(.int (3 : Int32)), (.long (gv q0 p1)), (.long (((f2 (gv q0 p1) (0 : Int32)) ||| (f2 (gv q0 p1) (1 : Int32))) ||| (f2 (gv q0 p1) (2 : Int32))))])) _
    refine st12 _ ?_
    show Steps p.tables e below (T12.setTop (mkF m 85 #[.val (.long q0), .second, .val (.int p1), .val (.long (gc q0 p1)), .second, .val (.long (gv q0 p1)), .second, .unset, .unset] [(.long (f2 (gv q0 p1) (3 : Int32))), (.long (((f2 (gv q0 p1) (0 : Int32)) ||| (f2 (gv q0 p1) (1 : Int32))) ||| (f2 (gv q0 p1) (2 : Int32))))])) _
    refine XS.lor X12.here hx rfl (hb hby at_85) rfl ?_
    show Steps p.tables e below (T12.setTop (mkF m 86 #[.val (.long q0), .second, .val (.int p1), .val (.long (gc q0 p1)), .second, .val (.long (gv q0 p1)), .second, .unset, .unset] [(.long ((((f2 (gv q0 p1) (0 : Int32)) ||| (f2 (gv q0 p1) (1 : Int32))) ||| (f2 (gv q0 p1) (2 : Int32))) ||| (f2 (gv q0 p1) (3 : Int32))))])) _
    refine XS.lload X12.here hx rfl (hb hby at_86) rfl ?_
    show Steps p.tables e below (T12.setTop (mkF m 88 #[.val (.long q0), .second, .val (.int p1), .val (.long (gc q0 p1)), .second, .val (.long (gv q0 p1)), .second, .unset, .unset] [(.long (gv q0 p1)), (.long ((((f2 (gv q0 p1) (0 : Int32)) ||| (f2 (gv q0 p1) (1 : Int32))) ||| (f2 (gv q0 p1) (2 : Int32))) ||| (f2 (gv q0 p1) (3 : Int32))))])) _
    refine XS.iconst X12.here hx rfl (hb hby at_88) ?_
    show Steps p.tables e below (T12.setTop (mkF m 89 #[.val (.long q0), .second, .val (.int p1), .val (.long (gc q0 p1)), .second, .val (.long (gv q0 p1)), .second, .unset, .unset] [(.int (4 : Int32)), (.long (gv q0 p1)), (.long ((((f2 (gv q0 p1) (0 : Int32)) ||| (f2 (gv q0 p1) (1 : Int32))) ||| (f2 (gv q0 p1) (2 : Int32))) ||| (f2 (gv q0 p1) (3 : Int32))))])) _
    refine st13 _ ?_
    show Steps p.tables e below (T13.setTop (mkF m 92 #[.val (.long q0), .second, .val (.int p1), .val (.long (gc q0 p1)), .second, .val (.long (gv q0 p1)), .second, .unset, .unset] [(.long (f2 (gv q0 p1) (4 : Int32))), (.long ((((f2 (gv q0 p1) (0 : Int32)) ||| (f2 (gv q0 p1) (1 : Int32))) ||| (f2 (gv q0 p1) (2 : Int32))) ||| (f2 (gv q0 p1) (3 : Int32))))])) _
    refine XS.lor X13.here hx rfl (hb hby at_92) rfl ?_
    show Steps p.tables e below (T13.setTop (mkF m 93 #[.val (.long q0), .second, .val (.int p1), .val (.long (gc q0 p1)), .second, .val (.long (gv q0 p1)), .second, .unset, .unset] [(.long (((((f2 (gv q0 p1) (0 : Int32)) ||| (f2 (gv q0 p1) (1 : Int32))) ||| (f2 (gv q0 p1) (2 : Int32))) ||| (f2 (gv q0 p1) (3 : Int32))) ||| (f2 (gv q0 p1) (4 : Int32))))])) _
    refine XS.lload X13.here hx rfl (hb hby at_93) rfl ?_
    show Steps p.tables e below (T13.setTop (mkF m 95 #[.val (.long q0), .second, .val (.int p1), .val (.long (gc q0 p1)), .second, .val (.long (gv q0 p1)), .second, .unset, .unset] [(.long (gv q0 p1)), (.long (((((f2 (gv q0 p1) (0 : Int32)) ||| (f2 (gv q0 p1) (1 : Int32))) ||| (f2 (gv q0 p1) (2 : Int32))) ||| (f2 (gv q0 p1) (3 : Int32))) ||| (f2 (gv q0 p1) (4 : Int32))))])) _
    refine XS.iconst X13.here hx rfl (hb hby at_95) ?_
    show Steps p.tables e below (T13.setTop (mkF m 96 #[.val (.long q0), .second, .val (.int p1), .val (.long (gc q0 p1)), .second, .val (.long (gv q0 p1)), .second, .unset, .unset] [(.int (5 : Int32)), (.long (gv q0 p1)), (.long (((((f2 (gv q0 p1) (0 : Int32)) ||| (f2 (gv q0 p1) (1 : Int32))) ||| (f2 (gv q0 p1) (2 : Int32))) ||| (f2 (gv q0 p1) (3 : Int32))) ||| (f2 (gv q0 p1) (4 : Int32))))])) _
    refine st14 _ ?_
    show Steps p.tables e below (T14.setTop (mkF m 99 #[.val (.long q0), .second, .val (.int p1), .val (.long (gc q0 p1)), .second, .val (.long (gv q0 p1)), .second, .unset, .unset] [(.long (f2 (gv q0 p1) (5 : Int32))), (.long (((((f2 (gv q0 p1) (0 : Int32)) ||| (f2 (gv q0 p1) (1 : Int32))) ||| (f2 (gv q0 p1) (2 : Int32))) ||| (f2 (gv q0 p1) (3 : Int32))) ||| (f2 (gv q0 p1) (4 : Int32))))])) _
    refine XS.lor X14.here hx rfl (hb hby at_99) rfl ?_
    show Steps p.tables e below (T14.setTop (mkF m 100 #[.val (.long q0), .second, .val (.int p1), .val (.long (gc q0 p1)), .second, .val (.long (gv q0 p1)), .second, .unset, .unset] [(.long ((((((f2 (gv q0 p1) (0 : Int32)) ||| (f2 (gv q0 p1) (1 : Int32))) ||| (f2 (gv q0 p1) (2 : Int32))) ||| (f2 (gv q0 p1) (3 : Int32))) ||| (f2 (gv q0 p1) (4 : Int32))) ||| (f2 (gv q0 p1) (5 : Int32))))])) _
    refine XS.lload X14.here hx rfl (hb hby at_100) rfl ?_
    show Steps p.tables e below (T14.setTop (mkF m 102 #[.val (.long q0), .second, .val (.int p1), .val (.long (gc q0 p1)), .second, .val (.long (gv q0 p1)), .second, .unset, .unset] [(.long (gv q0 p1)), (.long ((((((f2 (gv q0 p1) (0 : Int32)) ||| (f2 (gv q0 p1) (1 : Int32))) ||| (f2 (gv q0 p1) (2 : Int32))) ||| (f2 (gv q0 p1) (3 : Int32))) ||| (f2 (gv q0 p1) (4 : Int32))) ||| (f2 (gv q0 p1) (5 : Int32))))])) _
    refine XS.bipush X14.here hx rfl (hb hby at_102) ?_
    show Steps p.tables e below (T14.setTop (mkF m 104 #[.val (.long q0), .second, .val (.int p1), .val (.long (gc q0 p1)), .second, .val (.long (gv q0 p1)), .second, .unset, .unset] [(.int (6 : Int32)), (.long (gv q0 p1)), (.long ((((((f2 (gv q0 p1) (0 : Int32)) ||| (f2 (gv q0 p1) (1 : Int32))) ||| (f2 (gv q0 p1) (2 : Int32))) ||| (f2 (gv q0 p1) (3 : Int32))) ||| (f2 (gv q0 p1) (4 : Int32))) ||| (f2 (gv q0 p1) (5 : Int32))))])) _
    refine st15 _ ?_
    show Steps p.tables e below (T15.setTop (mkF m 107 #[.val (.long q0), .second, .val (.int p1), .val (.long (gc q0 p1)), .second, .val (.long (gv q0 p1)), .second, .unset, .unset] [(.long (f2 (gv q0 p1) (6 : Int32))), (.long ((((((f2 (gv q0 p1) (0 : Int32)) ||| (f2 (gv q0 p1) (1 : Int32))) ||| (f2 (gv q0 p1) (2 : Int32))) ||| (f2 (gv q0 p1) (3 : Int32))) ||| (f2 (gv q0 p1) (4 : Int32))) ||| (f2 (gv q0 p1) (5 : Int32))))])) _
    refine XS.lor X15.here hx rfl (hb hby at_107) rfl ?_
    show Steps p.tables e below (T15.setTop (mkF m 108 #[.val (.long q0), .second, .val (.int p1), .val (.long (gc q0 p1)), .second, .val (.long (gv q0 p1)), .second, .unset, .unset] [(.long (((((((f2 (gv q0 p1) (0 : Int32)) ||| (f2 (gv q0 p1) (1 : Int32))) ||| (f2 (gv q0 p1) (2 : Int32))) ||| (f2 (gv q0 p1) (3 : Int32))) ||| (f2 (gv q0 p1) (4 : Int32))) ||| (f2 (gv q0 p1) (5 : Int32))) ||| (f2 (gv q0 p1) (6 : Int32))))])) _
    refine XS.lload X15.here hx rfl (hb hby at_108) rfl ?_
    show Steps p.tables e below (T15.setTop (mkF m 110 #[.val (.long q0), .second, .val (.int p1), .val (.long (gc q0 p1)), .second, .val (.long (gv q0 p1)), .second, .unset, .unset] [(.long (gv q0 p1)), (.long (((((((f2 (gv q0 p1) (0 : Int32)) ||| (f2 (gv q0 p1) (1 : Int32))) ||| (f2 (gv q0 p1) (2 : Int32))) ||| (f2 (gv q0 p1) (3 : Int32))) ||| (f2 (gv q0 p1) (4 : Int32))) ||| (f2 (gv q0 p1) (5 : Int32))) ||| (f2 (gv q0 p1) (6 : Int32))))])) _
    refine XS.bipush X15.here hx rfl (hb hby at_110) ?_
    show Steps p.tables e below (T15.setTop (mkF m 112 #[.val (.long q0), .second, .val (.int p1), .val (.long (gc q0 p1)), .second, .val (.long (gv q0 p1)), .second, .unset, .unset] [(.int (7 : Int32)), (.long (gv q0 p1)), (.long (((((((f2 (gv q0 p1) (0 : Int32)) ||| (f2 (gv q0 p1) (1 : Int32))) ||| (f2 (gv q0 p1) (2 : Int32))) ||| (f2 (gv q0 p1) (3 : Int32))) ||| (f2 (gv q0 p1) (4 : Int32))) ||| (f2 (gv q0 p1) (5 : Int32))) ||| (f2 (gv q0 p1) (6 : Int32))))])) _
    refine st16 _ ?_
    show Steps p.tables e below (T16.setTop (mkF m 115 #[.val (.long q0), .second, .val (.int p1), .val (.long (gc q0 p1)), .second, .val (.long (gv q0 p1)), .second, .unset, .unset] [(.long (f2 (gv q0 p1) (7 : Int32))), (.long (((((((f2 (gv q0 p1) (0 : Int32)) ||| (f2 (gv q0 p1) (1 : Int32))) ||| (f2 (gv q0 p1) (2 : Int32))) ||| (f2 (gv q0 p1) (3 : Int32))) ||| (f2 (gv q0 p1) (4 : Int32))) ||| (f2 (gv q0 p1) (5 : Int32))) ||| (f2 (gv q0 p1) (6 : Int32))))])) _
    refine XS.lor X16.here hx rfl (hb hby at_115) rfl ?_
    show Steps p.tables e below (T16.setTop (mkF m 116 #[.val (.long q0), .second, .val (.int p1), .val (.long (gc q0 p1)), .second, .val (.long (gv q0 p1)), .second, .unset, .unset] [(.long ((((((((f2 (gv q0 p1) (0 : Int32)) ||| (f2 (gv q0 p1) (1 : Int32))) ||| (f2 (gv q0 p1) (2 : Int32))) ||| (f2 (gv q0 p1) (3 : Int32))) ||| (f2 (gv q0 p1) (4 : Int32))) ||| (f2 (gv q0 p1) (5 : Int32))) ||| (f2 (gv q0 p1) (6 : Int32))) ||| (f2 (gv q0 p1) (7 : Int32))))])) _
    refine XS.lstore X16.here hx rfl (hb hby at_116) rfl (l' := #[.val (.long q0), .second, .val (.int p1), .val (.long (gc q0 p1)), .second, .val (.long (gv q0 p1)), .second, .val (.long ((((((((f2 (gv q0 p1) (0 : Int32)) ||| (f2 (gv q0 p1) (1 : Int32))) ||| (f2 (gv q0 p1) (2 : Int32))) ||| (f2 (gv q0 p1) (3 : Int32))) ||| (f2 (gv q0 p1) (4 : Int32))) ||| (f2 (gv q0 p1) (5 : Int32))) ||| (f2 (gv q0 p1) (6 : Int32))) ||| (f2 (gv q0 p1) (7 : Int32)))), .second]) rfl ?_
    show Steps p.tables e below (T16.setTop (mkF m 118 #[.val (.long q0), .second, .val (.int p1), .val (.long (gc q0 p1)), .second, .val (.long (gv q0 p1)), .second, .val (.long ((((((((f2 (gv q0 p1) (0 : Int32)) ||| (f2 (gv q0 p1) (1 : Int32))) ||| (f2 (gv q0 p1) (2 : Int32))) ||| (f2 (gv q0 p1) (3 : Int32))) ||| (f2 (gv q0 p1) (4 : Int32))) ||| (f2 (gv q0 p1) (5 : Int32))) ||| (f2 (gv q0 p1) (6 : Int32))) ||| (f2 (gv q0 p1) (7 : Int32)))), .second] [])) _
    refine XS.lload X16.here hx rfl (hb hby at_118) rfl ?_
    show Steps p.tables e below (T16.setTop (mkF m 120 #[.val (.long q0), .second, .val (.int p1), .val (.long (gc q0 p1)), .second, .val (.long (gv q0 p1)), .second, .val (.long ((((((((f2 (gv q0 p1) (0 : Int32)) ||| (f2 (gv q0 p1) (1 : Int32))) ||| (f2 (gv q0 p1) (2 : Int32))) ||| (f2 (gv q0 p1) (3 : Int32))) ||| (f2 (gv q0 p1) (4 : Int32))) ||| (f2 (gv q0 p1) (5 : Int32))) ||| (f2 (gv q0 p1) (6 : Int32))) ||| (f2 (gv q0 p1) (7 : Int32)))), .second] [(.long (gv q0 p1))])) _
    refine st17 _ ?_
    show Steps p.tables e below (T17.setTop (mkF m 123 #[.val (.long q0), .second, .val (.int p1), .val (.long (gc q0 p1)), .second, .val (.long (gv q0 p1)), .second, .val (.long ((((((((f2 (gv q0 p1) (0 : Int32)) ||| (f2 (gv q0 p1) (1 : Int32))) ||| (f2 (gv q0 p1) (2 : Int32))) ||| (f2 (gv q0 p1) (3 : Int32))) ||| (f2 (gv q0 p1) (4 : Int32))) ||| (f2 (gv q0 p1) (5 : Int32))) ||| (f2 (gv q0 p1) (6 : Int32))) ||| (f2 (gv q0 p1) (7 : Int32)))), .second] [(.long (f3 (gv q0 p1)))])) _
    refine XS.lload X17.here hx rfl (hb hby at_123) rfl ?_
    show Steps p.tables e below (T17.setTop (mkF m 125 #[.val (.long q0), .second, .val (.int p1), .val (.long (gc q0 p1)), .second, .val (.long (gv q0 p1)), .second, .val (.long ((((((((f2 (gv q0 p1) (0 : Int32)) ||| (f2 (gv q0 p1) (1 : Int32))) ||| (f2 (gv q0 p1) (2 : Int32))) ||| (f2 (gv q0 p1) (3 : Int32))) ||| (f2 (gv q0 p1) (4 : Int32))) ||| (f2 (gv q0 p1) (5 : Int32))) ||| (f2 (gv q0 p1) (6 : Int32))) ||| (f2 (gv q0 p1) (7 : Int32)))), .second] [(.long ((((((((f2 (gv q0 p1) (0 : Int32)) ||| (f2 (gv q0 p1) (1 : Int32))) ||| (f2 (gv q0 p1) (2 : Int32))) ||| (f2 (gv q0 p1) (3 : Int32))) ||| (f2 (gv q0 p1) (4 : Int32))) ||| (f2 (gv q0 p1) (5 : Int32))) ||| (f2 (gv q0 p1) (6 : Int32))) ||| (f2 (gv q0 p1) (7 : Int32)))), (.long (f3 (gv q0 p1)))])) _
    refine XS.lcmp X17.here hx rfl (hb hby at_125) rfl ?_
    exact kt
  by_cases hc19 : (f3 (gv q0 p1)) = ((((((((f2 (gv q0 p1) (0 : Int32)) ||| (f2 (gv q0 p1) (1 : Int32))) ||| (f2 (gv q0 p1) (2 : Int32))) ||| (f2 (gv q0 p1) (3 : Int32))) ||| (f2 (gv q0 p1) (4 : Int32))) ||| (f2 (gv q0 p1) (5 : Int32))) ||| (f2 (gv q0 p1) (6 : Int32))) ||| (f2 (gv q0 p1) (7 : Int32)))
  · skip
    have K20 : ∀ t, Steps p.tables e below (T17.setTop (mkF m 134 #[.val (.long q0), .second, .val (.int p1), .val (.long (gc q0 p1)), .second, .val (.long (gv q0 p1)), .second, .val (.long ((((((((f2 (gv q0 p1) (0 : Int32)) ||| (f2 (gv q0 p1) (1 : Int32))) ||| (f2 (gv q0 p1) (2 : Int32))) ||| (f2 (gv q0 p1) (3 : Int32))) ||| (f2 (gv q0 p1) (4 : Int32))) ||| (f2 (gv q0 p1) (5 : Int32))) ||| (f2 (gv q0 p1) (6 : Int32))) ||| (f2 (gv q0 p1) (7 : Int32)))), .second] [(.int (1 : Int32))])) t → Steps p.tables e below (s₁.setTop (mkF m 0 #[.val (.long q0), .second, .val (.int p1), .unset, .unset, .unset, .unset, .unset, .unset] [])) t := by
      intro t kt
      refine K18 _ ?_
      show Steps p.tables e below (T17.setTop (mkF m 126 #[.val (.long q0), .second, .val (.int p1), .val (.long (gc q0 p1)), .second, .val (.long (gv q0 p1)), .second, .val (.long ((((((((f2 (gv q0 p1) (0 : Int32)) ||| (f2 (gv q0 p1) (1 : Int32))) ||| (f2 (gv q0 p1) (2 : Int32))) ||| (f2 (gv q0 p1) (3 : Int32))) ||| (f2 (gv q0 p1) (4 : Int32))) ||| (f2 (gv q0 p1) (5 : Int32))) ||| (f2 (gv q0 p1) (6 : Int32))) ||| (f2 (gv q0 p1) (7 : Int32)))), .second] [(.int (lcmpW (f3 (gv q0 p1)) ((((((((f2 (gv q0 p1) (0 : Int32)) ||| (f2 (gv q0 p1) (1 : Int32))) ||| (f2 (gv q0 p1) (2 : Int32))) ||| (f2 (gv q0 p1) (3 : Int32))) ||| (f2 (gv q0 p1) (4 : Int32))) ||| (f2 (gv q0 p1) (5 : Int32))) ||| (f2 (gv q0 p1) (6 : Int32))) ||| (f2 (gv q0 p1) (7 : Int32)))))])) _
      refine XS.ifNo X17.here hx rfl (hb hby at_126) rfl ((if0 _ _).trans (teq ((lw_eq _ _).mpr hc19)).2) ?_
      show Steps p.tables e below (T17.setTop (mkF m 129 #[.val (.long q0), .second, .val (.int p1), .val (.long (gc q0 p1)), .second, .val (.long (gv q0 p1)), .second, .val (.long ((((((((f2 (gv q0 p1) (0 : Int32)) ||| (f2 (gv q0 p1) (1 : Int32))) ||| (f2 (gv q0 p1) (2 : Int32))) ||| (f2 (gv q0 p1) (3 : Int32))) ||| (f2 (gv q0 p1) (4 : Int32))) ||| (f2 (gv q0 p1) (5 : Int32))) ||| (f2 (gv q0 p1) (6 : Int32))) ||| (f2 (gv q0 p1) (7 : Int32)))), .second] [])) _
      refine XS.iconst X17.here hx rfl (hb hby at_129) ?_
      show Steps p.tables e below (T17.setTop (mkF m 130 #[.val (.long q0), .second, .val (.int p1), .val (.long (gc q0 p1)), .second, .val (.long (gv q0 p1)), .second, .val (.long ((((((((f2 (gv q0 p1) (0 : Int32)) ||| (f2 (gv q0 p1) (1 : Int32))) ||| (f2 (gv q0 p1) (2 : Int32))) ||| (f2 (gv q0 p1) (3 : Int32))) ||| (f2 (gv q0 p1) (4 : Int32))) ||| (f2 (gv q0 p1) (5 : Int32))) ||| (f2 (gv q0 p1) (6 : Int32))) ||| (f2 (gv q0 p1) (7 : Int32)))), .second] [(.int (1 : Int32))])) _
      refine XS.goto X17.here hx rfl (pc0 := 130) (pc' := 134) rfl (hb hby at_130) (by decide) (by decide) ?_
      exact kt
    have hv : f0 q0 p1 = (1 : Int32) := by simp only [f0, if_pos hc19]
    obtain ⟨fs, hr, hrun, hended, hW, hsame⟩ := X17.leave (v := some (.int (1 : Int32))) (fun h => by rw [Bd.returns] at h; cases h)
    refine ⟨_, _, pre0 _ (K20 _ ?_), hrun, hended, _, _, rfl, ?_, ⟨_, rfl⟩, hW, hsame.mono (by decide) (by decide)⟩
    · show Steps p.tables e below (T17.setTop (mkF m 134 #[.val (.long q0), .second, .val (.int p1), .val (.long (gc q0 p1)), .second, .val (.long (gv q0 p1)), .second, .val (.long ((((((((f2 (gv q0 p1) (0 : Int32)) ||| (f2 (gv q0 p1) (1 : Int32))) ||| (f2 (gv q0 p1) (2 : Int32))) ||| (f2 (gv q0 p1) (3 : Int32))) ||| (f2 (gv q0 p1) (4 : Int32))) ||| (f2 (gv q0 p1) (5 : Int32))) ||| (f2 (gv q0 p1) (6 : Int32))) ||| (f2 (gv q0 p1) (7 : Int32)))), .second] [(.int (1 : Int32))])) _
      exact retN X17 hx (t := .boolean) Bd.returns (by simp) (hb hby at_134) hr
    · show Q0 Z q0 p1  h0 _ T17.heap _
      rw [e17]
      exact ⟨by rw [hv], rfl, rfl⟩
  · skip
    have K21 : ∀ t, Steps p.tables e below (T17.setTop (mkF m 134 #[.val (.long q0), .second, .val (.int p1), .val (.long (gc q0 p1)), .second, .val (.long (gv q0 p1)), .second, .val (.long ((((((((f2 (gv q0 p1) (0 : Int32)) ||| (f2 (gv q0 p1) (1 : Int32))) ||| (f2 (gv q0 p1) (2 : Int32))) ||| (f2 (gv q0 p1) (3 : Int32))) ||| (f2 (gv q0 p1) (4 : Int32))) ||| (f2 (gv q0 p1) (5 : Int32))) ||| (f2 (gv q0 p1) (6 : Int32))) ||| (f2 (gv q0 p1) (7 : Int32)))), .second] [(.int (0 : Int32))])) t → Steps p.tables e below (s₁.setTop (mkF m 0 #[.val (.long q0), .second, .val (.int p1), .unset, .unset, .unset, .unset, .unset, .unset] [])) t := by
      intro t kt
      refine K18 _ ?_
      show Steps p.tables e below (T17.setTop (mkF m 126 #[.val (.long q0), .second, .val (.int p1), .val (.long (gc q0 p1)), .second, .val (.long (gv q0 p1)), .second, .val (.long ((((((((f2 (gv q0 p1) (0 : Int32)) ||| (f2 (gv q0 p1) (1 : Int32))) ||| (f2 (gv q0 p1) (2 : Int32))) ||| (f2 (gv q0 p1) (3 : Int32))) ||| (f2 (gv q0 p1) (4 : Int32))) ||| (f2 (gv q0 p1) (5 : Int32))) ||| (f2 (gv q0 p1) (6 : Int32))) ||| (f2 (gv q0 p1) (7 : Int32)))), .second] [(.int (lcmpW (f3 (gv q0 p1)) ((((((((f2 (gv q0 p1) (0 : Int32)) ||| (f2 (gv q0 p1) (1 : Int32))) ||| (f2 (gv q0 p1) (2 : Int32))) ||| (f2 (gv q0 p1) (3 : Int32))) ||| (f2 (gv q0 p1) (4 : Int32))) ||| (f2 (gv q0 p1) (5 : Int32))) ||| (f2 (gv q0 p1) (6 : Int32))) ||| (f2 (gv q0 p1) (7 : Int32)))))])) _
      refine XS.ifYes X17.here hx rfl (pc0 := 126) (pc' := 133) rfl (hb hby at_126) rfl ((if0 _ _).trans (feq (mt (lw_eq _ _).mp hc19)).2) (by decide) (by decide) ?_
      show Steps p.tables e below (T17.setTop (mkF m 133 #[.val (.long q0), .second, .val (.int p1), .val (.long (gc q0 p1)), .second, .val (.long (gv q0 p1)), .second, .val (.long ((((((((f2 (gv q0 p1) (0 : Int32)) ||| (f2 (gv q0 p1) (1 : Int32))) ||| (f2 (gv q0 p1) (2 : Int32))) ||| (f2 (gv q0 p1) (3 : Int32))) ||| (f2 (gv q0 p1) (4 : Int32))) ||| (f2 (gv q0 p1) (5 : Int32))) ||| (f2 (gv q0 p1) (6 : Int32))) ||| (f2 (gv q0 p1) (7 : Int32)))), .second] [])) _
      refine XS.iconst X17.here hx rfl (hb hby at_133) ?_
      exact kt
    have hv : f0 q0 p1 = (0 : Int32) := by simp only [f0, if_neg hc19]
    obtain ⟨fs, hr, hrun, hended, hW, hsame⟩ := X17.leave (v := some (.int (0 : Int32))) (fun h => by rw [Bd.returns] at h; cases h)
    refine ⟨_, _, pre0 _ (K21 _ ?_), hrun, hended, _, _, rfl, ?_, ⟨_, rfl⟩, hW, hsame.mono (by decide) (by decide)⟩
    · show Steps p.tables e below (T17.setTop (mkF m 134 #[.val (.long q0), .second, .val (.int p1), .val (.long (gc q0 p1)), .second, .val (.long (gv q0 p1)), .second, .val (.long ((((((((f2 (gv q0 p1) (0 : Int32)) ||| (f2 (gv q0 p1) (1 : Int32))) ||| (f2 (gv q0 p1) (2 : Int32))) ||| (f2 (gv q0 p1) (3 : Int32))) ||| (f2 (gv q0 p1) (4 : Int32))) ||| (f2 (gv q0 p1) (5 : Int32))) ||| (f2 (gv q0 p1) (6 : Int32))) ||| (f2 (gv q0 p1) (7 : Int32)))), .second] [(.int (0 : Int32))])) _
      exact retN X17 hx (t := .boolean) Bd.returns (by simp) (hb hby at_134) hr
    · show Q0 Z q0 p1  h0 _ T17.heap _
      rw [e17]
      exact ⟨by rw [hv], rfl, rfl⟩
theorem own_f3 (q : Int64) : (f3 q).toBitVec = own_z q.toBitVec := rfl
theorem own_f2 (q : Int64) (j : Int32) (k : Nat) (h : ((8 : Int32) * j).toBitVec.toNat % 64 = 8 * k) : (f2 q j).toBitVec = own_mk q.toBitVec k := by
  have e : ((((q.toUInt64 >>> (((8 : Int32) * j) &&& 0x3f).toInt64.toUInt64).toInt64) &&& (255 : Int64)) = (0 : Int64)) ↔ ((q.toBitVec >>> (8 * k)) &&& 255#64 = 0#64) := by
    rw [← Int64.toBitVec_inj, Int64.toBitVec_and, own_lushr _ _ _ h]
    exact Iff.rfl
  unfold f2 own_mk
  by_cases hc : (q.toBitVec >>> (8 * k)) &&& 255#64 = 0#64
  · rw [if_pos (e.mpr hc), if_pos hc, own_lshl _ _ _ h]; rfl
  · rw [if_neg (mt e.mp hc), if_neg hc]; rfl
theorem own_all (q : Int64) : f3 q = ((((((((f2 q (0 : Int32)) ||| (f2 q (1 : Int32))) ||| (f2 q (2 : Int32))) ||| (f2 q (3 : Int32))) ||| (f2 q (4 : Int32))) ||| (f2 q (5 : Int32))) ||| (f2 q (6 : Int32))) ||| (f2 q (7 : Int32))) := by
  apply Int64.toBitVec_inj.mp
  rw [Int64.toBitVec_or, Int64.toBitVec_or, Int64.toBitVec_or, Int64.toBitVec_or, Int64.toBitVec_or, Int64.toBitVec_or, Int64.toBitVec_or, own_f3,
    own_f2 q 0 0 (by decide), own_f2 q 1 1 (by decide), own_f2 q 2 2 (by decide), own_f2 q 3 3 (by decide), own_f2 q 4 4 (by decide), own_f2 q 5 5 (by decide), own_f2 q 6 6 (by decide), own_f2 q 7 7 (by decide)]
  exact own_zero _
theorem own_law (x : Int64) (c : Int32) : f0 x c = 1 := by
  unfold f0
  rw [if_pos (own_all _)]
set_option maxRecDepth 65536 in
set_option maxHeartbeats 40000000 in
theorem comes_1 {Post : Tables → Env → Array Value → State → Outcome → State → Prop} (hpost : ∀ tb e args s v u, (limb_1_1.after args s (.returned v) u = true ∧ limb_1_2.after args s (.returned v) u = true ∧ True) → FrameEnd s (.returned v) u (Jvm.fieldLocs frame_1_writes args s ++ Jvm.arrayLocs frame_1_arrays args s ++ Jvm.staticLocs frame_1_statics s) 0 0 → Post tb e args s (.returned v) u) :
    ArmFor flags0 classFile x code maxLocals ret World_1 tables_1 room_1 Calls_1 rest_1 Pre_1 Post := by
  intro l hfl _ _ p e ha hc hk s m args below hf hA hF happ hP
  obtain ⟨hcalls, hrest, hpre⟩ := hP
  obtain ⟨-, -, -, hnamed, -, -, -, hat⟩ := (Spec.applies_iff hf).mp happ
  obtain ⟨hg, hn⟩ := and_e (Cond.before_iff.mp (show (Jvm.Cond.and given_1 narrow_1).before args s = true from hpre))
  obtain ⟨hcount, hk0⟩ := and_e hg
  obtain ⟨hi0, hk1⟩ := and_e hk0
  have hi1 := hk1
  obtain ⟨w0, w1, rfl⟩ : ∃ w0 w1 : Value, args = #[w0, w1] := by
    have hs : args.size = 2 := by simpa [Cond.value, given_1] using hcount
    obtain ⟨L⟩ := args
    match L, hs with
    | [w0, w1], _ => exact ⟨w0, w1, rfl⟩
  have hw := fun d (hd : d ∈ tables_1) => atoms_spec (ws := Jvm.Cond.code x code maxLocals ret :: tables_1) hat d (List.mem_cons_of_mem _ hd)
  obtain ⟨i0, ei0⟩ := isL_v hi0
  obtain rfl : w0 = (.long i0) := Option.some.inj ei0
  obtain ⟨i1, ei1⟩ := is_v hi1
  obtain rfl : w1 = (.int i1) := Option.some.inj ei1
  obtain ⟨n, o, h1, h2, h3, v, L, rfl, hQ, hq⟩ := rm0 l s _ hw tables_1 i0 i1 s.heap p e ha hc hk s m _ below hf ((Spec.applies_iff_loose hf).mp happ).1 ⟨rfl, State.Warmed39.refl s, rfl⟩ trivial
  obtain ⟨rfl, N⟩ : v = some (.int 1) ∧ Fr s.heap.size L := by
    obtain ⟨q1, q2, -⟩ := hQ
    subst q2
    rw [own_law i0 i1] at q1
    exact ⟨q1, Fr.nil _⟩
  refine ⟨n, _, h1, h2, h3, hpost _ _ _ _ _ _ ⟨Cond.after_iff.mpr rfl, Cond.after_iff.mpr (eq_i res_at (Term.int_eval (1)) rfl), trivial⟩ ⟨hq.1, hq.2.1, (hq.2.2.sift fun y hy => Or.inr (N y hy)).mono (by decide) (by decide)⟩⟩
theorem main_1_1 : Claimed_1_1 := comes_1 fun _ _ _ _ _ _ h hF => ⟨h.1, hF⟩
theorem main_1_2 : Claimed_1_2 := comes_1 fun _ _ _ _ _ _ h hF => ⟨h.2.1, hF⟩
end Jvm.Pilot.@@N@@
namespace Jvm.Pilot.@@N@@
open Jvm Jvm.ClassFile Sem Op Lib Jvm.Free Jvm.Stand Jvm.Pilot.@@N@@.Jvm.D
/-! MADE BY PROGRAM (witnessworld.py) out of the Statement's table words and the real class files: 9 classes; the members and pool entries that the words name. The judged class is class 1, her method 3. -/
namespace start1
open Jvm.ClassFile
def u (s : String) : CpInfo := .utf8 (stringToUtf16 s)
/-- a pool by its gaps: so many unusable entries, then the entry; so many at the end -/
def gap : Nat → List CpInfo → List CpInfo
  | 0, r => r
  | n + 1, r => .unusable :: gap n r
def poolList (es : List (Nat × CpInfo)) (last : Nat) : List CpInfo := es.foldr (fun e r => gap e.1 (e.2 :: r)) (gap last [])
def pool (es : List (Nat × CpInfo)) (last : Nat) : Array CpInfo := ⟨poolList es last⟩
def fileOf (pool : Array CpInfo) (this : Nat) (attrs : Array Attribute := #[]) (ms : Array MethodInfo := #[]) (fl : Nat := 33) (sup : Nat := 0) (ifs : Array Nat := #[]) (fds : Array FieldInfo := #[]) : ClassFile where
  minorVersion := 0
  majorVersion := 65
  constantPool := pool
  accessFlags := fl
  thisClass := this
  superClass := sup
  interfaces := ifs
  fields := fds
  methods := ms
  attributes := attrs
def plain (name : String) (sup : Option ClassId) : Class where
  name := name
  kind := .ordinary
  loader := none
  accessFlags := 33
  super := sup
  interfaces := #[]
  cf := none
  fields := #[]
  methods := #[]
  instanceTypes := #[]
  staticTypes := #[]
  resolved := #[]
  callSites := []
  init := .initialized
  statics := none
  mirror := none

def pool0 : Array CpInfo := pool [(5, u "<init>"), (0, u "()V"), (1, .class_ 10), (1, u "java/lang/Object")] 113

def k0m0 : Method := { name := "<init>", desc := "()V", sig := { parameters := [], returnType := none }, accessFlags := 1, code := none }
/-- java/lang/Object -/
def k0 : Class := { plain "java/lang/Object" none with
  accessFlags := 33
  interfaces := #[]
  cf := some (fileOf pool0 8 #[] #[{ accessFlags := 1, nameIndex := 5, descriptorIndex := 6, attributes := #[] }] 33 0 #[] #[])
  fields := #[]
  methods := #[k0m0]
  instanceTypes := #[]
  staticTypes := #[]
  resolved := Array.replicate 124 none
  statics := none }

def pool1 : Array CpInfo := pool [(2, .class_ 4), (1, u "java/lang/Object"), (0, u "<init>"), (0, u "()V"), (0, .long 255), (1, .long 128), (1, .methodref 12 13), (0, .class_ 14), (0, .nameAndType 15 16), (0, u "com/example/troth/troth/EightBytesZeroesPinLaw"), (0, u "cleared"), (0, u "(II)J"), (0, .long 18446744073709551615), (1, .methodref 12 20), (0, .nameAndType 21 22), (0, u "mark"), (0, u "(JI)J"), (0, .methodref 24 25), (0, .class_ 26), (0, .nameAndType 27 28), (0, u "com/example/troth/troth/EightBytes"), (0, u "zeroes"), (0, u "(J)J"), (3, u "law"), (0, u "(JI)Z")] 2

def k1m0 : Method := { name := "<init>", desc := "()V", sig := { parameters := [], returnType := none }, accessFlags := 2, code := none }
def k1c1 : Code := { maxStack := 4, maxLocals := 2, code := method_2_code, exceptionTable := #[], attributes := #[] }
def k1m1 : Method := { name := "cleared", desc := "(II)J", sig := { parameters := [.int, .int], returnType := some .long }, accessFlags := 10, code := some k1c1 }
def k1c2 : Code := { maxStack := 4, maxLocals := 3, code := method_3_code, exceptionTable := #[], attributes := #[] }
def k1m2 : Method := { name := "mark", desc := "(JI)J", sig := { parameters := [.long, .int], returnType := some .long }, accessFlags := 10, code := some k1c2 }
def k1c3 : Code := { maxStack := 6, maxLocals := 9, code := code, exceptionTable := #[], attributes := #[] }
def k1m3 : Method := { name := "law", desc := "(JI)Z", sig := { parameters := [.long, .int], returnType := some .boolean }, accessFlags := 9, code := some k1c3 }
/-- com/example/troth/troth/EightBytesZeroesPinLaw -/
def k1 : Class := { plain "com/example/troth/troth/EightBytesZeroesPinLaw" (some 0) with
  accessFlags := 49
  interfaces := #[]
  cf := some (fileOf pool1 12 #[] #[{ accessFlags := 2, nameIndex := 5, descriptorIndex := 6, attributes := #[] }, { accessFlags := 10, nameIndex := 15, descriptorIndex := 16, attributes := #[] }, { accessFlags := 10, nameIndex := 21, descriptorIndex := 22, attributes := #[] }, { accessFlags := 9, nameIndex := 32, descriptorIndex := 33, attributes := #[] }] 49 2 #[] #[])
  fields := #[]
  methods := #[k1m0, k1m1, k1m2, k1m3]
  instanceTypes := #[]
  staticTypes := #[]
  resolved := Array.replicate 36 none
  statics := none }

def pool2 : Array CpInfo := pool [(1, .class_ 2), (0, u "com/example/troth/troth/EightBytes"), (1, .class_ 6), (1, u "java/lang/Object"), (0, u "<init>"), (0, u "()V"), (4, u "LONGS"), (0, u "Ljava/lang/invoke/VarHandle;"), (14, .long 9187201950435737471), (1, .long 18446744073709551615), (23, u "ONES"), (0, u "J"), (1, u "HIGH_BITS"), (0, u "LOW_BITS"), (0, u "GATHER"), (7, u "zeroes"), (0, u "(J)J")] 5

def k2m0 : Method := { name := "<init>", desc := "()V", sig := { parameters := [], returnType := none }, accessFlags := 2, code := none }
def k2c1 : Code := { maxStack := 4, maxLocals := 2, code := prog_25_method_5_code, exceptionTable := #[], attributes := #[] }
def k2m1 : Method := { name := "zeroes", desc := "(J)J", sig := { parameters := [.long], returnType := some .long }, accessFlags := 8, code := some k2c1 }
/-- com/example/troth/troth/EightBytes -/
def k2 : Class := { plain "com/example/troth/troth/EightBytes" (some 0) with
  accessFlags := 48
  interfaces := #[]
  cf := some (fileOf pool2 1 #[] #[{ accessFlags := 2, nameIndex := 7, descriptorIndex := 8, attributes := #[] }, { accessFlags := 8, nameIndex := 68, descriptorIndex := 69, attributes := #[] }] 48 4 #[] #[{ accessFlags := 24, nameIndex := 55, descriptorIndex := 56, attributes := #[] }, { accessFlags := 24, nameIndex := 58, descriptorIndex := 56, attributes := #[] }, { accessFlags := 26, nameIndex := 59, descriptorIndex := 56, attributes := #[] }, { accessFlags := 26, nameIndex := 60, descriptorIndex := 56, attributes := #[] }, { accessFlags := 26, nameIndex := 13, descriptorIndex := 14, attributes := #[] }])
  fields := #[{ name := "ONES", type := .long, accessFlags := 24, slot := 0, constantValue := 0 }, { name := "HIGH_BITS", type := .long, accessFlags := 24, slot := 1, constantValue := 0 }, { name := "LOW_BITS", type := .long, accessFlags := 26, slot := 2, constantValue := 0 }, { name := "GATHER", type := .long, accessFlags := 26, slot := 3, constantValue := 0 }, { name := "LONGS", type := (.object "java/lang/invoke/VarHandle"), accessFlags := 26, slot := 4, constantValue := 0 }]
  methods := #[k2m0, k2m1]
  instanceTypes := #[]
  staticTypes := #[.long, .long, .long, .long, (.object "java/lang/invoke/VarHandle")]
  resolved := Array.replicate 75 none
  statics := none }

def pool3 : Array CpInfo := pool [(1, u "java/lang/Cloneable"), (0, .class_ 1), (0, u "java/lang/Object"), (0, .class_ 3)] 3

/-- java/lang/Cloneable -/
def k3 : Class := { plain "java/lang/Cloneable" (some 0) with
  accessFlags := 1537
  interfaces := #[]
  cf := some (fileOf pool3 2 #[] #[] 1537 4 #[] #[])
  fields := #[]
  methods := #[]
  instanceTypes := #[]
  staticTypes := #[]
  resolved := Array.replicate 8 none
  statics := none }

def pool4 : Array CpInfo := pool [(1, u "java/io/Serializable"), (0, .class_ 1), (0, u "java/lang/Object"), (0, .class_ 3)] 3

/-- java/io/Serializable -/
def k4 : Class := { plain "java/io/Serializable" (some 0) with
  accessFlags := 1537
  interfaces := #[]
  cf := some (fileOf pool4 2 #[] #[] 1537 4 #[] #[])
  fields := #[]
  methods := #[]
  instanceTypes := #[]
  staticTypes := #[]
  resolved := Array.replicate 8 none
  statics := none }

/-- the primitive byte -/
def k5 : Class := { plain "byte" none with kind := .primitive 'B', accessFlags := 0x411 }
/-- [B -/
def k6 : Class := { plain "[B" (some 0) with kind := .array 5 .byte, interfaces := #[3, 4], accessFlags := 1041 }

/-- the primitive int -/
def k7 : Class := { plain "int" none with kind := .primitive 'I', accessFlags := 0x411 }
/-- [I -/
def k8 : Class := { plain "[I" (some 0) with kind := .array 7 .int, interfaces := #[3, 4], accessFlags := 1041 }

def heap : Heap := #[]
def classes : Array Class := #[k0, k1, k2, k3, k4, k5, k6, k7, k8]
def interned : List (Array UInt16 × Addr) := []
def slotsUsed : Nat := 0
def theMethod : MethodId := ⟨1, 3⟩
def args0 : Array Value := #[.long 5, .int 5]
def aboutOver (below : List Frame) : State where
  vm := { classes := classes, interned := interned.toArray }
  heap := heap
  slotsUsed := slotsUsed
  threads := #[{ frames := .invoking theMethod args0 :: below }]
def below0 : List Frame := [.native { method := ⟨0, 0⟩, args := #[] }]
def about1 : State := aboutOver below0
def p0 : Program := .bare "" "" ""
def e0 : Env := launch0.env 0 0 0
theorem w_frames : about1.frames = Frame.invoking theMethod args0 :: below0 := rfl
set_option maxRecDepth 65536 in
theorem w_args : argsFit about1.vm theMethod args0 = true := by decide +kernel
set_option maxRecDepth 65536 in
theorem w_heap : heapFits about1 = true := by decide +kernel
set_option maxRecDepth 65536 in
theorem w_runnable : about1.curStatus? = some .runnable := by decide +kernel
set_option maxRecDepth 65536 in
theorem w_alone : about1.alone = true := by decide +kernel
set_option maxRecDepth 65536 in
theorem w_named : about1.methodNamed? x = some theMethod := by decide +kernel
set_option maxRecDepth 65536 in
theorem w_hears : about1.hears theMethod below0 = true := by decide +kernel
set_option maxRecDepth 65536 in
theorem w_ripe : about1.ripe theMethod args0 below0 = true := by decide +kernel
theorem w_running : about1.status = .running := rfl
set_option maxRecDepth 65536 in
theorem w_room : about1.hasRoom e0.platform room_1 = true :=
  launch0.hasRoom_least _ room_1 (by decide +kernel) (by decide +kernel) (by decide +kernel) (by decide +kernel) (by decide +kernel) (by decide +kernel)
theorem allAtoms_all (ts : List Jvm.Cond) (a : Array Jvm.Value) (st : Jvm.State) : (allAtoms ts).before a st = ts.all (fun c => c.before a st) := by
  induction ts with
  | nil => rfl
  | cons c t ih =>
    show (Jvm.Cond.and c (allAtoms t)).before a st = _
    rw [Jvm.Cond.before_and, ih, List.all_cons]
def words1 : List Jvm.Cond := Jvm.Cond.code x code maxLocals ret :: tables_1
/-- a 'code' word, met by the world's own term for the bytes: nothing is compared byte by byte -/
theorem code_word {y : MethodName} {bytes : ByteArray} {mx : Nat} {rt : Option FieldType} {a : Array Value} {s : State} {m : MethodId} {meth : Method} {c : Code} (h1 : s.methodNamed? y = some m) (h2 : s.vm.method? m = some meth) (h3 : meth.code = some c) (h4 : c.code = bytes)
    (h5 : (c.maxLocals == mx && c.exceptionTable.isEmpty && decide (c.maxStack ≤ mostOperands) && decide (meth.sig.returnType = rt) && !meth.locks && decide (parseMethodDescriptor y.desc = some meth.sig)) = true) : (Jvm.Cond.code y bytes mx rt).before a s = true := by
  simp only [Bool.and_eq_true, beq_iff_eq, Bool.not_eq_true', decide_eq_true_eq] at h5
  obtain ⟨⟨⟨⟨⟨g1, g2⟩, g3⟩, g4⟩, g5⟩, g6⟩ := h5
  simp [Cond.before, Cond.holds, Cond.value, h1, h2, h3, h4, g1, g2, g3, g4, g5, g6]
def isCode : Jvm.Cond → Bool
  | .code _ _ _ _ => true
  | _ => false
theorem all_split {L : List Jvm.Cond} {P : Jvm.Cond → Bool} (h1 : L.all (fun c => isCode c || P c) = true) (h2 : ∀ c ∈ L.filter isCode, P c = true) : L.all P = true := by
  refine List.all_eq_true.mpr fun c hc => ?_
  have h := List.all_eq_true.mp h1 c hc
  rcases Bool.eq_false_or_eq_true (isCode c) with hi | hi
  · exact h2 c (List.mem_filter.mpr ⟨hc, hi⟩)
  · simpa [hi] using h
set_option maxRecDepth 65536 in
theorem w_c0 : (Jvm.Cond.code x code maxLocals ret).before args0 about1 = true := code_word (m := ⟨1, 3⟩) (meth := k1m3) (c := k1c3) (by decide +kernel) rfl rfl rfl (by decide +kernel)
set_option maxRecDepth 65536 in
theorem w_c1 : (Jvm.Cond.code ({ cls := "com/example/troth/troth/EightBytesZeroesPinLaw", name := "cleared", desc := "(II)J" } : Jvm.MethodName) method_2_code (2 : Nat) (Option.some Jvm.ClassFile.FieldType.long)).before args0 about1 = true := code_word (m := ⟨1, 1⟩) (meth := k1m1) (c := k1c1) (by decide +kernel) rfl rfl rfl (by decide +kernel)
set_option maxRecDepth 65536 in
theorem w_c2 : (Jvm.Cond.code ({ cls := "com/example/troth/troth/EightBytesZeroesPinLaw", name := "mark", desc := "(JI)J" } : Jvm.MethodName) method_3_code (3 : Nat) (Option.some Jvm.ClassFile.FieldType.long)).before args0 about1 = true := code_word (m := ⟨1, 2⟩) (meth := k1m2) (c := k1c2) (by decide +kernel) rfl rfl rfl (by decide +kernel)
set_option maxRecDepth 65536 in
theorem w_c3 : (Jvm.Cond.code ({ cls := "com/example/troth/troth/EightBytes", name := "zeroes", desc := "(J)J" } : Jvm.MethodName) prog_25_method_5_code (2 : Nat) (Option.some Jvm.ClassFile.FieldType.long)).before args0 about1 = true := code_word (m := ⟨2, 1⟩) (meth := k2m1) (c := k2c1) (by decide +kernel) rfl rfl rfl (by decide +kernel)
def codes1 : List Jvm.Cond := [Jvm.Cond.code x code maxLocals ret, Jvm.Cond.code ({ cls := "com/example/troth/troth/EightBytesZeroesPinLaw", name := "cleared", desc := "(II)J" } : Jvm.MethodName) method_2_code (2 : Nat) (Option.some Jvm.ClassFile.FieldType.long), Jvm.Cond.code ({ cls := "com/example/troth/troth/EightBytesZeroesPinLaw", name := "mark", desc := "(JI)J" } : Jvm.MethodName) method_3_code (3 : Nat) (Option.some Jvm.ClassFile.FieldType.long), Jvm.Cond.code ({ cls := "com/example/troth/troth/EightBytes", name := "zeroes", desc := "(J)J" } : Jvm.MethodName) prog_25_method_5_code (2 : Nat) (Option.some Jvm.ClassFile.FieldType.long)]
set_option maxRecDepth 65536 in
theorem codes_eq : words1.filter isCode = codes1 := rfl
theorem w_codes : ∀ c ∈ words1.filter isCode, c.before args0 about1 = true := by
  rw [codes_eq]
  intro c hc
  simp only [codes1, List.mem_cons, List.not_mem_nil, or_false] at hc
  rcases hc with rfl | rfl | rfl | rfl
  · exact w_c0
  · exact w_c1
  · exact w_c2
  · exact w_c3
set_option maxRecDepth 65536 in
theorem w_t1 : words1.all (fun c => isCode c || c.before args0 about1) = true := by decide +kernel
theorem w_tables : (allAtoms (Jvm.Cond.code x code maxLocals ret :: tables_1)).before args0 about1 = true := by
  rw [allAtoms_all]
  show words1.all (fun c => c.before args0 about1) = true
  refine all_split ?_ w_codes
  rw [w_t1]
set_option maxRecDepth 65536 in
theorem w_case : (Jvm.Cond.and given_1 narrow_1).before args0 about1 = true := by decide +kernel
theorem w_applies : (headSpec (Jvm.Cond.code x code maxLocals ret :: tables_1) room_1).applies x e0.platform about1 = true :=
  (Spec.applies_iff w_frames).mpr ⟨w_running, w_runnable, w_alone, w_named, w_hears, w_ripe, w_room, w_tables⟩
theorem atStart : AtStart classFile x code maxLocals ret World_1 tables_1 room_1 Calls_1 rest_1 Pre_1 launch0 p0 e0 about1 theMethod args0 below0 :=
  ⟨lists_1, trivial, launch0.admits_env _ _ _, launch0.least_env, fairChoices_fair.cas, fairChoices_fair.clock, w_frames, w_args, w_heap, w_applies, trivial, trivial, w_case⟩
end start1
theorem witness_1 : WitnessClaimed_1 := ⟨start1.p0, start1.e0, start1.about1, start1.theMethod, start1.args0, start1.below0, start1.atStart⟩
end Jvm.Pilot.@@N@@
