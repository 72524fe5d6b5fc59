import JvmDerived
import JvmDerived.Pilot.@@N@@Statement
import JvmDerived.Pilot.@@N@@Code
set_option linter.unusedVariables false
set_option linter.unusedSimpArgs false
namespace Jvm.Pilot.@@N@@
open Jvm Jvm.ClassFile Sem Op Lib Jvm.Free Jvm.Stand Jvm.LawKit Jvm.RoadKit Bundle Jvm.Pilot.@@N@@.Jvm.D
-- BY HAND: an array of ints, bytes or chars, by the function that says what lies in each place
def up (f : Nat → Int32) (i : Nat) (v : Int32) : Nat → Int32 := fun j => if j = i then v else f j
theorem up_at (f : Nat → Int32) (i : Nat) (v : Int32) : up f i v i = v := if_pos rfl
theorem up_ne (f : Nat → Int32) {i j : Nat} (v : Int32) (h : j ≠ i) : up f i v j = f j := if_neg h
def Ia (Z : State) (h : Heap) (a : Addr) (ty : FieldType) (n : Nat) (f : Nat → Int32) : Prop :=
  ∃ c : Cell, Arr Z h a c ty ∧ c.slots.size = n ∧ n < 2147483648 ∧ ∀ j, j < n → c.slots[j]? = some (.int (f j)) ∧ fits ty (.int (f j)) = true
theorem clamp_of {j : Int32} {i : Nat} (h : j.toInt = (i : Int)) : j.toNatClampNeg = i := by
  rw [Int32.toNatClampNeg, h]; rfl
theorem inb {j : Int32} {i n : Nat} {c : Cell} (h : j.toInt = (i : Int)) (hn : i < n) (S : c.slots.size = n) : ¬ (j < 0 ∨ c.slots.size ≤ j.toNatClampNeg) := by
  rw [clamp_of h, Int32.lt_iff_toInt_lt, h, S, show (0 : Int32).toInt = 0 from rfl]
  omega
section OwnArr
variable {Z : State} {h h' : Heap} {a b : Addr} {ty : FieldType} {n : Nat} {f : Nat → Int32} {ws : List Addr} {sl : Nat} {v : Value}
theorem Ia.lt (F : Ia Z h a ty n f) : a < h.size := by obtain ⟨c, A, -⟩ := F; exact A.lt
theorem Ia.ext (F : Ia Z h a ty n f) (E : Ext h h') : Ia Z h' a ty n f := by obtain ⟨c, A, r⟩ := F; exact ⟨c, A.ext E, r⟩
theorem Ia.other (F : Ia Z h b ty n f) (W : Wr h h' a sl v) (q : b ≠ a) : Ia Z h' b ty n f := by obtain ⟨c, A, r⟩ := F; exact ⟨c, A.other W q, r⟩
theorem Ia.keep (F : Ia Z h a ty n f) (K : Keep h h' ws) (q : a ∉ ws) : Ia Z h' a ty n f := by obtain ⟨c, A, r⟩ := F; exact ⟨c, ⟨K.2.1 a c A.1 q, A.2⟩, r⟩
theorem Ia.fun {g : Nat → Int32} (F : Ia Z h a ty n f) (e : ∀ j, j < n → f j = g j) : Ia Z h a ty n g := by
  obtain ⟨c, A, S, q, H⟩ := F; exact ⟨c, A, S, q, fun j hj => by rw [← e j hj]; exact H j hj⟩
theorem Ia.set {c : Cell} (A : Arr Z h a c ty) (S : c.slots.size = n) (q : n < 2147483648) (H : ∀ j, j < n → c.slots[j]? = some (.int (f j)) ∧ fits ty (.int (f j)) = true) {i : Nat} {x : Int32} (W : Wr h h' a i (.int x)) (hf : fits ty (.int x) = true) : Ia Z h' a ty n (up f i x) := by
  refine ⟨c.setSlot i (.int x), A.same W, by rw [sz_set]; exact S, q, fun j hj => ?_⟩
  by_cases e : j = i
  · subst e
    rw [up_at]
    refine ⟨?_, hf⟩
    have : j < c.slots.size := by omega
    simp [Cell.setSlot, this]
  · rw [up_ne _ _ e]
    refine ⟨?_, (H j hj).2⟩
    have : ¬ i = j := fun z => e z.symm
    rw [← (H j hj).1]
    simp [Cell.setSlot, this]
theorem Ia.mk0 {k : ClassId} {z : Int32} (A : Arr Z h a (newA k ty z) ty) (hz : z.toInt = (n : Int)) (hd : defaultValue ty = .int 0) (hf : fits ty (.int 0) = true) : Ia Z h a ty n (fun _ => 0) := by
  have e := clamp_of hz
  have := rng32 z
  refine ⟨_, A, by rw [sz_new, e], by omega, fun j hj => ⟨?_, hf⟩⟩
  show (Array.replicate z.toNatClampNeg (defaultValue ty))[j]? = _
  rw [e, hd]
  simp [hj]
end OwnArr
section OwnSteps
variable {p : Program} {l : Launch} {e : Env} {R : Room} {s : State} {m : MethodId} {args : Array Value} {below : List Frame} {meth : Method} {c : Code} {T : State} {locs : List Loc} {cells slots : Nat} {Z : State} {a0 : Array Value} {h : Heap} {a : Addr} {n : Nat} {f : Nat → Int32} {ty : FieldType}
theorem iaI (X : Stand p l e R s m args below meth c T locs cells slots) (hx : p.tables.exec = Jvm.exec) (hZ : Z.Warmed39 s.vm) (eT : T.heap = h) (A : Ia Z h a .int n f) {j x : Int32} (i : Nat) (hi : j.toInt = (i : Int)) (hn : i < n) {g : JFrame} (hg : g.method = m) {rest : List Value} (hs : g.stack = .int x :: .int j :: .ref a :: rest) (hd : decode c.code g.pc = .ok (.iastore, 1)) :
    ∃ T' h', Stand p l e R s m args below meth c T' (locs ++ [⟨a, i⟩]) cells slots ∧ T'.heap = h' ∧ Wr h h' a i (.int x) ∧ Ia Z h' a .int n (up f i x) ∧ ∀ target, Steps p.tables e below (T'.setTop { g with pc := g.pc + 1, stack := rest }) target → Steps p.tables e below (T.setTop g) target := by
  obtain ⟨cl, A1, S, q, H⟩ := A
  obtain ⟨T', h', X', e', W, st⟩ := stI X hx hZ eT A1 (j := j) (inb hi hn S) hg hs hd
  rw [clamp_of hi] at X' W
  exact ⟨T', h', X', e', W, Ia.set A1 S q H W rfl, st⟩
theorem iaB (X : Stand p l e R s m args below meth c T locs cells slots) (hx : p.tables.exec = Jvm.exec) (hZ : Z.Warmed39 s.vm) (eT : T.heap = h) (A : Ia Z h a .byte n f) {j x : Int32} (i : Nat) (hi : j.toInt = (i : Int)) (hn : i < n) {g : JFrame} (hg : g.method = m) {rest : List Value} (hs : g.stack = .int x :: .int j :: .ref a :: rest) (hd : decode c.code g.pc = .ok (.bastore, 1)) :
    ∃ T' h', Stand p l e R s m args below meth c T' (locs ++ [⟨a, i⟩]) cells slots ∧ T'.heap = h' ∧ Wr h h' a i (.int (nar .byte x)) ∧ Ia Z h' a .byte n (up f i (nar .byte x)) ∧ ∀ target, Steps p.tables e below (T'.setTop { g with pc := g.pc + 1, stack := rest }) target → Steps p.tables e below (T.setTop g) target := by
  obtain ⟨cl, A1, S, q, H⟩ := A
  obtain ⟨T', h', X', e', W, st⟩ := stB X hx hZ eT A1 (j := j) (inb hi hn S) hg hs hd
  rw [clamp_of hi] at X' W
  exact ⟨T', h', X', e', W, Ia.set A1 S q H W (fits_nar_byte _), st⟩
theorem iaC (X : Stand p l e R s m args below meth c T locs cells slots) (hx : p.tables.exec = Jvm.exec) (hZ : Z.Warmed39 s.vm) (eT : T.heap = h) (A : Ia Z h a .char n f) {j x : Int32} (i : Nat) (hi : j.toInt = (i : Int)) (hn : i < n) {g : JFrame} (hg : g.method = m) {rest : List Value} (hs : g.stack = .int x :: .int j :: .ref a :: rest) (hd : decode c.code g.pc = .ok (.castore, 1)) :
    ∃ T' h', Stand p l e R s m args below meth c T' (locs ++ [⟨a, i⟩]) cells slots ∧ T'.heap = h' ∧ Wr h h' a i (.int (nar .char x)) ∧ Ia Z h' a .char n (up f i (nar .char x)) ∧ ∀ target, Steps p.tables e below (T'.setTop { g with pc := g.pc + 1, stack := rest }) target → Steps p.tables e below (T.setTop g) target := by
  obtain ⟨cl, A1, S, q, H⟩ := A
  obtain ⟨T', h', X', e', W, st⟩ := stC X hx hZ eT A1 (j := j) (inb hi hn S) hg hs hd
  rw [clamp_of hi] at X' W
  exact ⟨T', h', X', e', W, Ia.set A1 S q H W (fits_nar_char _), st⟩
theorem iaLI (X : Stand p l e R s m args below meth c T locs cells slots) (hx : p.tables.exec = Jvm.exec) (hZ : Z.Warmed39 s.vm) (eT : T.heap = h) (A : Ia Z h a .int n f) {j : Int32} (i : Nat) (hi : j.toInt = (i : Int)) (hn : i < n) {g : JFrame} (hg : g.method = m) {rest : List Value} (hs : g.stack = .int j :: .ref a :: rest) (hd : decode c.code g.pc = .ok (.iaload, 1)) (target : State)
    (k : Steps p.tables e below (T.setTop { g with pc := g.pc + 1, stack := .int (f i) :: rest }) target) : Steps p.tables e below (T.setTop g) target := by
  obtain ⟨cl, A1, S, q, H⟩ := A
  exact X.iaload hx (j := j) (v := .int (f i)) (by rw [eT]; exact A1.1) (State.isArrayOf_alike hZ.alike A1.2.1) A1.2.2 (inb hi hn S) (by rw [clamp_of hi]; exact (H i hn).1) hg hs hd target k
theorem iaLB (X : Stand p l e R s m args below meth c T locs cells slots) (hx : p.tables.exec = Jvm.exec) (hZ : Z.Warmed39 s.vm) (eT : T.heap = h) (A : Ia Z h a .byte n f) {j : Int32} (i : Nat) (hi : j.toInt = (i : Int)) (hn : i < n) {g : JFrame} (hg : g.method = m) {rest : List Value} (hs : g.stack = .int j :: .ref a :: rest) (hd : decode c.code g.pc = .ok (.baload, 1)) (target : State)
    (k : Steps p.tables e below (T.setTop { g with pc := g.pc + 1, stack := .int (f i) :: rest }) target) : Steps p.tables e below (T.setTop g) target := by
  obtain ⟨cl, A1, S, q, H⟩ := A
  exact X.baloadBytes hx (j := j) (v := .int (f i)) (by rw [eT]; exact A1.1) (State.isArrayOf_alike hZ.alike A1.2.1) A1.2.2 (inb hi hn S) (by rw [clamp_of hi]; exact (H i hn).1) hg hs hd target k
theorem iaLC (X : Stand p l e R s m args below meth c T locs cells slots) (hx : p.tables.exec = Jvm.exec) (hZ : Z.Warmed39 s.vm) (eT : T.heap = h) (A : Ia Z h a .char n f) {j : Int32} (i : Nat) (hi : j.toInt = (i : Int)) (hn : i < n) {g : JFrame} (hg : g.method = m) {rest : List Value} (hs : g.stack = .int j :: .ref a :: rest) (hd : decode c.code g.pc = .ok (.caload, 1)) (target : State)
    (k : Steps p.tables e below (T.setTop { g with pc := g.pc + 1, stack := .int (f i) :: rest }) target) : Steps p.tables e below (T.setTop g) target := by
  obtain ⟨cl, A1, S, q, H⟩ := A
  exact X.caload hx (j := j) (v := .int (f i)) (by rw [eT]; exact A1.1) (State.isArrayOf_alike hZ.alike A1.2.1) A1.2.2 (inb hi hn S) (by rw [clamp_of hi]; exact (H i hn).1) hg hs hd target k
theorem iaLen (X : Stand p l e R s m args below meth c T locs cells slots) (hx : p.tables.exec = Jvm.exec) (hZ : Z.Warmed39 s.vm) (eT : T.heap = h) (A : Ia Z h a ty n f) {g : JFrame} (hg : g.method = m) {rest : List Value} (hs : g.stack = .ref a :: rest) (hd : decode c.code g.pc = .ok (.arraylength, 1)) (target : State)
    (k : Steps p.tables e below (T.setTop { g with pc := g.pc + 1, stack := .int (Int32.ofNat n) :: rest }) target) : Steps p.tables e below (T.setTop g) target := by
  obtain ⟨cl, A1, S, q, H⟩ := A
  refine X.arraylength hx (by rw [eT]; exact A1.1) (State.isArrayOf_alike hZ.alike A1.2.1) hg hs hd target ?_
  rw [S]
  exact k
theorem iaNew (X : Stand p l e R s m args below meth c T locs cells slots) (hx : p.tables.exec = Jvm.exec) (hZ : Z.Warmed39 s.vm) {aty : ArrayType} (w : (Cond.arrayClass (newarray.typeOf aty)).before a0 Z = true) (eT : T.heap = h) {g : JFrame} (hg : g.method = m) (hd : decode c.code g.pc = .ok (.newarray aty, 2)) {z : Int32} {rest : List Value} (hs : g.stack = .int z :: rest)
    (n : Nat) (hz : z.toInt = (n : Int)) (cap : Nat) (hcap : n ≤ cap) (hb : cap * 8 ≤ 536870912) (hc : cells + 1 ≤ R.cells) (hl : slots + cap ≤ R.slots) (h1 : defaultValue (newarray.typeOf aty) = .int 0) (h2 : fits (newarray.typeOf aty) (.int 0) = true) :
    ∃ T' h', Stand p l e R s m args below meth c T' locs (cells + 1) (slots + cap) ∧ T'.heap = h' ∧ Ext h h' ∧ Ia Z h' h.size (newarray.typeOf aty) n (fun _ => 0) ∧
      ∀ target, Steps p.tables e below (T'.setTop { g with pc := g.pc + 2, stack := .ref h.size :: rest }) target → Steps p.tables e below (T.setTop g) target := by
  obtain ⟨T', h', cA, X', e', E, A, st⟩ := newP X hx hZ w eT hg hd hs (by rw [Int32.lt_iff_toInt_lt, hz, show (0 : Int32).toInt = 0 from rfl]; omega) (cap := cap) (by rw [clamp_of hz]; exact hcap) hb hc hl
  exact ⟨T', h', X', e', E, Ia.mk0 A hz h1 h2, st⟩
end OwnSteps
-- BY HAND
theorem own_ti {n : Nat} (h : n ≤ 20) : (Int32.ofNat n).toInt = (n : Int) := Int32.toInt_ofNat_of_lt (by omega)
theorem own_one (i : Nat) : Int32.ofNat i + (1 : Int32) = Int32.ofNat (i + 1) := (Int32.ofNat_add i 1).symm
theorem own_ix {x y : Int32} {j N : Nat} (hj : x.toInt = (j : Int)) (hN : y.toInt = (N : Int)) (h : x < y) : j < N := by rw [Int32.lt_iff_toInt_lt] at h; omega
theorem own_nx {x y : Int32} {j N : Nat} (hj : x.toInt = (j : Int)) (hN : y.toInt = (N : Int)) (h : ¬ x < y) : N ≤ j := by rw [Int32.lt_iff_toInt_lt] at h; omega
theorem own_add {x y : Int32} {a b : Nat} (hx : x.toInt = (a : Int)) (hy : y.toInt = (b : Int)) (ha : a ≤ 20) (hb : b ≤ 20) : (x + y).toInt = ((a + b : Nat) : Int) := by
  have := c_iadd x y; have := rng32 (x + y); omega
theorem own_mono {x a b : Int32} (h : x < a) (hab : a < b) : x < b := by rw [Int32.lt_iff_toInt_lt] at *; omega
theorem ef_2 (m : MethodId) (x0 : Addr) : entryFrame m #[(.ref x0)] 1 = mkF m 0 #[.val (.ref x0)] [] := by first | (simp [entryFrame, mkF, argsToLocals, Value.category]; done) | rfl
theorem pn_0 : plainName "java/lang/Record" = true := by first | (simp [plainName, overriddenIn]; done) | decide +kernel
theorem d2_0 : decode jdk_30_method_1_code 0 = .ok (.aload_n 0, 1) := by decide +kernel
theorem d2_1 : decode jdk_30_method_1_code 1 = .ok (.invokespecial 1, 3) := by decide +kernel
theorem d2_4 : decode jdk_30_method_1_code 4 = .ok (.return_, 1) := by decide +kernel
def Q2 (Z : State) (o0 : Addr)  (h0 : Heap) (v : Option Value) (h : Heap) (L : List Loc) : Prop := v = none ∧ L = [] ∧ h = h0
set_option maxRecDepth 65536 in
set_option maxHeartbeats 40000000 in
theorem rm2 (l : Launch) (Z : State) (a0 : Array Value) (hw : ∀ d ∈ tables_1, d.before a0 Z = true) (ws : List Jvm.Cond) (o0 : Addr)  (h0 : Heap)  :
    MetFree l (⟨"java/lang/Record", "<init>", "()V"⟩ : MethodName) (head1 (Jvm.Cond.code (⟨"java/lang/Record", "<init>", "()V"⟩ : MethodName) jdk_30_method_1_code 1 none :: ws) ({ frames := 1, cells := 0, slots := 0, locals := 12 } : Room)) (fun a U => a = #[(.ref o0)] ∧ Z.Warmed39 U.vm ∧ U.heap = h0) (fun _ _ _ _ _ => True) (fun _ U o U' => ∃ v L, o = .returned v ∧ Q2 Z o0  h0 v U'.heap L ∧ FrameEnd U o U' L ({ frames := 1, cells := 0, slots := 0, locals := 12 } : Room).cells ({ frames := 1, cells := 0, slots := 0, locals := 12 } : Room).slots) := by
  refine MetFree.of_bodySF (plainFor_of_name pn_0) hisR ?_
  intro p e s m args below meth c s₁ Bd hml0 hP hK
  obtain ⟨rfl, hZ, hh⟩ := hP
  have hx := Bd.exec
  have hby := Bd.bytes
  have hml : c.maxLocals = 1 := hml0
  have hown : s.vm.findClass "java/lang/Record" = some m.cls := findClass_of_methodNamed Bd.named
  have hnm := (name_of_methodNamed Bd.named Bd.method).1
  have X0 : Stand p l e ({ frames := 1, cells := 0, slots := 0, locals := 12 } : Room) s m #[(.ref o0)] below meth c s₁ [] 0 0 := Stand.of_body Bd
  have e0 : s₁.heap = h0 := by rw [← hh, Bd.state]; rfl
  have pre0 : ∀ t, Steps p.tables e below (s₁.setTop (mkF m 0 #[.val (.ref o0)] [])) t → Steps p.tables e below (s₁.setTop (entryFrame m #[(.ref o0)] 1)) t := fun t k => castTop (ef_2 m o0) k
  obtain ⟨T1, X1, e1, st1⟩ := initO X0 hx hZ hown (hw _ (List.mem_of_getElem? (i := 20) rfl)) (hw _ (List.mem_of_getElem? (i := 21) rfl)) (hw _ (List.mem_of_getElem? (i := 22) rfl)) e0 (g := (mkF m 1 #[.val (.ref o0)] [(.ref o0)])) rfl (by rw [hml]; rfl) rfl (hb hby d2_1) (by decide) (W := 0) (by show 2 * 0 + _ ≤ _; exact Nat.le_of_eq rfl) (by decide)
  have K2 : ∀ t, Steps p.tables e below (T1.setTop (mkF m 4 #[.val (.ref o0)] [])) t → Steps p.tables e below (s₁.setTop (mkF m 0 #[.val (.ref o0)] [])) t := by
    intro t kt
    show Steps p.tables e below (s₁.setTop (mkF m 0 #[.val (.ref o0)] [])) _
    refine XS.aloadN X0.here hx rfl (hb hby d2_0) rfl rfl ?_
    show Steps p.tables e below (s₁.setTop (mkF m 1 #[.val (.ref o0)] [(.ref o0)])) _
    refine st1 _ ?_
    exact kt
  obtain ⟨fsQ, hr, hrun, hended, hW, hsame⟩ := X1.leave (v := none) (fun _ => rfl)
  refine ⟨_, _, pre0 _ (K2 _ ?_), hrun, hended, _, _, rfl, ?_, ⟨_, rfl⟩, hW, hsame.mono (by decide) (by decide)⟩
  · show Steps p.tables e below (T1.setTop (mkF m 4 #[.val (.ref o0)] [])) _
    exact X1.returnOut hx Bd.returns (hb hby d2_4) hr
  · show Q2 Z o0  h0 _ T1.heap _
    rw [e1]
    exact ⟨rfl, rfl, rfl⟩
theorem ef_5 (m : MethodId) (x0 : Addr) (x1 : Int32) (x2 : Int32) (x3 : Int32) : entryFrame m #[(.ref x0), (.int x1), (.int x2), (.int x3)] 4 = mkF m 0 #[.val (.ref x0), .val (.int x1), .val (.int x2), .val (.int x3)] [] := by first | (simp [entryFrame, mkF, argsToLocals, Value.category]; done) | rfl
theorem pn_1 : plainName "operand/SpellingIsAtPinLaw" = true := by first | (simp [plainName, overriddenIn]; done) | decide +kernel
theorem d5_0 : decode method_3_code 0 = .ok (.iload_n 3, 1) := by decide +kernel
theorem d5_1 : decode method_3_code 1 = .ok (.ifCond .ne 9, 3) := by decide +kernel
theorem d5_4 : decode method_3_code 4 = .ok (.iload_n 1, 1) := by decide +kernel
theorem d5_5 : decode method_3_code 5 = .ok (.aload_n 0, 1) := by decide +kernel
theorem d5_6 : decode method_3_code 6 = .ok (.arraylength, 1) := by decide +kernel
theorem d5_7 : decode method_3_code 7 = .ok (.if_icmp .lt 5, 3) := by decide +kernel
theorem d5_12 : decode method_3_code 12 = .ok (.aload_n 0, 1) := by decide +kernel
theorem d5_13 : decode method_3_code 13 = .ok (.iload_n 1, 1) := by decide +kernel
theorem d5_14 : decode method_3_code 14 = .ok (.caload, 1) := by decide +kernel
theorem d5_15 : decode method_3_code 15 = .ok (.ireturn, 1) := by decide +kernel
theorem d5_10 : decode method_3_code 10 = .ok (.iload_n 2, 1) := by decide +kernel
theorem d5_11 : decode method_3_code 11 = .ok (.ireturn, 1) := by decide +kernel
def f5 (p1 : Int32) (p2 : Int32) (p3 : Int32) (f : Nat → Int32) (n : Nat) (i : Nat) : Int32 := if p3 = (0 : Int32) then (if p1 < (Int32.ofNat n) then (nar .char (f i))
    else (nar .char p2))
  else (nar .char p2)
def Q5 (Z : State) (o0 : Addr) (p1 : Int32) (p2 : Int32) (p3 : Int32) (f : Nat → Int32) (n : Nat) (i : Nat) (h0 : Heap) (v : Option Value) (h : Heap) (L : List Loc) : Prop := v = some (.int (f5 p1 p2 p3 f n i)) ∧ L = [] ∧ h = h0
set_option maxRecDepth 65536 in
set_option maxHeartbeats 40000000 in
theorem rm5 (l : Launch) (Z : State) (a0 : Array Value) (hw : ∀ d ∈ tables_1, d.before a0 Z = true) (ws : List Jvm.Cond) (o0 : Addr) (p1 : Int32) (p2 : Int32) (p3 : Int32) (f : Nat → Int32) (n : Nat) (i : Nat) (h0 : Heap) (A1 : Ia Z h0 o0 .char n f) (hi : p1.toInt = (i : Int)) (hn : n ≤ 7) :
    MetFree l (⟨"operand/SpellingIsAtPinLaw", "pick", "([CICZ)C"⟩ : MethodName) (head1 (Jvm.Cond.code (⟨"operand/SpellingIsAtPinLaw", "pick", "([CICZ)C"⟩ : MethodName) method_3_code 4 (some .char) :: ws) ({ frames := 0, cells := 0, slots := 0, locals := 0 } : Room)) (fun a U => a = #[(.ref o0), (.int p1), (.int p2), (.int p3)] ∧ Z.Warmed39 U.vm ∧ U.heap = h0) (fun _ _ _ _ _ => True) (fun _ U o U' => ∃ v L, o = .returned v ∧ Q5 Z o0 p1 p2 p3 f n i h0 v U'.heap L ∧ FrameEnd U o U' L ({ frames := 0, cells := 0, slots := 0, locals := 0 } : Room).cells ({ frames := 0, cells := 0, slots := 0, locals := 0 } : Room).slots) := by
  refine MetFree.of_bodySF (plainFor_of_name pn_1) hisR ?_
  intro p e s m args below meth c s₁ Bd hml0 hP hK
  obtain ⟨rfl, hZ, hh⟩ := hP
  have hx := Bd.exec
  have hby := Bd.bytes
  have hml : c.maxLocals = 4 := hml0
  have hown : s.vm.findClass "operand/SpellingIsAtPinLaw" = some m.cls := findClass_of_methodNamed Bd.named
  have hnm := (name_of_methodNamed Bd.named Bd.method).1
  have X0 : Stand p l e ({ frames := 0, cells := 0, slots := 0, locals := 0 } : Room) s m #[(.ref o0), (.int p1), (.int p2), (.int p3)] below meth c s₁ [] 0 0 := Stand.of_body Bd
  have e0 : s₁.heap = h0 := by rw [← hh, Bd.state]; rfl
  have pre0 : ∀ t, Steps p.tables e below (s₁.setTop (mkF m 0 #[.val (.ref o0), .val (.int p1), .val (.int p2), .val (.int p3)] [])) t → Steps p.tables e below (s₁.setTop (entryFrame m #[(.ref o0), (.int p1), (.int p2), (.int p3)] 4)) t := fun t k => castTop (ef_5 m o0 p1 p2 p3) k
  have K1 : ∀ t, Steps p.tables e below (s₁.setTop (mkF m 1 #[.val (.ref o0), .val (.int p1), .val (.int p2), .val (.int p3)] [(.int p3)])) t → Steps p.tables e below (s₁.setTop (mkF m 0 #[.val (.ref o0), .val (.int p1), .val (.int p2), .val (.int p3)] [])) t := by
    intro t kt
    show Steps p.tables e below (s₁.setTop (mkF m 0 #[.val (.ref o0), .val (.int p1), .val (.int p2), .val (.int p3)] [])) _
    refine XS.iloadN X0.here hx rfl (hb hby d5_0) rfl ?_
    exact kt
  by_cases hc2 : p3 = (0 : Int32)
  · skip
    have K3 : ∀ t, Steps p.tables e below (s₁.setTop (mkF m 7 #[.val (.ref o0), .val (.int p1), .val (.int p2), .val (.int p3)] [(.int (Int32.ofNat n)), (.int p1)])) t → Steps p.tables e below (s₁.setTop (mkF m 0 #[.val (.ref o0), .val (.int p1), .val (.int p2), .val (.int p3)] [])) t := by
      intro t kt
      refine K1 _ ?_
      show Steps p.tables e below (s₁.setTop (mkF m 1 #[.val (.ref o0), .val (.int p1), .val (.int p2), .val (.int p3)] [(.int p3)])) _
      refine XS.ifNo X0.here hx rfl (hb hby d5_1) rfl ((if0 _ _).trans (teq hc2).2) ?_
      show Steps p.tables e below (s₁.setTop (mkF m 4 #[.val (.ref o0), .val (.int p1), .val (.int p2), .val (.int p3)] [])) _
      refine XS.iloadN X0.here hx rfl (hb hby d5_4) rfl ?_
      show Steps p.tables e below (s₁.setTop (mkF m 5 #[.val (.ref o0), .val (.int p1), .val (.int p2), .val (.int p3)] [(.int p1)])) _
      refine XS.aloadN X0.here hx rfl (hb hby d5_5) rfl rfl ?_
      show Steps p.tables e below (s₁.setTop (mkF m 6 #[.val (.ref o0), .val (.int p1), .val (.int p2), .val (.int p3)] [(.ref o0), (.int p1)])) _
      refine iaLen X0 hx hZ e0 A1 (g := (mkF m 6 #[.val (.ref o0), .val (.int p1), .val (.int p2), .val (.int p3)] [(.ref o0), (.int p1)])) rfl rfl (hb hby d5_6) _ ?_
      exact kt
    by_cases hc4 : p1 < (Int32.ofNat n)
    · skip
      have K5 : ∀ t, Steps p.tables e below (s₁.setTop (mkF m 15 #[.val (.ref o0), .val (.int p1), .val (.int p2), .val (.int p3)] [(.int (f i))])) t → Steps p.tables e below (s₁.setTop (mkF m 0 #[.val (.ref o0), .val (.int p1), .val (.int p2), .val (.int p3)] [])) t := by
        intro t kt
        refine K3 _ ?_
        show Steps p.tables e below (s₁.setTop (mkF m 7 #[.val (.ref o0), .val (.int p1), .val (.int p2), .val (.int p3)] [(.int (Int32.ofNat n)), (.int p1)])) _
        refine XS.icmpYes X0.here hx rfl (pc0 := 7) (pc' := 12) rfl (hb hby d5_7) rfl (tlt hc4).1 (by decide) (by decide) ?_
        show Steps p.tables e below (s₁.setTop (mkF m 12 #[.val (.ref o0), .val (.int p1), .val (.int p2), .val (.int p3)] [])) _
        refine XS.aloadN X0.here hx rfl (hb hby d5_12) rfl rfl ?_
        show Steps p.tables e below (s₁.setTop (mkF m 13 #[.val (.ref o0), .val (.int p1), .val (.int p2), .val (.int p3)] [(.ref o0)])) _
        refine XS.iloadN X0.here hx rfl (hb hby d5_13) rfl ?_
        show Steps p.tables e below (s₁.setTop (mkF m 14 #[.val (.ref o0), .val (.int p1), .val (.int p2), .val (.int p3)] [(.int p1), (.ref o0)])) _
        refine iaLC X0 hx hZ e0 A1 (j := p1) i hi (own_ix hi (own_ti (by omega)) hc4) (g := (mkF m 14 #[.val (.ref o0), .val (.int p1), .val (.int p2), .val (.int p3)] [(.int p1), (.ref o0)])) rfl rfl (hb hby d5_14) _ ?_
        exact kt
      have hv : f5 p1 p2 p3 f n i = (nar .char (f i)) := by simp only [f5, if_pos hc2, if_pos hc4]
      obtain ⟨fsQ, hr, hrun, hended, hW, hsame⟩ := X0.leave (v := some (.int (nar .char (f i)))) (fun h => by rw [Bd.returns] at h; cases h)
      refine ⟨_, _, pre0 _ (K5 _ ?_), hrun, hended, _, _, rfl, ?_, ⟨_, rfl⟩, hW, hsame.mono (by decide) (by decide)⟩
      · show Steps p.tables e below (s₁.setTop (mkF m 15 #[.val (.ref o0), .val (.int p1), .val (.int p2), .val (.int p3)] [(.int (f i))])) _
        exact retN X0 hx (t := .char) Bd.returns (by simp) (hb hby d5_15) hr
      · show Q5 Z o0 p1 p2 p3 f n i h0 _ s₁.heap _
        rw [e0]
        exact ⟨by rw [hv], rfl, rfl⟩
    · skip
      have K6 : ∀ t, Steps p.tables e below (s₁.setTop (mkF m 11 #[.val (.ref o0), .val (.int p1), .val (.int p2), .val (.int p3)] [(.int p2)])) t → Steps p.tables e below (s₁.setTop (mkF m 0 #[.val (.ref o0), .val (.int p1), .val (.int p2), .val (.int p3)] [])) t := by
        intro t kt
        refine K3 _ ?_
        show Steps p.tables e below (s₁.setTop (mkF m 7 #[.val (.ref o0), .val (.int p1), .val (.int p2), .val (.int p3)] [(.int (Int32.ofNat n)), (.int p1)])) _
        refine XS.icmpNo X0.here hx rfl (hb hby d5_7) rfl (flt hc4).1 ?_
        show Steps p.tables e below (s₁.setTop (mkF m 10 #[.val (.ref o0), .val (.int p1), .val (.int p2), .val (.int p3)] [])) _
        refine XS.iloadN X0.here hx rfl (hb hby d5_10) rfl ?_
        exact kt
      have hv : f5 p1 p2 p3 f n i = (nar .char p2) := by simp only [f5, if_pos hc2, if_neg hc4]
      obtain ⟨fsQ, hr, hrun, hended, hW, hsame⟩ := X0.leave (v := some (.int (nar .char p2))) (fun h => by rw [Bd.returns] at h; cases h)
      refine ⟨_, _, pre0 _ (K6 _ ?_), hrun, hended, _, _, rfl, ?_, ⟨_, rfl⟩, hW, hsame.mono (by decide) (by decide)⟩
      · show Steps p.tables e below (s₁.setTop (mkF m 11 #[.val (.ref o0), .val (.int p1), .val (.int p2), .val (.int p3)] [(.int p2)])) _
        exact retN X0 hx (t := .char) Bd.returns (by simp) (hb hby d5_11) hr
      · show Q5 Z o0 p1 p2 p3 f n i h0 _ s₁.heap _
        rw [e0]
        exact ⟨by rw [hv], rfl, rfl⟩
  · skip
    have K7 : ∀ t, Steps p.tables e below (s₁.setTop (mkF m 11 #[.val (.ref o0), .val (.int p1), .val (.int p2), .val (.int p3)] [(.int p2)])) t → Steps p.tables e below (s₁.setTop (mkF m 0 #[.val (.ref o0), .val (.int p1), .val (.int p2), .val (.int p3)] [])) t := by
      intro t kt
      refine K1 _ ?_
      show Steps p.tables e below (s₁.setTop (mkF m 1 #[.val (.ref o0), .val (.int p1), .val (.int p2), .val (.int p3)] [(.int p3)])) _
      refine XS.ifYes X0.here hx rfl (pc0 := 1) (pc' := 10) rfl (hb hby d5_1) rfl ((if0 _ _).trans (feq hc2).2) (by decide) (by decide) ?_
      show Steps p.tables e below (s₁.setTop (mkF m 10 #[.val (.ref o0), .val (.int p1), .val (.int p2), .val (.int p3)] [])) _
      refine XS.iloadN X0.here hx rfl (hb hby d5_10) rfl ?_
      exact kt
    have hv : f5 p1 p2 p3 f n i = (nar .char p2) := by simp only [f5, if_neg hc2]
    obtain ⟨fsQ, hr, hrun, hended, hW, hsame⟩ := X0.leave (v := some (.int (nar .char p2))) (fun h => by rw [Bd.returns] at h; cases h)
    refine ⟨_, _, pre0 _ (K7 _ ?_), hrun, hended, _, _, rfl, ?_, ⟨_, rfl⟩, hW, hsame.mono (by decide) (by decide)⟩
    · show Steps p.tables e below (s₁.setTop (mkF m 11 #[.val (.ref o0), .val (.int p1), .val (.int p2), .val (.int p3)] [(.int p2)])) _
      exact retN X0 hx (t := .char) Bd.returns (by simp) (hb hby d5_11) hr
    · show Q5 Z o0 p1 p2 p3 f n i h0 _ s₁.heap _
      rw [e0]
      exact ⟨by rw [hv], rfl, rfl⟩
theorem d4_16 : decode prog_66_method_6_code 16 = .ok (.iload_n 3, 1) := by decide +kernel
theorem d4_17 : decode prog_66_method_6_code 17 = .ok (.aload_n 0, 1) := by decide +kernel
theorem d4_18 : decode prog_66_method_6_code 18 = .ok (.getfield 15, 3) := by decide +kernel
theorem d4_21 : decode prog_66_method_6_code 21 = .ok (.arraylength, 1) := by decide +kernel
theorem d4_22 : decode prog_66_method_6_code 22 = .ok (.if_icmp .ge 25, 3) := by decide +kernel
set_option maxRecDepth 65536 in
set_option maxHeartbeats 40000000 in
theorem tnE {p : Program} {l : Launch} {e : Env} {s : State} {m : MethodId} {args : Array Value} {below : List Frame} {meth : Method} {c : Code} {T0 : State} {locs : List Loc} {Z : State} {a0 : Array Value} {h0 : Heap} (o0 : Addr) (o1 : Addr) (p2 : Int32) (cs : Addr) (ft : Nat → Int32) (fp : Nat → Int32) (N : Nat) (K : Nat) (S : Nat) (i : Nat) (n0 : Nat)
    (X0 : Stand p l e ({ frames := 0, cells := 0, slots := 0, locals := 0 } : Room) s m args below meth c T0 locs 0 0) (hx : p.tables.exec = Jvm.exec) (hZ : Z.Warmed39 s.vm) (hw : ∀ d ∈ tables_1, d.before a0 Z = true) (hby : c.code = prog_66_method_6_code) (hml : c.maxLocals = 4) (hown : s.vm.findClass "operand/Spelling" = some m.cls) (e0 : T0.heap = h0) (N0 : Fr n0 locs) (Z0 : n0 ≤ h0.size) (F1 : Fld Z h0 o0 "operand/Spelling" "characters" "[C" (.ref cs)) (A1 : Ia Z h0 o1 .char N ft) (A2 : Ia Z h0 cs .char K fp) (hS : p2.toInt = (S : Int)) (hN : N ≤ 7) (hK : K ≤ 3) (hfit : S + K ≤ N) (hge : ¬ Int32.ofNat i < Int32.ofNat K) :
    ∃ (T' : State) (h' : Heap) (locs' : List Loc), Stand p l e ({ frames := 0, cells := 0, slots := 0, locals := 0 } : Room) s m args below meth c T' locs' 0 0 ∧ T'.heap = h' ∧ Fr n0 locs' ∧ n0 ≤ h'.size ∧ h' = h0 ∧ locs' = locs ∧
      ∀ t, Steps p.tables e below (T'.setTop (mkF m 47 #[.val (.ref o0), .val (.ref o1), .val (.int p2), .val (.int (Int32.ofNat i))] [])) t → Steps p.tables e below (T0.setTop (mkF m 16 #[.val (.ref o0), .val (.ref o1), .val (.int p2), .val (.int (Int32.ofNat i))] [])) t := by
  obtain ⟨T1, X1, e1, st1⟩ := getF X0 hx hZ hown (host := "") (Or.inl (hw _ (List.mem_of_getElem? (i := 25) rfl))) Via.refl e0 F1 (g := (mkF m 18 #[.val (.ref o0), .val (.ref o1), .val (.int p2), .val (.int (Int32.ofNat i))] [(.ref o0), (.int (Int32.ofNat i))])) rfl rfl (hb hby d4_18)
  have K2 : ∀ t, Steps p.tables e below (T1.setTop (mkF m 47 #[.val (.ref o0), .val (.ref o1), .val (.int p2), .val (.int (Int32.ofNat i))] [])) t → Steps p.tables e below (T0.setTop (mkF m 16 #[.val (.ref o0), .val (.ref o1), .val (.int p2), .val (.int (Int32.ofNat i))] [])) t := by
    intro t kt
    show Steps p.tables e below (T0.setTop (mkF m 16 #[.val (.ref o0), .val (.ref o1), .val (.int p2), .val (.int (Int32.ofNat i))] [])) _
    refine XS.iloadN X0.here hx rfl (hb hby d4_16) rfl ?_
    show Steps p.tables e below (T0.setTop (mkF m 17 #[.val (.ref o0), .val (.ref o1), .val (.int p2), .val (.int (Int32.ofNat i))] [(.int (Int32.ofNat i))])) _
    refine XS.aloadN X0.here hx rfl (hb hby d4_17) rfl rfl ?_
    show Steps p.tables e below (T0.setTop (mkF m 18 #[.val (.ref o0), .val (.ref o1), .val (.int p2), .val (.int (Int32.ofNat i))] [(.ref o0), (.int (Int32.ofNat i))])) _
    refine st1 _ ?_
    show Steps p.tables e below (T1.setTop (mkF m 21 #[.val (.ref o0), .val (.ref o1), .val (.int p2), .val (.int (Int32.ofNat i))] [(.ref cs), (.int (Int32.ofNat i))])) _
    refine iaLen X1 hx hZ e1 A2 (g := (mkF m 21 #[.val (.ref o0), .val (.ref o1), .val (.int p2), .val (.int (Int32.ofNat i))] [(.ref cs), (.int (Int32.ofNat i))])) rfl rfl (hb hby d4_21) _ ?_
    show Steps p.tables e below (T1.setTop (mkF m 22 #[.val (.ref o0), .val (.ref o1), .val (.int p2), .val (.int (Int32.ofNat i))] [(.int (Int32.ofNat K)), (.int (Int32.ofNat i))])) _
    refine XS.icmpYes X1.here hx rfl (pc0 := 22) (pc' := 47) rfl (hb hby d4_22) rfl (flt (show ¬ ((Int32.ofNat i) < (Int32.ofNat K)) from hge)).2.1 (by decide) (by decide) ?_
    exact kt
  exact ⟨T1, h0, _, X1, e1, N0, Z0, rfl, rfl, K2⟩
theorem d4_25 : decode prog_66_method_6_code 25 = .ok (.aload_n 1, 1) := by decide +kernel
theorem d4_26 : decode prog_66_method_6_code 26 = .ok (.iload_n 2, 1) := by decide +kernel
theorem d4_27 : decode prog_66_method_6_code 27 = .ok (.iload_n 3, 1) := by decide +kernel
theorem d4_28 : decode prog_66_method_6_code 28 = .ok (.iadd, 1) := by decide +kernel
theorem d4_29 : decode prog_66_method_6_code 29 = .ok (.caload, 1) := by decide +kernel
theorem d4_30 : decode prog_66_method_6_code 30 = .ok (.aload_n 0, 1) := by decide +kernel
theorem d4_31 : decode prog_66_method_6_code 31 = .ok (.getfield 15, 3) := by decide +kernel
theorem d4_34 : decode prog_66_method_6_code 34 = .ok (.iload_n 3, 1) := by decide +kernel
theorem d4_35 : decode prog_66_method_6_code 35 = .ok (.caload, 1) := by decide +kernel
theorem d4_36 : decode prog_66_method_6_code 36 = .ok (.if_icmp .eq 5, 3) := by decide +kernel
theorem d4_41 : decode prog_66_method_6_code 41 = .ok (.iinc 3 1, 3) := by decide +kernel
theorem d4_44 : decode prog_66_method_6_code 44 = .ok (.goto (-28), 3) := by decide +kernel
set_option maxRecDepth 65536 in
set_option maxHeartbeats 40000000 in
theorem tnT {p : Program} {l : Launch} {e : Env} {s : State} {m : MethodId} {args : Array Value} {below : List Frame} {meth : Method} {c : Code} {T0 : State} {locs : List Loc} {Z : State} {a0 : Array Value} {h0 : Heap} (o0 : Addr) (o1 : Addr) (p2 : Int32) (cs : Addr) (ft : Nat → Int32) (fp : Nat → Int32) (N : Nat) (K : Nat) (S : Nat) (i : Nat) (n0 : Nat)
    (X0 : Stand p l e ({ frames := 0, cells := 0, slots := 0, locals := 0 } : Room) s m args below meth c T0 locs 0 0) (hx : p.tables.exec = Jvm.exec) (hZ : Z.Warmed39 s.vm) (hw : ∀ d ∈ tables_1, d.before a0 Z = true) (hby : c.code = prog_66_method_6_code) (hml : c.maxLocals = 4) (hown : s.vm.findClass "operand/Spelling" = some m.cls) (e0 : T0.heap = h0) (N0 : Fr n0 locs) (Z0 : n0 ≤ h0.size) (F1 : Fld Z h0 o0 "operand/Spelling" "characters" "[C" (.ref cs)) (A1 : Ia Z h0 o1 .char N ft) (A2 : Ia Z h0 cs .char K fp) (hS : p2.toInt = (S : Int)) (hN : N ≤ 7) (hK : K ≤ 3) (hfit : S + K ≤ N) (hi : i < K) (hlt : Int32.ofNat i < Int32.ofNat K) (he : ft (S + i) = fp i) :
    ∃ (T' : State) (h' : Heap) (locs' : List Loc), Stand p l e ({ frames := 0, cells := 0, slots := 0, locals := 0 } : Room) s m args below meth c T' locs' 0 0 ∧ T'.heap = h' ∧ Fr n0 locs' ∧ n0 ≤ h'.size ∧ h' = h0 ∧ locs' = locs ∧
      ∀ t, Steps p.tables e below (T'.setTop (mkF m 16 #[.val (.ref o0), .val (.ref o1), .val (.int p2), .val (.int ((Int32.ofNat i) + (1 : Int32)))] [])) t → Steps p.tables e below (T0.setTop (mkF m 16 #[.val (.ref o0), .val (.ref o1), .val (.int p2), .val (.int (Int32.ofNat i))] [])) t := by
  obtain ⟨T1, X1, e1, st1⟩ := getF X0 hx hZ hown (host := "") (Or.inl (hw _ (List.mem_of_getElem? (i := 25) rfl))) Via.refl e0 F1 (g := (mkF m 18 #[.val (.ref o0), .val (.ref o1), .val (.int p2), .val (.int (Int32.ofNat i))] [(.ref o0), (.int (Int32.ofNat i))])) rfl rfl (hb hby d4_18)
  obtain ⟨T2, X2, e2, st2⟩ := getF X1 hx hZ hown (host := "") (Or.inl (hw _ (List.mem_of_getElem? (i := 25) rfl))) Via.refl e1 F1 (g := (mkF m 31 #[.val (.ref o0), .val (.ref o1), .val (.int p2), .val (.int (Int32.ofNat i))] [(.ref o0), (.int (ft (S + i)))])) rfl rfl (hb hby d4_31)
  have K3 : ∀ t, Steps p.tables e below (T2.setTop (mkF m 16 #[.val (.ref o0), .val (.ref o1), .val (.int p2), .val (.int ((Int32.ofNat i) + (1 : Int32)))] [])) t → Steps p.tables e below (T0.setTop (mkF m 16 #[.val (.ref o0), .val (.ref o1), .val (.int p2), .val (.int (Int32.ofNat i))] [])) t := by
    intro t kt
    show Steps p.tables e below (T0.setTop (mkF m 16 #[.val (.ref o0), .val (.ref o1), .val (.int p2), .val (.int (Int32.ofNat i))] [])) _
    refine XS.iloadN X0.here hx rfl (hb hby d4_16) rfl ?_
    show Steps p.tables e below (T0.setTop (mkF m 17 #[.val (.ref o0), .val (.ref o1), .val (.int p2), .val (.int (Int32.ofNat i))] [(.int (Int32.ofNat i))])) _
    refine XS.aloadN X0.here hx rfl (hb hby d4_17) rfl rfl ?_
    show Steps p.tables e below (T0.setTop (mkF m 18 #[.val (.ref o0), .val (.ref o1), .val (.int p2), .val (.int (Int32.ofNat i))] [(.ref o0), (.int (Int32.ofNat i))])) _
    refine st1 _ ?_
    show Steps p.tables e below (T1.setTop (mkF m 21 #[.val (.ref o0), .val (.ref o1), .val (.int p2), .val (.int (Int32.ofNat i))] [(.ref cs), (.int (Int32.ofNat i))])) _
    refine iaLen X1 hx hZ e1 A2 (g := (mkF m 21 #[.val (.ref o0), .val (.ref o1), .val (.int p2), .val (.int (Int32.ofNat i))] [(.ref cs), (.int (Int32.ofNat i))])) rfl rfl (hb hby d4_21) _ ?_
    show Steps p.tables e below (T1.setTop (mkF m 22 #[.val (.ref o0), .val (.ref o1), .val (.int p2), .val (.int (Int32.ofNat i))] [(.int (Int32.ofNat K)), (.int (Int32.ofNat i))])) _
    refine XS.icmpNo X1.here hx rfl (hb hby d4_22) rfl (tlt (show (Int32.ofNat i) < (Int32.ofNat K) from hlt)).2.1 ?_
    show Steps p.tables e below (T1.setTop (mkF m 25 #[.val (.ref o0), .val (.ref o1), .val (.int p2), .val (.int (Int32.ofNat i))] [])) _
    refine XS.aloadN X1.here hx rfl (hb hby d4_25) rfl rfl ?_
    show Steps p.tables e below (T1.setTop (mkF m 26 #[.val (.ref o0), .val (.ref o1), .val (.int p2), .val (.int (Int32.ofNat i))] [(.ref o1)])) _
    refine XS.iloadN X1.here hx rfl (hb hby d4_26) rfl ?_
    show Steps p.tables e below (T1.setTop (mkF m 27 #[.val (.ref o0), .val (.ref o1), .val (.int p2), .val (.int (Int32.ofNat i))] [(.int p2), (.ref o1)])) _
    refine XS.iloadN X1.here hx rfl (hb hby d4_27) rfl ?_
    show Steps p.tables e below (T1.setTop (mkF m 28 #[.val (.ref o0), .val (.ref o1), .val (.int p2), .val (.int (Int32.ofNat i))] [(.int (Int32.ofNat i)), (.int p2), (.ref o1)])) _
    refine XS.iadd X1.here hx rfl (hb hby d4_28) rfl ?_
    show Steps p.tables e below (T1.setTop (mkF m 29 #[.val (.ref o0), .val (.ref o1), .val (.int p2), .val (.int (Int32.ofNat i))] [(.int (p2 + (Int32.ofNat i))), (.ref o1)])) _
    refine iaLC X1 hx hZ e1 A1 (j := (p2 + (Int32.ofNat i))) (S + i) (own_add hS (own_ti (by omega)) (by omega) (by omega)) (by omega) (g := (mkF m 29 #[.val (.ref o0), .val (.ref o1), .val (.int p2), .val (.int (Int32.ofNat i))] [(.int (p2 + (Int32.ofNat i))), (.ref o1)])) rfl rfl (hb hby d4_29) _ ?_
    show Steps p.tables e below (T1.setTop (mkF m 30 #[.val (.ref o0), .val (.ref o1), .val (.int p2), .val (.int (Int32.ofNat i))] [(.int (ft (S + i)))])) _
    refine XS.aloadN X1.here hx rfl (hb hby d4_30) rfl rfl ?_
    show Steps p.tables e below (T1.setTop (mkF m 31 #[.val (.ref o0), .val (.ref o1), .val (.int p2), .val (.int (Int32.ofNat i))] [(.ref o0), (.int (ft (S + i)))])) _
    refine st2 _ ?_
    show Steps p.tables e below (T2.setTop (mkF m 34 #[.val (.ref o0), .val (.ref o1), .val (.int p2), .val (.int (Int32.ofNat i))] [(.ref cs), (.int (ft (S + i)))])) _
    refine XS.iloadN X2.here hx rfl (hb hby d4_34) rfl ?_
    show Steps p.tables e below (T2.setTop (mkF m 35 #[.val (.ref o0), .val (.ref o1), .val (.int p2), .val (.int (Int32.ofNat i))] [(.int (Int32.ofNat i)), (.ref cs), (.int (ft (S + i)))])) _
    refine iaLC X2 hx hZ e2 A2 (j := (Int32.ofNat i)) i (own_ti (by omega)) hi (g := (mkF m 35 #[.val (.ref o0), .val (.ref o1), .val (.int p2), .val (.int (Int32.ofNat i))] [(.int (Int32.ofNat i)), (.ref cs), (.int (ft (S + i)))])) rfl rfl (hb hby d4_35) _ ?_
    show Steps p.tables e below (T2.setTop (mkF m 36 #[.val (.ref o0), .val (.ref o1), .val (.int p2), .val (.int (Int32.ofNat i))] [(.int (fp i)), (.int (ft (S + i)))])) _
    refine XS.icmpYes X2.here hx rfl (pc0 := 36) (pc' := 41) rfl (hb hby d4_36) rfl (teq (show (ft (S + i)) = (fp i) from he)).1 (by decide) (by decide) ?_
    show Steps p.tables e below (T2.setTop (mkF m 41 #[.val (.ref o0), .val (.ref o1), .val (.int p2), .val (.int (Int32.ofNat i))] [])) _
    refine XS.iinc X2.here hx rfl (hb hby d4_41) rfl (l' := #[.val (.ref o0), .val (.ref o1), .val (.int p2), .val (.int ((Int32.ofNat i) + (1 : Int32)))]) rfl ?_
    show Steps p.tables e below (T2.setTop (mkF m 44 #[.val (.ref o0), .val (.ref o1), .val (.int p2), .val (.int ((Int32.ofNat i) + (1 : Int32)))] [])) _
    refine XS.goto X2.here hx rfl (pc0 := 44) (pc' := 16) rfl (hb hby d4_44) (by decide) (by decide) ?_
    exact kt
  exact ⟨T2, h0, _, X2, e2, N0, Z0, rfl, rfl, K3⟩
set_option maxRecDepth 65536 in
set_option maxHeartbeats 40000000 in
theorem tnN {p : Program} {l : Launch} {e : Env} {s : State} {m : MethodId} {args : Array Value} {below : List Frame} {meth : Method} {c : Code} {T0 : State} {locs : List Loc} {Z : State} {a0 : Array Value} {h0 : Heap} (o0 : Addr) (o1 : Addr) (p2 : Int32) (cs : Addr) (ft : Nat → Int32) (fp : Nat → Int32) (N : Nat) (K : Nat) (S : Nat) (i : Nat) (n0 : Nat)
    (X0 : Stand p l e ({ frames := 0, cells := 0, slots := 0, locals := 0 } : Room) s m args below meth c T0 locs 0 0) (hx : p.tables.exec = Jvm.exec) (hZ : Z.Warmed39 s.vm) (hw : ∀ d ∈ tables_1, d.before a0 Z = true) (hby : c.code = prog_66_method_6_code) (hml : c.maxLocals = 4) (hown : s.vm.findClass "operand/Spelling" = some m.cls) (e0 : T0.heap = h0) (N0 : Fr n0 locs) (Z0 : n0 ≤ h0.size) (F1 : Fld Z h0 o0 "operand/Spelling" "characters" "[C" (.ref cs)) (A1 : Ia Z h0 o1 .char N ft) (A2 : Ia Z h0 cs .char K fp) (hS : p2.toInt = (S : Int)) (hN : N ≤ 7) (hK : K ≤ 3) (hfit : S + K ≤ N) (hi : i < K) (hlt : Int32.ofNat i < Int32.ofNat K) (he : ¬ ft (S + i) = fp i) :
    ∃ (T' : State) (h' : Heap) (locs' : List Loc), Stand p l e ({ frames := 0, cells := 0, slots := 0, locals := 0 } : Room) s m args below meth c T' locs' 0 0 ∧ T'.heap = h' ∧ Fr n0 locs' ∧ n0 ≤ h'.size ∧ h' = h0 ∧ locs' = locs ∧
      ∀ t, Steps p.tables e below (T'.setTop (mkF m 39 #[.val (.ref o0), .val (.ref o1), .val (.int p2), .val (.int (Int32.ofNat i))] [])) t → Steps p.tables e below (T0.setTop (mkF m 16 #[.val (.ref o0), .val (.ref o1), .val (.int p2), .val (.int (Int32.ofNat i))] [])) t := by
  obtain ⟨T1, X1, e1, st1⟩ := getF X0 hx hZ hown (host := "") (Or.inl (hw _ (List.mem_of_getElem? (i := 25) rfl))) Via.refl e0 F1 (g := (mkF m 18 #[.val (.ref o0), .val (.ref o1), .val (.int p2), .val (.int (Int32.ofNat i))] [(.ref o0), (.int (Int32.ofNat i))])) rfl rfl (hb hby d4_18)
  obtain ⟨T2, X2, e2, st2⟩ := getF X1 hx hZ hown (host := "") (Or.inl (hw _ (List.mem_of_getElem? (i := 25) rfl))) Via.refl e1 F1 (g := (mkF m 31 #[.val (.ref o0), .val (.ref o1), .val (.int p2), .val (.int (Int32.ofNat i))] [(.ref o0), (.int (ft (S + i)))])) rfl rfl (hb hby d4_31)
  have K3 : ∀ t, Steps p.tables e below (T2.setTop (mkF m 39 #[.val (.ref o0), .val (.ref o1), .val (.int p2), .val (.int (Int32.ofNat i))] [])) t → Steps p.tables e below (T0.setTop (mkF m 16 #[.val (.ref o0), .val (.ref o1), .val (.int p2), .val (.int (Int32.ofNat i))] [])) t := by
    intro t kt
    show Steps p.tables e below (T0.setTop (mkF m 16 #[.val (.ref o0), .val (.ref o1), .val (.int p2), .val (.int (Int32.ofNat i))] [])) _
    refine XS.iloadN X0.here hx rfl (hb hby d4_16) rfl ?_
    show Steps p.tables e below (T0.setTop (mkF m 17 #[.val (.ref o0), .val (.ref o1), .val (.int p2), .val (.int (Int32.ofNat i))] [(.int (Int32.ofNat i))])) _
    refine XS.aloadN X0.here hx rfl (hb hby d4_17) rfl rfl ?_
    show Steps p.tables e below (T0.setTop (mkF m 18 #[.val (.ref o0), .val (.ref o1), .val (.int p2), .val (.int (Int32.ofNat i))] [(.ref o0), (.int (Int32.ofNat i))])) _
    refine st1 _ ?_
    show Steps p.tables e below (T1.setTop (mkF m 21 #[.val (.ref o0), .val (.ref o1), .val (.int p2), .val (.int (Int32.ofNat i))] [(.ref cs), (.int (Int32.ofNat i))])) _
    refine iaLen X1 hx hZ e1 A2 (g := (mkF m 21 #[.val (.ref o0), .val (.ref o1), .val (.int p2), .val (.int (Int32.ofNat i))] [(.ref cs), (.int (Int32.ofNat i))])) rfl rfl (hb hby d4_21) _ ?_
    show Steps p.tables e below (T1.setTop (mkF m 22 #[.val (.ref o0), .val (.ref o1), .val (.int p2), .val (.int (Int32.ofNat i))] [(.int (Int32.ofNat K)), (.int (Int32.ofNat i))])) _
    refine XS.icmpNo X1.here hx rfl (hb hby d4_22) rfl (tlt (show (Int32.ofNat i) < (Int32.ofNat K) from hlt)).2.1 ?_
    show Steps p.tables e below (T1.setTop (mkF m 25 #[.val (.ref o0), .val (.ref o1), .val (.int p2), .val (.int (Int32.ofNat i))] [])) _
    refine XS.aloadN X1.here hx rfl (hb hby d4_25) rfl rfl ?_
    show Steps p.tables e below (T1.setTop (mkF m 26 #[.val (.ref o0), .val (.ref o1), .val (.int p2), .val (.int (Int32.ofNat i))] [(.ref o1)])) _
    refine XS.iloadN X1.here hx rfl (hb hby d4_26) rfl ?_
    show Steps p.tables e below (T1.setTop (mkF m 27 #[.val (.ref o0), .val (.ref o1), .val (.int p2), .val (.int (Int32.ofNat i))] [(.int p2), (.ref o1)])) _
    refine XS.iloadN X1.here hx rfl (hb hby d4_27) rfl ?_
    show Steps p.tables e below (T1.setTop (mkF m 28 #[.val (.ref o0), .val (.ref o1), .val (.int p2), .val (.int (Int32.ofNat i))] [(.int (Int32.ofNat i)), (.int p2), (.ref o1)])) _
    refine XS.iadd X1.here hx rfl (hb hby d4_28) rfl ?_
    show Steps p.tables e below (T1.setTop (mkF m 29 #[.val (.ref o0), .val (.ref o1), .val (.int p2), .val (.int (Int32.ofNat i))] [(.int (p2 + (Int32.ofNat i))), (.ref o1)])) _
    refine iaLC X1 hx hZ e1 A1 (j := (p2 + (Int32.ofNat i))) (S + i) (own_add hS (own_ti (by omega)) (by omega) (by omega)) (by omega) (g := (mkF m 29 #[.val (.ref o0), .val (.ref o1), .val (.int p2), .val (.int (Int32.ofNat i))] [(.int (p2 + (Int32.ofNat i))), (.ref o1)])) rfl rfl (hb hby d4_29) _ ?_
    show Steps p.tables e below (T1.setTop (mkF m 30 #[.val (.ref o0), .val (.ref o1), .val (.int p2), .val (.int (Int32.ofNat i))] [(.int (ft (S + i)))])) _
    refine XS.aloadN X1.here hx rfl (hb hby d4_30) rfl rfl ?_
    show Steps p.tables e below (T1.setTop (mkF m 31 #[.val (.ref o0), .val (.ref o1), .val (.int p2), .val (.int (Int32.ofNat i))] [(.ref o0), (.int (ft (S + i)))])) _
    refine st2 _ ?_
    show Steps p.tables e below (T2.setTop (mkF m 34 #[.val (.ref o0), .val (.ref o1), .val (.int p2), .val (.int (Int32.ofNat i))] [(.ref cs), (.int (ft (S + i)))])) _
    refine XS.iloadN X2.here hx rfl (hb hby d4_34) rfl ?_
    show Steps p.tables e below (T2.setTop (mkF m 35 #[.val (.ref o0), .val (.ref o1), .val (.int p2), .val (.int (Int32.ofNat i))] [(.int (Int32.ofNat i)), (.ref cs), (.int (ft (S + i)))])) _
    refine iaLC X2 hx hZ e2 A2 (j := (Int32.ofNat i)) i (own_ti (by omega)) hi (g := (mkF m 35 #[.val (.ref o0), .val (.ref o1), .val (.int p2), .val (.int (Int32.ofNat i))] [(.int (Int32.ofNat i)), (.ref cs), (.int (ft (S + i)))])) rfl rfl (hb hby d4_35) _ ?_
    show Steps p.tables e below (T2.setTop (mkF m 36 #[.val (.ref o0), .val (.ref o1), .val (.int p2), .val (.int (Int32.ofNat i))] [(.int (fp i)), (.int (ft (S + i)))])) _
    refine XS.icmpNo X2.here hx rfl (hb hby d4_36) rfl (feq (show ¬ ((ft (S + i)) = (fp i)) from he)).1 ?_
    exact kt
  exact ⟨T2, h0, _, X2, e2, N0, Z0, rfl, rfl, K3⟩
theorem own_isat {p : Program} {l : Launch} {e : Env} {s : State} {m : MethodId} {args : Array Value} {below : List Frame} {meth : Method} {c : Code} {Z : State} {a0 : Array Value} {locs : List Loc} {h0 : Heap} (d : Nat) : ∀ {T0 : State} (o0 : Addr) (o1 : Addr) (p2 : Int32) (cs : Addr) (ft : Nat → Int32) (fp : Nat → Int32) (N K S i n0 : Nat)
    (X0 : Stand p l e ({ frames := 0, cells := 0, slots := 0, locals := 0 } : Room) s m args below meth c T0 locs 0 0) (hx : p.tables.exec = Jvm.exec) (hZ : Z.Warmed39 s.vm) (hw : ∀ d ∈ tables_1, d.before a0 Z = true) (hby : c.code = prog_66_method_6_code) (hml : c.maxLocals = 4) (hown : s.vm.findClass "operand/Spelling" = some m.cls) (e0 : T0.heap = h0) (N0 : Fr n0 locs) (Z0 : n0 ≤ h0.size)
    (F1 : Fld Z h0 o0 "operand/Spelling" "characters" "[C" (.ref cs)) (A1 : Ia Z h0 o1 .char N ft) (A2 : Ia Z h0 cs .char K fp) (hS : p2.toInt = (S : Int)) (hN : N ≤ 7) (hK : K ≤ 3) (hfit : S + K ≤ N) (hd : i + d = K) (hall : ∀ j, j < i → ft (S + j) = fp j),
    ∃ (T' : State) (iv : Int32), Stand p l e ({ frames := 0, cells := 0, slots := 0, locals := 0 } : Room) s m args below meth c T' locs 0 0 ∧ T'.heap = h0 ∧
      (((∀ j, j < K → ft (S + j) = fp j) ∧ ∀ t, Steps p.tables e below (T'.setTop (mkF m 47 #[.val (.ref o0), .val (.ref o1), .val (.int p2), .val (.int iv)] [])) t → Steps p.tables e below (T0.setTop (mkF m 16 #[.val (.ref o0), .val (.ref o1), .val (.int p2), .val (.int (Int32.ofNat i))] [])) t) ∨
       ((∃ j, j < K ∧ ft (S + j) ≠ fp j) ∧ ∀ t, Steps p.tables e below (T'.setTop (mkF m 39 #[.val (.ref o0), .val (.ref o1), .val (.int p2), .val (.int iv)] [])) t → Steps p.tables e below (T0.setTop (mkF m 16 #[.val (.ref o0), .val (.ref o1), .val (.int p2), .val (.int (Int32.ofNat i))] [])) t)) := by
  induction d with
  | zero =>
    intro T0 o0 o1 p2 cs ft fp N K S i n0 X0 hx hZ hw hby hml hown e0 N0 Z0 F1 A1 A2 hS hN hK hfit hd hall
    obtain rfl : i = K := by omega
    obtain ⟨T1, h1, L1, X1, e1, -, -, rfl, rfl, st⟩ := tnE o0 o1 p2 cs ft fp N i S i n0 X0 hx hZ hw hby hml hown e0 N0 Z0 F1 A1 A2 hS hN hK hfit (by rw [Int32.lt_iff_toInt_lt]; omega)
    exact ⟨T1, _, X1, e1, Or.inl ⟨hall, st⟩⟩
  | succ d ih =>
    intro T0 o0 o1 p2 cs ft fp N K S i n0 X0 hx hZ hw hby hml hown e0 N0 Z0 F1 A1 A2 hS hN hK hfit hd hall
    have hlt : Int32.ofNat i < Int32.ofNat K := by rw [Int32.lt_iff_toInt_lt, own_ti (by omega), own_ti (by omega)]; omega
    by_cases q : ft (S + i) = fp i
    · obtain ⟨T1, h1, L1, X1, e1, N1, Z1, rfl, rfl, st1⟩ := tnT o0 o1 p2 cs ft fp N K S i n0 X0 hx hZ hw hby hml hown e0 N0 Z0 F1 A1 A2 hS hN hK hfit (by omega) hlt q
      rw [own_one i] at st1
      obtain ⟨T2, iv, X2, e2, hor⟩ := ih o0 o1 p2 cs ft fp N K S (i + 1) n0 X1 hx hZ hw hby hml hown e1 N1 Z1 F1 A1 A2 hS hN hK hfit (by omega) (fun j hj => by
        by_cases z : j < i
        · exact hall j z
        · obtain rfl : j = i := by omega
          exact q)
      refine ⟨T2, iv, X2, e2, ?_⟩
      rcases hor with ⟨h1, st2⟩ | ⟨h1, st2⟩
      · exact Or.inl ⟨h1, fun t kt => st1 t (st2 t kt)⟩
      · exact Or.inr ⟨h1, fun t kt => st1 t (st2 t kt)⟩
    · obtain ⟨T1, h1, L1, X1, e1, -, -, rfl, rfl, st1⟩ := tnN o0 o1 p2 cs ft fp N K S i n0 X0 hx hZ hw hby hml hown e0 N0 Z0 F1 A1 A2 hS hN hK hfit (by omega) hlt q
      exact ⟨T1, _, X1, e1, Or.inr ⟨⟨i, by omega, q⟩, st1⟩⟩
theorem ef_4 (m : MethodId) (x0 : Addr) (x1 : Addr) (x2 : Int32) : entryFrame m #[(.ref x0), (.ref x1), (.int x2)] 4 = mkF m 0 #[.val (.ref x0), .val (.ref x1), .val (.int x2), .unset] [] := by first | (simp [entryFrame, mkF, argsToLocals, Value.category]; done) | rfl
theorem pn_2 : plainName "operand/Spelling" = true := by first | (simp [plainName, overriddenIn]; done) | decide +kernel
theorem d4_0 : decode prog_66_method_6_code 0 = .ok (.iload_n 2, 1) := by decide +kernel
theorem d4_1 : decode prog_66_method_6_code 1 = .ok (.aload_n 0, 1) := by decide +kernel
theorem d4_2 : decode prog_66_method_6_code 2 = .ok (.getfield 15, 3) := by decide +kernel
theorem d4_5 : decode prog_66_method_6_code 5 = .ok (.arraylength, 1) := by decide +kernel
theorem d4_6 : decode prog_66_method_6_code 6 = .ok (.iadd, 1) := by decide +kernel
theorem d4_7 : decode prog_66_method_6_code 7 = .ok (.aload_n 1, 1) := by decide +kernel
theorem d4_8 : decode prog_66_method_6_code 8 = .ok (.arraylength, 1) := by decide +kernel
theorem d4_9 : decode prog_66_method_6_code 9 = .ok (.if_icmp .le 5, 3) := by decide +kernel
theorem d4_12 : decode prog_66_method_6_code 12 = .ok (.iconst 0, 1) := by decide +kernel
theorem d4_13 : decode prog_66_method_6_code 13 = .ok (.ireturn, 1) := by decide +kernel
theorem d4_14 : decode prog_66_method_6_code 14 = .ok (.iconst 0, 1) := by decide +kernel
theorem d4_15 : decode prog_66_method_6_code 15 = .ok (.istore_n 3, 1) := by decide +kernel
theorem d4_47 : decode prog_66_method_6_code 47 = .ok (.iconst 1, 1) := by decide +kernel
theorem d4_48 : decode prog_66_method_6_code 48 = .ok (.ireturn, 1) := by decide +kernel
theorem d4_39 : decode prog_66_method_6_code 39 = .ok (.iconst 0, 1) := by decide +kernel
theorem d4_40 : decode prog_66_method_6_code 40 = .ok (.ireturn, 1) := by decide +kernel
def Q4 (Z : State) (o0 : Addr) (o1 : Addr) (p2 : Int32) (cs : Addr) (ft : Nat → Int32) (fp : Nat → Int32) (N : Nat) (K : Nat) (S : Nat) (h0 : Heap) (n0 : Nat) (v : Option Value) (h : Heap) (L : List Loc) : Prop := ∃ r, v = some (.int r) ∧ (r = 1 ∨ r = 0) ∧ (r = 1 ↔ S + K ≤ N ∧ ∀ j, j < K → ft (S + j) = fp j) ∧ L = [] ∧ h = h0
set_option maxRecDepth 65536 in
set_option maxHeartbeats 40000000 in
theorem rm4 (l : Launch) (Z : State) (a0 : Array Value) (hw : ∀ d ∈ tables_1, d.before a0 Z = true) (ws : List Jvm.Cond) (o0 : Addr) (o1 : Addr) (p2 : Int32) (cs : Addr) (ft : Nat → Int32) (fp : Nat → Int32) (N : Nat) (K : Nat) (S : Nat) (h0 : Heap) (n0 : Nat) (Z0 : n0 ≤ h0.size) (F1 : Fld Z h0 o0 "operand/Spelling" "characters" "[C" (.ref cs)) (A1 : Ia Z h0 o1 .char N ft) (A2 : Ia Z h0 cs .char K fp) (hS : p2.toInt = (S : Int)) (hS7 : S ≤ 7) (hN : N ≤ 7) (hKx : K ≤ 3) :
    MetFree l (⟨"operand/Spelling", "isAt", "([CI)Z"⟩ : MethodName) (head1 (Jvm.Cond.code (⟨"operand/Spelling", "isAt", "([CI)Z"⟩ : MethodName) prog_66_method_6_code 4 (some .boolean) :: ws) ({ frames := 0, cells := 0, slots := 0, locals := 0 } : Room)) (fun a U => a = #[(.ref o0), (.ref o1), (.int p2)] ∧ Z.Warmed39 U.vm ∧ U.heap = h0) (fun _ _ _ _ _ => True) (fun _ U o U' => ∃ v L, o = .returned v ∧ Q4 Z o0 o1 p2 cs ft fp N K S h0 n0 v U'.heap L ∧ FrameEnd U o U' L ({ frames := 0, cells := 0, slots := 0, locals := 0 } : Room).cells ({ frames := 0, cells := 0, slots := 0, locals := 0 } : Room).slots) := by
  refine MetFree.of_bodySF (plainFor_of_name pn_2) hisR ?_
  intro p e s m args below meth c s₁ Bd hml0 hP hK
  obtain ⟨rfl, hZ, hh⟩ := hP
  have hx := Bd.exec
  have hby := Bd.bytes
  have hml : c.maxLocals = 4 := hml0
  have hown : s.vm.findClass "operand/Spelling" = some m.cls := findClass_of_methodNamed Bd.named
  have hnm := (name_of_methodNamed Bd.named Bd.method).1
  have X0 : Stand p l e ({ frames := 0, cells := 0, slots := 0, locals := 0 } : Room) s m #[(.ref o0), (.ref o1), (.int p2)] below meth c s₁ [] 0 0 := Stand.of_body Bd
  have e0 : s₁.heap = h0 := by rw [← hh, Bd.state]; rfl
  have pre0 : ∀ t, Steps p.tables e below (s₁.setTop (mkF m 0 #[.val (.ref o0), .val (.ref o1), .val (.int p2), .unset] [])) t → Steps p.tables e below (s₁.setTop (entryFrame m #[(.ref o0), (.ref o1), (.int p2)] 4)) t := fun t k => castTop (ef_4 m o0 o1 p2) k
  have N0 := Fr.nil n0
  obtain ⟨T1, X1, e1, st1⟩ := getF X0 hx hZ hown (host := "") (Or.inl (hw _ (List.mem_of_getElem? (i := 25) rfl))) Via.refl e0 F1 (g := (mkF m 2 #[.val (.ref o0), .val (.ref o1), .val (.int p2), .unset] [(.ref o0), (.int p2)])) rfl rfl (hb hby d4_2)
  have K2 : ∀ t, Steps p.tables e below (T1.setTop (mkF m 9 #[.val (.ref o0), .val (.ref o1), .val (.int p2), .unset] [(.int (Int32.ofNat N)), (.int (p2 + (Int32.ofNat K)))])) t → Steps p.tables e below (s₁.setTop (mkF m 0 #[.val (.ref o0), .val (.ref o1), .val (.int p2), .unset] [])) t := by
    intro t kt
    show Steps p.tables e below (s₁.setTop (mkF m 0 #[.val (.ref o0), .val (.ref o1), .val (.int p2), .unset] [])) _
    refine XS.iloadN X0.here hx rfl (hb hby d4_0) rfl ?_
    show Steps p.tables e below (s₁.setTop (mkF m 1 #[.val (.ref o0), .val (.ref o1), .val (.int p2), .unset] [(.int p2)])) _
    refine XS.aloadN X0.here hx rfl (hb hby d4_1) rfl rfl ?_
    show Steps p.tables e below (s₁.setTop (mkF m 2 #[.val (.ref o0), .val (.ref o1), .val (.int p2), .unset] [(.ref o0), (.int p2)])) _
    refine st1 _ ?_
    show Steps p.tables e below (T1.setTop (mkF m 5 #[.val (.ref o0), .val (.ref o1), .val (.int p2), .unset] [(.ref cs), (.int p2)])) _
    refine iaLen X1 hx hZ e1 A2 (g := (mkF m 5 #[.val (.ref o0), .val (.ref o1), .val (.int p2), .unset] [(.ref cs), (.int p2)])) rfl rfl (hb hby d4_5) _ ?_
    show Steps p.tables e below (T1.setTop (mkF m 6 #[.val (.ref o0), .val (.ref o1), .val (.int p2), .unset] [(.int (Int32.ofNat K)), (.int p2)])) _
    refine XS.iadd X1.here hx rfl (hb hby d4_6) rfl ?_
    show Steps p.tables e below (T1.setTop (mkF m 7 #[.val (.ref o0), .val (.ref o1), .val (.int p2), .unset] [(.int (p2 + (Int32.ofNat K)))])) _
    refine XS.aloadN X1.here hx rfl (hb hby d4_7) rfl rfl ?_
    show Steps p.tables e below (T1.setTop (mkF m 8 #[.val (.ref o0), .val (.ref o1), .val (.int p2), .unset] [(.ref o1), (.int (p2 + (Int32.ofNat K)))])) _
    refine iaLen X1 hx hZ e1 A1 (g := (mkF m 8 #[.val (.ref o0), .val (.ref o1), .val (.int p2), .unset] [(.ref o1), (.int (p2 + (Int32.ofNat K)))])) rfl rfl (hb hby d4_8) _ ?_
    exact kt
  by_cases hc3 : (Int32.ofNat N) < (p2 + (Int32.ofNat K))
  · skip
    have K4 : ∀ t, Steps p.tables e below (T1.setTop (mkF m 13 #[.val (.ref o0), .val (.ref o1), .val (.int p2), .unset] [(.int (0 : Int32))])) t → Steps p.tables e below (s₁.setTop (mkF m 0 #[.val (.ref o0), .val (.ref o1), .val (.int p2), .unset] [])) t := by
      intro t kt
      refine K2 _ ?_
      show Steps p.tables e below (T1.setTop (mkF m 9 #[.val (.ref o0), .val (.ref o1), .val (.int p2), .unset] [(.int (Int32.ofNat N)), (.int (p2 + (Int32.ofNat K)))])) _
      refine XS.icmpNo X1.here hx rfl (hb hby d4_9) rfl (tlt hc3).2.2.2 ?_
      show Steps p.tables e below (T1.setTop (mkF m 12 #[.val (.ref o0), .val (.ref o1), .val (.int p2), .unset] [])) _
      refine XS.iconst X1.here hx rfl (hb hby d4_12) ?_
      exact kt
    obtain ⟨fsQ, hr, hrun, hended, hW, hsame⟩ := X1.leave (v := some (.int (0 : Int32))) (fun h => by rw [Bd.returns] at h; cases h)
    refine ⟨_, _, pre0 _ (K4 _ ?_), hrun, hended, _, _, rfl, ?_, ⟨_, rfl⟩, hW, hsame.mono (by decide) (by decide)⟩
    · show Steps p.tables e below (T1.setTop (mkF m 13 #[.val (.ref o0), .val (.ref o1), .val (.int p2), .unset] [(.int (0 : Int32))])) _
      exact retN X1 hx (t := .boolean) Bd.returns (by simp) (hb hby d4_13) hr
    · show Q4 Z o0 o1 p2 cs ft fp N K S h0 n0 _ T1.heap _
      rw [e1]
      exact ⟨_, rfl, Or.inr rfl, ⟨fun z => absurd z (by decide), fun z => by have := own_ix (own_ti (by omega)) (own_add hS (own_ti (by omega)) (by omega) (by omega)) hc3; omega⟩, rfl, rfl⟩
  · skip
    have K5 : ∀ t, Steps p.tables e below (T1.setTop (mkF m 16 #[.val (.ref o0), .val (.ref o1), .val (.int p2), .val (.int (0 : Int32))] [])) t → Steps p.tables e below (s₁.setTop (mkF m 0 #[.val (.ref o0), .val (.ref o1), .val (.int p2), .unset] [])) t := by
      intro t kt
      refine K2 _ ?_
      show Steps p.tables e below (T1.setTop (mkF m 9 #[.val (.ref o0), .val (.ref o1), .val (.int p2), .unset] [(.int (Int32.ofNat N)), (.int (p2 + (Int32.ofNat K)))])) _
      refine XS.icmpYes X1.here hx rfl (pc0 := 9) (pc' := 14) rfl (hb hby d4_9) rfl (flt hc3).2.2.2 (by decide) (by decide) ?_
      show Steps p.tables e below (T1.setTop (mkF m 14 #[.val (.ref o0), .val (.ref o1), .val (.int p2), .unset] [])) _
      refine XS.iconst X1.here hx rfl (hb hby d4_14) ?_
      show Steps p.tables e below (T1.setTop (mkF m 15 #[.val (.ref o0), .val (.ref o1), .val (.int p2), .unset] [(.int (0 : Int32))])) _
      refine XS.istoreN X1.here hx rfl (hb hby d4_15) rfl (l' := #[.val (.ref o0), .val (.ref o1), .val (.int p2), .val (.int (0 : Int32))]) rfl ?_
      exact kt
    have hfit : S + K ≤ N := own_nx (own_ti (by omega)) (own_add hS (own_ti (by omega)) (by omega) (by omega)) hc3
    obtain ⟨T9, iv, X9, e9, hor⟩ := own_isat K o0 o1 p2 cs ft fp N K S 0 n0 X1 hx hZ hw hby hml hown e1 N0 Z0 F1 A1 A2 hS hN hKx hfit (by omega) (fun j hj => absurd hj (Nat.not_lt_zero _))
    rcases hor with ⟨hal, st9⟩ | ⟨hal, st9⟩
    · skip
      have K6 : ∀ t, Steps p.tables e below (T9.setTop (mkF m 48 #[.val (.ref o0), .val (.ref o1), .val (.int p2), .val (.int iv)] [(.int (1 : Int32))])) t → Steps p.tables e below (s₁.setTop (mkF m 0 #[.val (.ref o0), .val (.ref o1), .val (.int p2), .unset] [])) t := by
        intro t kt
        refine K5 _ ?_
        show Steps p.tables e below (T1.setTop (mkF m 16 #[.val (.ref o0), .val (.ref o1), .val (.int p2), .val (.int (0 : Int32))] [])) _
        refine st9 _ ?_
        show Steps p.tables e below (T9.setTop (mkF m 47 #[.val (.ref o0), .val (.ref o1), .val (.int p2), .val (.int iv)] [])) _
        refine XS.iconst X9.here hx rfl (hb hby d4_47) ?_
        exact kt
      obtain ⟨fsQ, hr, hrun, hended, hW, hsame⟩ := X9.leave (v := some (.int (1 : Int32))) (fun h => by rw [Bd.returns] at h; cases h)
      refine ⟨_, _, pre0 _ (K6 _ ?_), hrun, hended, _, _, rfl, ?_, ⟨_, rfl⟩, hW, hsame.mono (by decide) (by decide)⟩
      · show Steps p.tables e below (T9.setTop (mkF m 48 #[.val (.ref o0), .val (.ref o1), .val (.int p2), .val (.int iv)] [(.int (1 : Int32))])) _
        exact retN X9 hx (t := .boolean) Bd.returns (by simp) (hb hby d4_48) hr
      · show Q4 Z o0 o1 p2 cs ft fp N K S h0 n0 _ T9.heap _
        rw [e9]
        exact ⟨_, rfl, Or.inl rfl, ⟨fun _ => ⟨hfit, hal⟩, fun _ => rfl⟩, rfl, rfl⟩
    · skip
      have K7 : ∀ t, Steps p.tables e below (T9.setTop (mkF m 40 #[.val (.ref o0), .val (.ref o1), .val (.int p2), .val (.int iv)] [(.int (0 : Int32))])) t → Steps p.tables e below (s₁.setTop (mkF m 0 #[.val (.ref o0), .val (.ref o1), .val (.int p2), .unset] [])) t := by
        intro t kt
        refine K5 _ ?_
        show Steps p.tables e below (T1.setTop (mkF m 16 #[.val (.ref o0), .val (.ref o1), .val (.int p2), .val (.int (0 : Int32))] [])) _
        refine st9 _ ?_
        show Steps p.tables e below (T9.setTop (mkF m 39 #[.val (.ref o0), .val (.ref o1), .val (.int p2), .val (.int iv)] [])) _
        refine XS.iconst X9.here hx rfl (hb hby d4_39) ?_
        exact kt
      obtain ⟨fsQ, hr, hrun, hended, hW, hsame⟩ := X9.leave (v := some (.int (0 : Int32))) (fun h => by rw [Bd.returns] at h; cases h)
      refine ⟨_, _, pre0 _ (K7 _ ?_), hrun, hended, _, _, rfl, ?_, ⟨_, rfl⟩, hW, hsame.mono (by decide) (by decide)⟩
      · show Steps p.tables e below (T9.setTop (mkF m 40 #[.val (.ref o0), .val (.ref o1), .val (.int p2), .val (.int iv)] [(.int (0 : Int32))])) _
        exact retN X9 hx (t := .boolean) Bd.returns (by simp) (hb hby d4_40) hr
      · show Q4 Z o0 o1 p2 cs ft fp N K S h0 n0 _ T9.heap _
        rw [e9]
        exact ⟨_, rfl, Or.inr rfl, ⟨fun z => absurd z (by decide), fun z => by obtain ⟨j, h1, h2⟩ := hal; exact absurd (z.2 j h1) h2⟩, rfl, rfl⟩
theorem ef_1 (m : MethodId) (x0 : Addr) (x1 : Addr) (x2 : Addr) (x3 : Int64) (x6 : Int32) : entryFrame m #[(.ref x0), (.ref x1), (.ref x2), (.long x3), .null, .null, (.int x6)] 8 = mkF m 0 #[.val (.ref x0), .val (.ref x1), .val (.ref x2), .val (.long x3), .second, .val .null, .val .null, .val (.int x6)] [] := by first | (simp [entryFrame, mkF, argsToLocals, Value.category]; done) | rfl
theorem d1_0 : decode prog_66_method_1_code 0 = .ok (.aload_n 0, 1) := by decide +kernel
theorem d1_1 : decode prog_66_method_1_code 1 = .ok (.invokespecial 3, 3) := by decide +kernel
theorem pd_0 : parseMethodDescriptor "()V" = some ⟨[], none⟩ := by decide +kernel
theorem d1_4 : decode prog_66_method_1_code 4 = .ok (.aload_n 0, 1) := by decide +kernel
theorem d1_5 : decode prog_66_method_1_code 5 = .ok (.aload_n 1, 1) := by decide +kernel
theorem d1_6 : decode prog_66_method_1_code 6 = .ok (.putfield 9, 3) := by decide +kernel
theorem d1_9 : decode prog_66_method_1_code 9 = .ok (.aload_n 0, 1) := by decide +kernel
theorem d1_10 : decode prog_66_method_1_code 10 = .ok (.aload_n 2, 1) := by decide +kernel
theorem d1_11 : decode prog_66_method_1_code 11 = .ok (.putfield 15, 3) := by decide +kernel
theorem d1_14 : decode prog_66_method_1_code 14 = .ok (.aload_n 0, 1) := by decide +kernel
theorem d1_15 : decode prog_66_method_1_code 15 = .ok (.lload_n 3, 1) := by decide +kernel
theorem d1_16 : decode prog_66_method_1_code 16 = .ok (.putfield 19, 3) := by decide +kernel
theorem d1_19 : decode prog_66_method_1_code 19 = .ok (.aload_n 0, 1) := by decide +kernel
theorem d1_20 : decode prog_66_method_1_code 20 = .ok (.aload 5, 2) := by decide +kernel
theorem d1_22 : decode prog_66_method_1_code 22 = .ok (.putfield 23, 3) := by decide +kernel
theorem d1_25 : decode prog_66_method_1_code 25 = .ok (.aload_n 0, 1) := by decide +kernel
theorem d1_26 : decode prog_66_method_1_code 26 = .ok (.aload 6, 2) := by decide +kernel
theorem d1_28 : decode prog_66_method_1_code 28 = .ok (.putfield 27, 3) := by decide +kernel
theorem d1_31 : decode prog_66_method_1_code 31 = .ok (.aload_n 0, 1) := by decide +kernel
theorem d1_32 : decode prog_66_method_1_code 32 = .ok (.iload 7, 2) := by decide +kernel
theorem d1_34 : decode prog_66_method_1_code 34 = .ok (.putfield 31, 3) := by decide +kernel
theorem d1_37 : decode prog_66_method_1_code 37 = .ok (.return_, 1) := by decide +kernel
def Q1 (Z : State) (o0 : Addr) (o1 : Addr) (o2 : Addr) (q3 : Int64) (p6 : Int32) (u0 : Value) (u1 : Value) (u2 : Value) (u3 : Value) (u4 : Value) (u5 : Value) (h0 : Heap) (n0 : Nat) (v : Option Value) (h : Heap) (L : List Loc) : Prop := v = none ∧ Fr n0 L ∧ Keep h0 h [o0] ∧ Fld Z h o0 "operand/Spelling" "characters" "[C" (.ref o2)
set_option maxRecDepth 65536 in
set_option maxHeartbeats 40000000 in
theorem rm1 (l : Launch) (Z : State) (a0 : Array Value) (hw : ∀ d ∈ tables_1, d.before a0 Z = true) (ws : List Jvm.Cond) (o0 : Addr) (o1 : Addr) (o2 : Addr) (q3 : Int64) (p6 : Int32) (u0 : Value) (u1 : Value) (u2 : Value) (u3 : Value) (u4 : Value) (u5 : Value) (h0 : Heap) (n0 : Nat) (Z0 : n0 ≤ h0.size) (F0 : Fld Z h0 o0 "operand/Spelling" "text" "Ljava/lang/String;" u0) (F1 : Fld Z h0 o0 "operand/Spelling" "characters" "[C" u1) (F2 : Fld Z h0 o0 "operand/Spelling" "key" "J" u2) (F3 : Fld Z h0 o0 "operand/Spelling" "binary" "Loperand/Operator;" u3) (F4 : Fld Z h0 o0 "operand/Spelling" "prefix" "Loperand/PrefixOperator;" u4) (F5 : Fld Z h0 o0 "operand/Spelling" "reserved" "Z" u5) (E1 : Exa Z h0 o0 "operand/Spelling") (g1 : n0 ≤ o0) :
    MetFree l (⟨"operand/Spelling", "<init>", "(Ljava/lang/String;[CJLoperand/Operator;Loperand/PrefixOperator;Z)V"⟩ : MethodName) (head1 (Jvm.Cond.code (⟨"operand/Spelling", "<init>", "(Ljava/lang/String;[CJLoperand/Operator;Loperand/PrefixOperator;Z)V"⟩ : MethodName) prog_66_method_1_code 8 none :: ws) ({ frames := 2, cells := 0, slots := 0, locals := 24 } : Room)) (fun a U => a = #[(.ref o0), (.ref o1), (.ref o2), (.long q3), .null, .null, (.int p6)] ∧ Z.Warmed39 U.vm ∧ U.heap = h0) (fun _ _ _ _ _ => True) (fun _ U o U' => ∃ v L, o = .returned v ∧ Q1 Z o0 o1 o2 q3 p6 u0 u1 u2 u3 u4 u5 h0 n0 v U'.heap L ∧ FrameEnd U o U' L ({ frames := 2, cells := 0, slots := 0, locals := 24 } : Room).cells ({ frames := 2, cells := 0, slots := 0, locals := 24 } : Room).slots) := by
  refine MetFree.of_bodySF (plainFor_of_name pn_2) hisR ?_
  intro p e s m args below meth c s₁ Bd hml0 hP hK
  obtain ⟨rfl, hZ, hh⟩ := hP
  have hx := Bd.exec
  have hby := Bd.bytes
  have hml : c.maxLocals = 8 := hml0
  have hown : s.vm.findClass "operand/Spelling" = some m.cls := findClass_of_methodNamed Bd.named
  have hnm := (name_of_methodNamed Bd.named Bd.method).1
  have X0 : Stand p l e ({ frames := 2, cells := 0, slots := 0, locals := 24 } : Room) s m #[(.ref o0), (.ref o1), (.ref o2), (.long q3), .null, .null, (.int p6)] below meth c s₁ [] 0 0 := Stand.of_body Bd
  have e0 : s₁.heap = h0 := by rw [← hh, Bd.state]; rfl
  have pre0 : ∀ t, Steps p.tables e below (s₁.setTop (mkF m 0 #[.val (.ref o0), .val (.ref o1), .val (.ref o2), .val (.long q3), .second, .val .null, .val .null, .val (.int p6)] [])) t → Steps p.tables e below (s₁.setTop (entryFrame m #[(.ref o0), (.ref o1), (.ref o2), (.long q3), .null, .null, (.int p6)] 8)) t := fun t k => castTop (ef_1 m o0 o1 o2 q3 p6) k
  have N0 := Fr.nil n0
  have KP0 : Keep h0 h0 [o0] := Keep.refl _ _
  obtain ⟨_, _, ⟨T1, L1, k1, n1⟩, -, X1, ⟨Lc1, hQ1, l1, y1, z1⟩, st1⟩ := X0.specialBack hx (y := (⟨"java/lang/Record", "<init>", "()V"⟩ : MethodName)) rfl hown (mvT hZ (hw _ (List.mem_of_getElem? (i := 15) rfl))) (mvT hZ (hw _ (List.mem_of_getElem? (i := 16) rfl))) (mvT hZ (hw _ (List.mem_of_getElem? (i := 19) rfl))) (by decide) (backOf (W := 0) (rm2 l Z a0 hw [] o0  h0 ) hZ (hw _ (List.mem_of_getElem? (i := 19) rfl)) (hw _ (List.mem_of_getElem? (i := 18) rfl)) (by decide) (by decide)) (g := (mkF m 1 #[.val (.ref o0), .val (.ref o1), .val (.ref o2), .val (.long q3), .second, .val .null, .val .null, .val (.int p6)] [(.ref o0)])) rfl (by rw [hml]; rfl) (Steps.refl _) (a := o0) (argsL := []) (rest := []) (lenOf pd_0 rfl) rfl (by show 2 * 0 + _ ≤ _; exact Nat.le_of_eq rfl) (hb hby d1_1) (fun _ _ => ⟨rfl, e0, (by decide : 0 + 0 ≤ _), (by decide : 0 + 0 ≤ _)⟩)
  dsimp only [Pt.U, Pt.locs, Pt.cells, Pt.slots] at X1 l1 y1 z1 st1 hQ1
  subst l1 y1 z1
  obtain ⟨rfl, rfl, e1⟩ := hQ1
  try rw [List.append_nil] at X1
  obtain ⟨T2, h2, X2, e2, W2, st2⟩ := putF X1 hx hZ hown (host := "") (Or.inl (hw _ (List.mem_of_getElem? (i := 23) rfl))) Via.refl e1 F0 E1 (Or.inr ⟨(hw _ (List.mem_of_getElem? (i := 24) rfl)), rfl, hnm⟩) (hw _ (List.mem_of_getElem? (i := 2) rfl)) (ty := (.object "java/lang/String")) (by decide) rfl rfl (g := (mkF m 6 #[.val (.ref o0), .val (.ref o1), .val (.ref o2), .val (.long q3), .second, .val .null, .val .null, .val (.int p6)] [(.ref o1), (.ref o0)])) rfl rfl (hb hby d1_6)
  have G3 : Exa Z h2 o0 "operand/Spelling" := E1.wr W2
  have G4 : Fld Z h2 o0 "operand/Spelling" "text" "Ljava/lang/String;" (.ref o1) := F0.same W2
  have G5 : Fld Z h2 o0 "operand/Spelling" "characters" "[C" u1 := F1.other W2 (Or.inr (slot_ne (Or.inr (hw _ (List.mem_of_getElem? (i := 26) rfl))) (Or.inr (hw _ (List.mem_of_getElem? (i := 24) rfl))) (by decide) (t := (.array .char)) (t' := (.object "java/lang/String")) (by decide) (by decide)))
  have G6 : Fld Z h2 o0 "operand/Spelling" "key" "J" u2 := F2.other W2 (Or.inr (slot_ne (Or.inr (hw _ (List.mem_of_getElem? (i := 28) rfl))) (Or.inr (hw _ (List.mem_of_getElem? (i := 24) rfl))) (by decide) (t := .long) (t' := (.object "java/lang/String")) (by decide) (by decide)))
  have G7 : Fld Z h2 o0 "operand/Spelling" "binary" "Loperand/Operator;" u3 := F3.other W2 (Or.inr (slot_ne (Or.inr (hw _ (List.mem_of_getElem? (i := 30) rfl))) (Or.inr (hw _ (List.mem_of_getElem? (i := 24) rfl))) (by decide) (t := (.object "operand/Operator")) (t' := (.object "java/lang/String")) (by decide) (by decide)))
  have G8 : Fld Z h2 o0 "operand/Spelling" "prefix" "Loperand/PrefixOperator;" u4 := F4.other W2 (Or.inr (slot_ne (Or.inr (hw _ (List.mem_of_getElem? (i := 32) rfl))) (Or.inr (hw _ (List.mem_of_getElem? (i := 24) rfl))) (by decide) (t := (.object "operand/PrefixOperator")) (t' := (.object "java/lang/String")) (by decide) (by decide)))
  have G9 : Fld Z h2 o0 "operand/Spelling" "reserved" "Z" u5 := F5.other W2 (Or.inr (slot_ne (Or.inr (hw _ (List.mem_of_getElem? (i := 34) rfl))) (Or.inr (hw _ (List.mem_of_getElem? (i := 24) rfl))) (by decide) (t := .boolean) (t' := (.object "java/lang/String")) (by decide) (by decide)))
  have Z2 : n0 ≤ h2.size := Nat.le_trans Z0 (Keep.of_wr W2).1
  have N2 := Fr.snoc X2 N0 g1
  have KP2 : Keep h0 h2 [o0] := KP0.wr W2 (Or.inl (List.mem_of_getElem? (i := 0) rfl))
  obtain ⟨T10, h10, X10, e10, W10, st10⟩ := putF X2 hx hZ hown (host := "") (Or.inl (hw _ (List.mem_of_getElem? (i := 25) rfl))) Via.refl e2 G5 G3 (Or.inr ⟨(hw _ (List.mem_of_getElem? (i := 26) rfl)), rfl, hnm⟩) (hw _ (List.mem_of_getElem? (i := 2) rfl)) (ty := (.array .char)) (by decide) rfl rfl (g := (mkF m 11 #[.val (.ref o0), .val (.ref o1), .val (.ref o2), .val (.long q3), .second, .val .null, .val .null, .val (.int p6)] [(.ref o2), (.ref o0)])) rfl rfl (hb hby d1_11)
  have G11 : Exa Z h10 o0 "operand/Spelling" := G3.wr W10
  have G12 : Fld Z h10 o0 "operand/Spelling" "text" "Ljava/lang/String;" (.ref o1) := G4.other W10 (Or.inr (slot_ne (Or.inr (hw _ (List.mem_of_getElem? (i := 24) rfl))) (Or.inr (hw _ (List.mem_of_getElem? (i := 26) rfl))) (by decide) (t := (.object "java/lang/String")) (t' := (.array .char)) (by decide) (by decide)))
  have G13 : Fld Z h10 o0 "operand/Spelling" "characters" "[C" (.ref o2) := G5.same W10
  have G14 : Fld Z h10 o0 "operand/Spelling" "key" "J" u2 := G6.other W10 (Or.inr (slot_ne (Or.inr (hw _ (List.mem_of_getElem? (i := 28) rfl))) (Or.inr (hw _ (List.mem_of_getElem? (i := 26) rfl))) (by decide) (t := .long) (t' := (.array .char)) (by decide) (by decide)))
  have G15 : Fld Z h10 o0 "operand/Spelling" "binary" "Loperand/Operator;" u3 := G7.other W10 (Or.inr (slot_ne (Or.inr (hw _ (List.mem_of_getElem? (i := 30) rfl))) (Or.inr (hw _ (List.mem_of_getElem? (i := 26) rfl))) (by decide) (t := (.object "operand/Operator")) (t' := (.array .char)) (by decide) (by decide)))
  have G16 : Fld Z h10 o0 "operand/Spelling" "prefix" "Loperand/PrefixOperator;" u4 := G8.other W10 (Or.inr (slot_ne (Or.inr (hw _ (List.mem_of_getElem? (i := 32) rfl))) (Or.inr (hw _ (List.mem_of_getElem? (i := 26) rfl))) (by decide) (t := (.object "operand/PrefixOperator")) (t' := (.array .char)) (by decide) (by decide)))
  have G17 : Fld Z h10 o0 "operand/Spelling" "reserved" "Z" u5 := G9.other W10 (Or.inr (slot_ne (Or.inr (hw _ (List.mem_of_getElem? (i := 34) rfl))) (Or.inr (hw _ (List.mem_of_getElem? (i := 26) rfl))) (by decide) (t := .boolean) (t' := (.array .char)) (by decide) (by decide)))
  have Z10 : n0 ≤ h10.size := Nat.le_trans Z2 (Keep.of_wr W10).1
  have N10 := Fr.snoc X10 N2 g1
  have KP10 : Keep h0 h10 [o0] := KP2.wr W10 (Or.inl (List.mem_of_getElem? (i := 0) rfl))
  obtain ⟨T18, h18, X18, e18, W18, st18⟩ := putF X10 hx hZ hown (host := "") (Or.inl (hw _ (List.mem_of_getElem? (i := 27) rfl))) Via.refl e10 G14 G11 (Or.inr ⟨(hw _ (List.mem_of_getElem? (i := 28) rfl)), rfl, hnm⟩) (hw _ (List.mem_of_getElem? (i := 2) rfl)) (ty := .long) (by decide) rfl rfl (g := (mkF m 16 #[.val (.ref o0), .val (.ref o1), .val (.ref o2), .val (.long q3), .second, .val .null, .val .null, .val (.int p6)] [(.long q3), (.ref o0)])) rfl rfl (hb hby d1_16)
  have G19 : Exa Z h18 o0 "operand/Spelling" := G11.wr W18
  have G20 : Fld Z h18 o0 "operand/Spelling" "text" "Ljava/lang/String;" (.ref o1) := G12.other W18 (Or.inr (slot_ne (Or.inr (hw _ (List.mem_of_getElem? (i := 24) rfl))) (Or.inr (hw _ (List.mem_of_getElem? (i := 28) rfl))) (by decide) (t := (.object "java/lang/String")) (t' := .long) (by decide) (by decide)))
  have G21 : Fld Z h18 o0 "operand/Spelling" "characters" "[C" (.ref o2) := G13.other W18 (Or.inr (slot_ne (Or.inr (hw _ (List.mem_of_getElem? (i := 26) rfl))) (Or.inr (hw _ (List.mem_of_getElem? (i := 28) rfl))) (by decide) (t := (.array .char)) (t' := .long) (by decide) (by decide)))
  have G22 : Fld Z h18 o0 "operand/Spelling" "key" "J" (.long q3) := G14.same W18
  have G23 : Fld Z h18 o0 "operand/Spelling" "binary" "Loperand/Operator;" u3 := G15.other W18 (Or.inr (slot_ne (Or.inr (hw _ (List.mem_of_getElem? (i := 30) rfl))) (Or.inr (hw _ (List.mem_of_getElem? (i := 28) rfl))) (by decide) (t := (.object "operand/Operator")) (t' := .long) (by decide) (by decide)))
  have G24 : Fld Z h18 o0 "operand/Spelling" "prefix" "Loperand/PrefixOperator;" u4 := G16.other W18 (Or.inr (slot_ne (Or.inr (hw _ (List.mem_of_getElem? (i := 32) rfl))) (Or.inr (hw _ (List.mem_of_getElem? (i := 28) rfl))) (by decide) (t := (.object "operand/PrefixOperator")) (t' := .long) (by decide) (by decide)))
  have G25 : Fld Z h18 o0 "operand/Spelling" "reserved" "Z" u5 := G17.other W18 (Or.inr (slot_ne (Or.inr (hw _ (List.mem_of_getElem? (i := 34) rfl))) (Or.inr (hw _ (List.mem_of_getElem? (i := 28) rfl))) (by decide) (t := .boolean) (t' := .long) (by decide) (by decide)))
  have Z18 : n0 ≤ h18.size := Nat.le_trans Z10 (Keep.of_wr W18).1
  have N18 := Fr.snoc X18 N10 g1
  have KP18 : Keep h0 h18 [o0] := KP10.wr W18 (Or.inl (List.mem_of_getElem? (i := 0) rfl))
  obtain ⟨T26, h26, X26, e26, W26, st26⟩ := putF X18 hx hZ hown (host := "") (Or.inl (hw _ (List.mem_of_getElem? (i := 29) rfl))) Via.refl e18 G23 G19 (Or.inr ⟨(hw _ (List.mem_of_getElem? (i := 30) rfl)), rfl, hnm⟩) (hw _ (List.mem_of_getElem? (i := 2) rfl)) (ty := (.object "operand/Operator")) (by decide) rfl rfl (g := (mkF m 22 #[.val (.ref o0), .val (.ref o1), .val (.ref o2), .val (.long q3), .second, .val .null, .val .null, .val (.int p6)] [.null, (.ref o0)])) rfl rfl (hb hby d1_22)
  have G27 : Exa Z h26 o0 "operand/Spelling" := G19.wr W26
  have G28 : Fld Z h26 o0 "operand/Spelling" "text" "Ljava/lang/String;" (.ref o1) := G20.other W26 (Or.inr (slot_ne (Or.inr (hw _ (List.mem_of_getElem? (i := 24) rfl))) (Or.inr (hw _ (List.mem_of_getElem? (i := 30) rfl))) (by decide) (t := (.object "java/lang/String")) (t' := (.object "operand/Operator")) (by decide) (by decide)))
  have G29 : Fld Z h26 o0 "operand/Spelling" "characters" "[C" (.ref o2) := G21.other W26 (Or.inr (slot_ne (Or.inr (hw _ (List.mem_of_getElem? (i := 26) rfl))) (Or.inr (hw _ (List.mem_of_getElem? (i := 30) rfl))) (by decide) (t := (.array .char)) (t' := (.object "operand/Operator")) (by decide) (by decide)))
  have G30 : Fld Z h26 o0 "operand/Spelling" "key" "J" (.long q3) := G22.other W26 (Or.inr (slot_ne (Or.inr (hw _ (List.mem_of_getElem? (i := 28) rfl))) (Or.inr (hw _ (List.mem_of_getElem? (i := 30) rfl))) (by decide) (t := .long) (t' := (.object "operand/Operator")) (by decide) (by decide)))
  have G31 : Fld Z h26 o0 "operand/Spelling" "binary" "Loperand/Operator;" .null := G23.same W26
  have G32 : Fld Z h26 o0 "operand/Spelling" "prefix" "Loperand/PrefixOperator;" u4 := G24.other W26 (Or.inr (slot_ne (Or.inr (hw _ (List.mem_of_getElem? (i := 32) rfl))) (Or.inr (hw _ (List.mem_of_getElem? (i := 30) rfl))) (by decide) (t := (.object "operand/PrefixOperator")) (t' := (.object "operand/Operator")) (by decide) (by decide)))
  have G33 : Fld Z h26 o0 "operand/Spelling" "reserved" "Z" u5 := G25.other W26 (Or.inr (slot_ne (Or.inr (hw _ (List.mem_of_getElem? (i := 34) rfl))) (Or.inr (hw _ (List.mem_of_getElem? (i := 30) rfl))) (by decide) (t := .boolean) (t' := (.object "operand/Operator")) (by decide) (by decide)))
  have Z26 : n0 ≤ h26.size := Nat.le_trans Z18 (Keep.of_wr W26).1
  have N26 := Fr.snoc X26 N18 g1
  have KP26 : Keep h0 h26 [o0] := KP18.wr W26 (Or.inl (List.mem_of_getElem? (i := 0) rfl))
  obtain ⟨T34, h34, X34, e34, W34, st34⟩ := putF X26 hx hZ hown (host := "") (Or.inl (hw _ (List.mem_of_getElem? (i := 31) rfl))) Via.refl e26 G32 G27 (Or.inr ⟨(hw _ (List.mem_of_getElem? (i := 32) rfl)), rfl, hnm⟩) (hw _ (List.mem_of_getElem? (i := 2) rfl)) (ty := (.object "operand/PrefixOperator")) (by decide) rfl rfl (g := (mkF m 28 #[.val (.ref o0), .val (.ref o1), .val (.ref o2), .val (.long q3), .second, .val .null, .val .null, .val (.int p6)] [.null, (.ref o0)])) rfl rfl (hb hby d1_28)
  have G35 : Exa Z h34 o0 "operand/Spelling" := G27.wr W34
  have G36 : Fld Z h34 o0 "operand/Spelling" "text" "Ljava/lang/String;" (.ref o1) := G28.other W34 (Or.inr (slot_ne (Or.inr (hw _ (List.mem_of_getElem? (i := 24) rfl))) (Or.inr (hw _ (List.mem_of_getElem? (i := 32) rfl))) (by decide) (t := (.object "java/lang/String")) (t' := (.object "operand/PrefixOperator")) (by decide) (by decide)))
  have G37 : Fld Z h34 o0 "operand/Spelling" "characters" "[C" (.ref o2) := G29.other W34 (Or.inr (slot_ne (Or.inr (hw _ (List.mem_of_getElem? (i := 26) rfl))) (Or.inr (hw _ (List.mem_of_getElem? (i := 32) rfl))) (by decide) (t := (.array .char)) (t' := (.object "operand/PrefixOperator")) (by decide) (by decide)))
  have G38 : Fld Z h34 o0 "operand/Spelling" "key" "J" (.long q3) := G30.other W34 (Or.inr (slot_ne (Or.inr (hw _ (List.mem_of_getElem? (i := 28) rfl))) (Or.inr (hw _ (List.mem_of_getElem? (i := 32) rfl))) (by decide) (t := .long) (t' := (.object "operand/PrefixOperator")) (by decide) (by decide)))
  have G39 : Fld Z h34 o0 "operand/Spelling" "binary" "Loperand/Operator;" .null := G31.other W34 (Or.inr (slot_ne (Or.inr (hw _ (List.mem_of_getElem? (i := 30) rfl))) (Or.inr (hw _ (List.mem_of_getElem? (i := 32) rfl))) (by decide) (t := (.object "operand/Operator")) (t' := (.object "operand/PrefixOperator")) (by decide) (by decide)))
  have G40 : Fld Z h34 o0 "operand/Spelling" "prefix" "Loperand/PrefixOperator;" .null := G32.same W34
  have G41 : Fld Z h34 o0 "operand/Spelling" "reserved" "Z" u5 := G33.other W34 (Or.inr (slot_ne (Or.inr (hw _ (List.mem_of_getElem? (i := 34) rfl))) (Or.inr (hw _ (List.mem_of_getElem? (i := 32) rfl))) (by decide) (t := .boolean) (t' := (.object "operand/PrefixOperator")) (by decide) (by decide)))
  have Z34 : n0 ≤ h34.size := Nat.le_trans Z26 (Keep.of_wr W34).1
  have N34 := Fr.snoc X34 N26 g1
  have KP34 : Keep h0 h34 [o0] := KP26.wr W34 (Or.inl (List.mem_of_getElem? (i := 0) rfl))
  obtain ⟨T42, h42, X42, e42, W42, st42⟩ := putFN X34 hx hZ hown (hw _ (List.mem_of_getElem? (i := 33) rfl)) Via.refl e34 G41 G35 (Or.inr ⟨(hw _ (List.mem_of_getElem? (i := 34) rfl)), rfl, hnm⟩) (hw _ (List.mem_of_getElem? (i := 2) rfl)) (ty := .boolean) (v' := (.int (nar .boolean p6))) (by decide) rfl (fits_nar_bool _) (g := (mkF m 34 #[.val (.ref o0), .val (.ref o1), .val (.ref o2), .val (.long q3), .second, .val .null, .val .null, .val (.int p6)] [(.int p6), (.ref o0)])) rfl rfl (hb hby d1_34)
  have G43 : Exa Z h42 o0 "operand/Spelling" := G35.wr W42
  have G44 : Fld Z h42 o0 "operand/Spelling" "text" "Ljava/lang/String;" (.ref o1) := G36.other W42 (Or.inr (slot_ne (Or.inr (hw _ (List.mem_of_getElem? (i := 24) rfl))) (Or.inr (hw _ (List.mem_of_getElem? (i := 34) rfl))) (by decide) (t := (.object "java/lang/String")) (t' := .boolean) (by decide) (by decide)))
  have G45 : Fld Z h42 o0 "operand/Spelling" "characters" "[C" (.ref o2) := G37.other W42 (Or.inr (slot_ne (Or.inr (hw _ (List.mem_of_getElem? (i := 26) rfl))) (Or.inr (hw _ (List.mem_of_getElem? (i := 34) rfl))) (by decide) (t := (.array .char)) (t' := .boolean) (by decide) (by decide)))
  have G46 : Fld Z h42 o0 "operand/Spelling" "key" "J" (.long q3) := G38.other W42 (Or.inr (slot_ne (Or.inr (hw _ (List.mem_of_getElem? (i := 28) rfl))) (Or.inr (hw _ (List.mem_of_getElem? (i := 34) rfl))) (by decide) (t := .long) (t' := .boolean) (by decide) (by decide)))
  have G47 : Fld Z h42 o0 "operand/Spelling" "binary" "Loperand/Operator;" .null := G39.other W42 (Or.inr (slot_ne (Or.inr (hw _ (List.mem_of_getElem? (i := 30) rfl))) (Or.inr (hw _ (List.mem_of_getElem? (i := 34) rfl))) (by decide) (t := (.object "operand/Operator")) (t' := .boolean) (by decide) (by decide)))
  have G48 : Fld Z h42 o0 "operand/Spelling" "prefix" "Loperand/PrefixOperator;" .null := G40.other W42 (Or.inr (slot_ne (Or.inr (hw _ (List.mem_of_getElem? (i := 32) rfl))) (Or.inr (hw _ (List.mem_of_getElem? (i := 34) rfl))) (by decide) (t := (.object "operand/PrefixOperator")) (t' := .boolean) (by decide) (by decide)))
  have G49 : Fld Z h42 o0 "operand/Spelling" "reserved" "Z" (.int (nar .boolean p6)) := G41.same W42
  have Z42 : n0 ≤ h42.size := Nat.le_trans Z34 (Keep.of_wr W42).1
  have N42 := Fr.snoc X42 N34 g1
  have KP42 : Keep h0 h42 [o0] := KP34.wr W42 (Or.inl (List.mem_of_getElem? (i := 0) rfl))
  have K50 : ∀ t, Steps p.tables e below (T42.setTop (mkF m 37 #[.val (.ref o0), .val (.ref o1), .val (.ref o2), .val (.long q3), .second, .val .null, .val .null, .val (.int p6)] [])) t → Steps p.tables e below (s₁.setTop (mkF m 0 #[.val (.ref o0), .val (.ref o1), .val (.ref o2), .val (.long q3), .second, .val .null, .val .null, .val (.int p6)] [])) t := by
    intro t kt
    show Steps p.tables e below (s₁.setTop (mkF m 0 #[.val (.ref o0), .val (.ref o1), .val (.ref o2), .val (.long q3), .second, .val .null, .val .null, .val (.int p6)] [])) _
    refine XS.aloadN X0.here hx rfl (hb hby d1_0) rfl rfl ?_
    show Steps p.tables e below (s₁.setTop (mkF m 1 #[.val (.ref o0), .val (.ref o1), .val (.ref o2), .val (.long q3), .second, .val .null, .val .null, .val (.int p6)] [(.ref o0)])) _
    refine st1.trans ?_
    show Steps p.tables e below (T1.setTop (mkF m 4 #[.val (.ref o0), .val (.ref o1), .val (.ref o2), .val (.long q3), .second, .val .null, .val .null, .val (.int p6)] [])) _
    refine XS.aloadN X1.here hx rfl (hb hby d1_4) rfl rfl ?_
    show Steps p.tables e below (T1.setTop (mkF m 5 #[.val (.ref o0), .val (.ref o1), .val (.ref o2), .val (.long q3), .second, .val .null, .val .null, .val (.int p6)] [(.ref o0)])) _
    refine XS.aloadN X1.here hx rfl (hb hby d1_5) rfl rfl ?_
    show Steps p.tables e below (T1.setTop (mkF m 6 #[.val (.ref o0), .val (.ref o1), .val (.ref o2), .val (.long q3), .second, .val .null, .val .null, .val (.int p6)] [(.ref o1), (.ref o0)])) _
    refine st2 _ ?_
    show Steps p.tables e below (T2.setTop (mkF m 9 #[.val (.ref o0), .val (.ref o1), .val (.ref o2), .val (.long q3), .second, .val .null, .val .null, .val (.int p6)] [])) _
    refine XS.aloadN X2.here hx rfl (hb hby d1_9) rfl rfl ?_
    show Steps p.tables e below (T2.setTop (mkF m 10 #[.val (.ref o0), .val (.ref o1), .val (.ref o2), .val (.long q3), .second, .val .null, .val .null, .val (.int p6)] [(.ref o0)])) _
    refine XS.aloadN X2.here hx rfl (hb hby d1_10) rfl rfl ?_
    show Steps p.tables e below (T2.setTop (mkF m 11 #[.val (.ref o0), .val (.ref o1), .val (.ref o2), .val (.long q3), .second, .val .null, .val .null, .val (.int p6)] [(.ref o2), (.ref o0)])) _
    refine st10 _ ?_
    show Steps p.tables e below (T10.setTop (mkF m 14 #[.val (.ref o0), .val (.ref o1), .val (.ref o2), .val (.long q3), .second, .val .null, .val .null, .val (.int p6)] [])) _
    refine XS.aloadN X10.here hx rfl (hb hby d1_14) rfl rfl ?_
    show Steps p.tables e below (T10.setTop (mkF m 15 #[.val (.ref o0), .val (.ref o1), .val (.ref o2), .val (.long q3), .second, .val .null, .val .null, .val (.int p6)] [(.ref o0)])) _
    refine XS.lloadN X10.here hx rfl (hb hby d1_15) rfl ?_
    show Steps p.tables e below (T10.setTop (mkF m 16 #[.val (.ref o0), .val (.ref o1), .val (.ref o2), .val (.long q3), .second, .val .null, .val .null, .val (.int p6)] [(.long q3), (.ref o0)])) _
    refine st18 _ ?_
    show Steps p.tables e below (T18.setTop (mkF m 19 #[.val (.ref o0), .val (.ref o1), .val (.ref o2), .val (.long q3), .second, .val .null, .val .null, .val (.int p6)] [])) _
    refine XS.aloadN X18.here hx rfl (hb hby d1_19) rfl rfl ?_
    show Steps p.tables e below (T18.setTop (mkF m 20 #[.val (.ref o0), .val (.ref o1), .val (.ref o2), .val (.long q3), .second, .val .null, .val .null, .val (.int p6)] [(.ref o0)])) _
    refine XS.aload X18.here hx rfl (hb hby d1_20) rfl rfl ?_
    show Steps p.tables e below (T18.setTop (mkF m 22 #[.val (.ref o0), .val (.ref o1), .val (.ref o2), .val (.long q3), .second, .val .null, .val .null, .val (.int p6)] [.null, (.ref o0)])) _
    refine st26 _ ?_
    show Steps p.tables e below (T26.setTop (mkF m 25 #[.val (.ref o0), .val (.ref o1), .val (.ref o2), .val (.long q3), .second, .val .null, .val .null, .val (.int p6)] [])) _
    refine XS.aloadN X26.here hx rfl (hb hby d1_25) rfl rfl ?_
    show Steps p.tables e below (T26.setTop (mkF m 26 #[.val (.ref o0), .val (.ref o1), .val (.ref o2), .val (.long q3), .second, .val .null, .val .null, .val (.int p6)] [(.ref o0)])) _
    refine XS.aload X26.here hx rfl (hb hby d1_26) rfl rfl ?_
    show Steps p.tables e below (T26.setTop (mkF m 28 #[.val (.ref o0), .val (.ref o1), .val (.ref o2), .val (.long q3), .second, .val .null, .val .null, .val (.int p6)] [.null, (.ref o0)])) _
    refine st34 _ ?_
    show Steps p.tables e below (T34.setTop (mkF m 31 #[.val (.ref o0), .val (.ref o1), .val (.ref o2), .val (.long q3), .second, .val .null, .val .null, .val (.int p6)] [])) _
    refine XS.aloadN X34.here hx rfl (hb hby d1_31) rfl rfl ?_
    show Steps p.tables e below (T34.setTop (mkF m 32 #[.val (.ref o0), .val (.ref o1), .val (.ref o2), .val (.long q3), .second, .val .null, .val .null, .val (.int p6)] [(.ref o0)])) _
    refine XS.iload X34.here hx rfl (hb hby d1_32) rfl ?_
    show Steps p.tables e below (T34.setTop (mkF m 34 #[.val (.ref o0), .val (.ref o1), .val (.ref o2), .val (.long q3), .second, .val .null, .val .null, .val (.int p6)] [(.int p6), (.ref o0)])) _
    refine st42 _ ?_
    exact kt
  obtain ⟨fsQ, hr, hrun, hended, hW, hsame⟩ := X42.leave (v := none) (fun _ => rfl)
  refine ⟨_, _, pre0 _ (K50 _ ?_), hrun, hended, _, _, rfl, ?_, ⟨_, rfl⟩, hW, hsame.mono (by decide) (by decide)⟩
  · show Steps p.tables e below (T42.setTop (mkF m 37 #[.val (.ref o0), .val (.ref o1), .val (.ref o2), .val (.long q3), .second, .val .null, .val .null, .val (.int p6)] [])) _
    exact X42.returnOut hx Bd.returns (hb hby d1_37) hr
  · show Q1 Z o0 o1 o2 q3 p6 u0 u1 u2 u3 u4 u5 h0 n0 _ T42.heap _
    rw [e42]
    exact ⟨rfl, N42, KP42, G45⟩
theorem ef_0 (m : MethodId) (x0 : Int32) (x1 : Int64) (x2 : Int64) (x3 : Int64) (x4 : Int32) : entryFrame m #[(.int x0), (.long x1), (.long x2), (.long x3), (.int x4)] maxLocals = mkF m 0 #[.val (.int x0), .val (.long x1), .second, .val (.long x2), .second, .val (.long x3), .second, .val (.int x4), .unset, .unset, .unset, .unset, .unset, .unset, .unset, .unset] [] := by first | (simp [entryFrame, mkF, argsToLocals, Value.category, maxLocals]; done) | rfl
def gn (p0 : Int32) : Int32 := (p0 &&& (7 : Int32))
def gk (p0 : Int32) : Int32 := (((p0.toUInt32 >>> ((3 : Int32) &&& 31).toUInt32).toInt32) &&& (3 : Int32))
def gs (p0 : Int32) : Int32 := (((p0.toUInt32 >>> ((5 : Int32) &&& 31).toUInt32).toInt32) &&& (7 : Int32))
def gb160 (p4 : Int32) : Int32 := if (p4 &&& (1 : Int32)) = (0 : Int32) then (0 : Int32) else (1 : Int32)
theorem pd_1 : parseMethodDescriptor "([CICZ)C" = some ⟨[(.array .char), .int, .char, .boolean], some .char⟩ := by decide +kernel
def gb198 (p4 : Int32) : Int32 := if (p4 &&& (2 : Int32)) = (0 : Int32) then (0 : Int32) else (1 : Int32)
def gb236 (p4 : Int32) : Int32 := if (p4 &&& (4 : Int32)) = (0 : Int32) then (0 : Int32) else (1 : Int32)
theorem pd_2 : parseMethodDescriptor "(Ljava/lang/String;[CJLoperand/Operator;Loperand/PrefixOperator;Z)V" = some ⟨[(.object "java/lang/String"), (.array .char), .long, (.object "operand/Operator"), (.object "operand/PrefixOperator"), .boolean], none⟩ := by decide +kernel
theorem pd_3 : parseMethodDescriptor "([CI)Z" = some ⟨[(.array .char), .int], some .boolean⟩ := by decide +kernel
theorem own_n (p : Int32) : ∃ n : Nat, (gn p).toInt = (n : Int) ∧ n ≤ 7 := by
  have h1 : (p &&& (7 : Int32)).toInt = p.toInt % (2 ^ 3 : Nat) := c_mask p _ 3 (by decide) (by decide)
  exact ⟨(gn p).toInt.toNat, by unfold gn; omega, by unfold gn; omega⟩
theorem own_k (p : Int32) : ∃ n : Nat, (gk p).toInt = (n : Int) ∧ n ≤ 3 := by
  have h1 := c_mask ((p.toUInt32 >>> ((3 : Int32) &&& 31).toUInt32).toInt32) 3 2 (by decide) (by decide)
  exact ⟨(gk p).toInt.toNat, by unfold gk; omega, by unfold gk; omega⟩
theorem own_s (p : Int32) : ∃ n : Nat, (gs p).toInt = (n : Int) ∧ n ≤ 7 := by
  have h1 := c_mask ((p.toUInt32 >>> ((5 : Int32) &&& 31).toUInt32).toInt32) 7 3 (by decide) (by decide)
  exact ⟨(gs p).toInt.toNat, by unfold gs; omega, by unfold gs; omega⟩
def Q0 (Z : State) (p0 : Int32) (q1 : Int64) (q2 : Int64) (q3 : Int64) (p4 : Int32)  (h0 : Heap) (n0 : Nat) (v : Option Value) (h : Heap) (L : List Loc) : Prop := v = some (.int 1) ∧ Fr n0 L
set_option maxRecDepth 65536 in
set_option maxHeartbeats 40000000 in
theorem rm0 (l : Launch) (Z : State) (a0 : Array Value) (hw : ∀ d ∈ tables_1, d.before a0 Z = true) (ws : List Jvm.Cond) (p0 : Int32) (q1 : Int64) (q2 : Int64) (q3 : Int64) (p4 : Int32)  (h0 : Heap) (n0 : Nat) (Z0 : n0 ≤ h0.size)  :
    MetFree l x (head1 (Jvm.Cond.code x code maxLocals ret :: ws) room_1) (fun a U => a = #[(.int p0), (.long q1), (.long q2), (.long q3), (.int p4)] ∧ Z.Warmed39 U.vm ∧ U.heap = h0) (fun _ _ _ _ _ => True) (fun _ U o U' => ∃ v L, o = .returned v ∧ Q0 Z p0 q1 q2 q3 p4  h0 n0 v U'.heap L ∧ ReturnedEndW U o U' L room_1.cells room_1.slots) := by
  refine MetFree.of_bodySF (plainFor_of_name pn_1) hisR ?_
  intro p e s m args below meth c s₁ Bd hml0 hP hK
  obtain ⟨rfl, hZ, hh⟩ := hP
  have hx := Bd.exec
  have hby := Bd.bytes
  have hml : c.maxLocals = 16 := hml0
  have hown : s.vm.findClass "operand/SpellingIsAtPinLaw" = some m.cls := findClass_of_methodNamed Bd.named
  have hnm := (name_of_methodNamed Bd.named Bd.method).1
  have X0 : Stand p l e room_1 s m #[(.int p0), (.long q1), (.long q2), (.long q3), (.int p4)] below meth c s₁ [] 0 0 := Stand.of_body Bd
  have e0 : s₁.heap = h0 := by rw [← hh, Bd.state]; rfl
  have pre0 : ∀ t, Steps p.tables e below (s₁.setTop (mkF m 0 #[.val (.int p0), .val (.long q1), .second, .val (.long q2), .second, .val (.long q3), .second, .val (.int p4), .unset, .unset, .unset, .unset, .unset, .unset, .unset, .unset] [])) t → Steps p.tables e below (s₁.setTop (entryFrame m #[(.int p0), (.long q1), (.long q2), (.long q3), (.int p4)] maxLocals)) t := fun t k => castTop (ef_0 m p0 q1 q2 q3 p4) k
  have wS : ∀ d ∈ Bundle.stringAtoms, d.before a0 Z = true := by
    intro d hd
    simp only [Bundle.stringAtoms, List.mem_cons, List.not_mem_nil, or_false] at hd
    rcases hd with rfl | rfl | rfl | rfl | rfl | rfl | rfl
    · exact (hw _ (List.mem_of_getElem? (i := 5) rfl))
    · exact (hw _ (List.mem_of_getElem? (i := 6) rfl))
    · exact (hw _ (List.mem_of_getElem? (i := 7) rfl))
    · exact (hw _ (List.mem_of_getElem? (i := 8) rfl))
    · exact (hw _ (List.mem_of_getElem? (i := 9) rfl))
    · exact (hw _ (List.mem_of_getElem? (i := 10) rfl))
    · exact (hw _ (List.mem_of_getElem? (i := 11) rfl))
  have N0 := Fr.nil n0
  obtain ⟨N, hN, hN7⟩ := own_n p0
  obtain ⟨K, hK, hK3⟩ := own_k p0
  obtain ⟨S, hS, hS7⟩ := own_s p0
  obtain ⟨T1, h1, X1, e1, E1, A1, st1⟩ := iaNew X0 hx hZ (hw _ (List.mem_of_getElem? (i := 0) rfl)) e0 (g := (mkF m 23 #[.val (.int p0), .val (.long q1), .second, .val (.long q2), .second, .val (.long q3), .second, .val (.int p4), .val (.int (gn p0)), .val (.int (gk p0)), .val (.int (gs p0)), .unset, .unset, .unset, .unset, .unset] [(.int (gn p0))])) rfl (hb hby at_23) rfl N hN 7 hN7 (by decide) (by decide) (by decide) rfl (by decide)
  obtain ⟨b1, g1⟩ : ∃ z, z = h0.size := ⟨_, rfl⟩
  rw [← g1] at A1 st1
  have gn1 : n0 ≤ b1 := Nat.le_trans Z0 (Nat.le_of_eq g1.symm)
  have Z1 : n0 ≤ h1.size := Nat.le_trans Z0 E1.1
  have G2 : Ia Z h1 b1 .char N (fun _ => (0 : Int32)) := A1
  have K3 : ∀ t, Steps p.tables e below (T1.setTop (mkF m 29 #[.val (.int p0), .val (.long q1), .second, .val (.long q2), .second, .val (.long q3), .second, .val (.int p4), .val (.int (gn p0)), .val (.int (gk p0)), .val (.int (gs p0)), .val (.ref b1), .unset, .unset, .unset, .unset] [(.int (gn p0))])) t → Steps p.tables e below (s₁.setTop (mkF m 0 #[.val (.int p0), .val (.long q1), .second, .val (.long q2), .second, .val (.long q3), .second, .val (.int p4), .unset, .unset, .unset, .unset, .unset, .unset, .unset, .unset] [])) t := by
    intro t kt
    show Steps p.tables e below (s₁.setTop (mkF m 0 #[.val (.int p0), .val (.long q1), .second, .val (.long q2), .second, .val (.long q3), .second, .val (.int p4), .unset, .unset, .unset, .unset, .unset, .unset, .unset, .unset] [])) _
    refine XS.iloadN X0.here hx rfl (hb hby at_0) rfl ?_
    show Steps p.tables e below (s₁.setTop (mkF m 1 #[.val (.int p0), .val (.long q1), .second, .val (.long q2), .second, .val (.long q3), .second, .val (.int p4), .unset, .unset, .unset, .unset, .unset, .unset, .unset, .unset] [(.int p0)])) _
    refine XS.bipush X0.here hx rfl (hb hby at_1) ?_
    show Steps p.tables e below (s₁.setTop (mkF m 3 #[.val (.int p0), .val (.long q1), .second, .val (.long q2), .second, .val (.long q3), .second, .val (.int p4), .unset, .unset, .unset, .unset, .unset, .unset, .unset, .unset] [(.int (7 : Int32)), (.int p0)])) _
    refine XS.iand X0.here hx rfl (hb hby at_3) rfl ?_
    show Steps p.tables e below (s₁.setTop (mkF m 4 #[.val (.int p0), .val (.long q1), .second, .val (.long q2), .second, .val (.long q3), .second, .val (.int p4), .unset, .unset, .unset, .unset, .unset, .unset, .unset, .unset] [(.int (p0 &&& (7 : Int32)))])) _
    refine XS.istore X0.here hx rfl (hb hby at_4) rfl (l' := #[.val (.int p0), .val (.long q1), .second, .val (.long q2), .second, .val (.long q3), .second, .val (.int p4), .val (.int (gn p0)), .unset, .unset, .unset, .unset, .unset, .unset, .unset]) rfl ?_
    show Steps p.tables e below (s₁.setTop (mkF m 6 #[.val (.int p0), .val (.long q1), .second, .val (.long q2), .second, .val (.long q3), .second, .val (.int p4), .val (.int (gn p0)), .unset, .unset, .unset, .unset, .unset, .unset, .unset] [])) _
    refine XS.iloadN X0.here hx rfl (hb hby at_6) rfl ?_
    show Steps p.tables e below (s₁.setTop (mkF m 7 #[.val (.int p0), .val (.long q1), .second, .val (.long q2), .second, .val (.long q3), .second, .val (.int p4), .val (.int (gn p0)), .unset, .unset, .unset, .unset, .unset, .unset, .unset] [(.int p0)])) _
    refine XS.iconst X0.here hx rfl (hb hby at_7) ?_
    show Steps p.tables e below (s₁.setTop (mkF m 8 #[.val (.int p0), .val (.long q1), .second, .val (.long q2), .second, .val (.long q3), .second, .val (.int p4), .val (.int (gn p0)), .unset, .unset, .unset, .unset, .unset, .unset, .unset] [(.int (3 : Int32)), (.int p0)])) _
    refine XS.iushr X0.here hx rfl (hb hby at_8) rfl ?_
    show Steps p.tables e below (s₁.setTop (mkF m 9 #[.val (.int p0), .val (.long q1), .second, .val (.long q2), .second, .val (.long q3), .second, .val (.int p4), .val (.int (gn p0)), .unset, .unset, .unset, .unset, .unset, .unset, .unset] [(.int ((p0.toUInt32 >>> ((3 : Int32) &&& 31).toUInt32).toInt32))])) _
    refine XS.iconst X0.here hx rfl (hb hby at_9) ?_
    show Steps p.tables e below (s₁.setTop (mkF m 10 #[.val (.int p0), .val (.long q1), .second, .val (.long q2), .second, .val (.long q3), .second, .val (.int p4), .val (.int (gn p0)), .unset, .unset, .unset, .unset, .unset, .unset, .unset] [(.int (3 : Int32)), (.int ((p0.toUInt32 >>> ((3 : Int32) &&& 31).toUInt32).toInt32))])) _
    refine XS.iand X0.here hx rfl (hb hby at_10) rfl ?_
    show Steps p.tables e below (s₁.setTop (mkF m 11 #[.val (.int p0), .val (.long q1), .second, .val (.long q2), .second, .val (.long q3), .second, .val (.int p4), .val (.int (gn p0)), .unset, .unset, .unset, .unset, .unset, .unset, .unset] [(.int (((p0.toUInt32 >>> ((3 : Int32) &&& 31).toUInt32).toInt32) &&& (3 : Int32)))])) _
    refine XS.istore X0.here hx rfl (hb hby at_11) rfl (l' := #[.val (.int p0), .val (.long q1), .second, .val (.long q2), .second, .val (.long q3), .second, .val (.int p4), .val (.int (gn p0)), .val (.int (gk p0)), .unset, .unset, .unset, .unset, .unset, .unset]) rfl ?_
    show Steps p.tables e below (s₁.setTop (mkF m 13 #[.val (.int p0), .val (.long q1), .second, .val (.long q2), .second, .val (.long q3), .second, .val (.int p4), .val (.int (gn p0)), .val (.int (gk p0)), .unset, .unset, .unset, .unset, .unset, .unset] [])) _
    refine XS.iloadN X0.here hx rfl (hb hby at_13) rfl ?_
    show Steps p.tables e below (s₁.setTop (mkF m 14 #[.val (.int p0), .val (.long q1), .second, .val (.long q2), .second, .val (.long q3), .second, .val (.int p4), .val (.int (gn p0)), .val (.int (gk p0)), .unset, .unset, .unset, .unset, .unset, .unset] [(.int p0)])) _
    refine XS.iconst X0.here hx rfl (hb hby at_14) ?_
    show Steps p.tables e below (s₁.setTop (mkF m 15 #[.val (.int p0), .val (.long q1), .second, .val (.long q2), .second, .val (.long q3), .second, .val (.int p4), .val (.int (gn p0)), .val (.int (gk p0)), .unset, .unset, .unset, .unset, .unset, .unset] [(.int (5 : Int32)), (.int p0)])) _
    refine XS.iushr X0.here hx rfl (hb hby at_15) rfl ?_
    show Steps p.tables e below (s₁.setTop (mkF m 16 #[.val (.int p0), .val (.long q1), .second, .val (.long q2), .second, .val (.long q3), .second, .val (.int p4), .val (.int (gn p0)), .val (.int (gk p0)), .unset, .unset, .unset, .unset, .unset, .unset] [(.int ((p0.toUInt32 >>> ((5 : Int32) &&& 31).toUInt32).toInt32))])) _
    refine XS.bipush X0.here hx rfl (hb hby at_16) ?_
    show Steps p.tables e below (s₁.setTop (mkF m 18 #[.val (.int p0), .val (.long q1), .second, .val (.long q2), .second, .val (.long q3), .second, .val (.int p4), .val (.int (gn p0)), .val (.int (gk p0)), .unset, .unset, .unset, .unset, .unset, .unset] [(.int (7 : Int32)), (.int ((p0.toUInt32 >>> ((5 : Int32) &&& 31).toUInt32).toInt32))])) _
    refine XS.iand X0.here hx rfl (hb hby at_18) rfl ?_
    show Steps p.tables e below (s₁.setTop (mkF m 19 #[.val (.int p0), .val (.long q1), .second, .val (.long q2), .second, .val (.long q3), .second, .val (.int p4), .val (.int (gn p0)), .val (.int (gk p0)), .unset, .unset, .unset, .unset, .unset, .unset] [(.int (((p0.toUInt32 >>> ((5 : Int32) &&& 31).toUInt32).toInt32) &&& (7 : Int32)))])) _
    refine XS.istore X0.here hx rfl (hb hby at_19) rfl (l' := #[.val (.int p0), .val (.long q1), .second, .val (.long q2), .second, .val (.long q3), .second, .val (.int p4), .val (.int (gn p0)), .val (.int (gk p0)), .val (.int (gs p0)), .unset, .unset, .unset, .unset, .unset]) rfl ?_
    show Steps p.tables e below (s₁.setTop (mkF m 21 #[.val (.int p0), .val (.long q1), .second, .val (.long q2), .second, .val (.long q3), .second, .val (.int p4), .val (.int (gn p0)), .val (.int (gk p0)), .val (.int (gs p0)), .unset, .unset, .unset, .unset, .unset] [])) _
    refine XS.iload X0.here hx rfl (hb hby at_21) rfl ?_
    show Steps p.tables e below (s₁.setTop (mkF m 23 #[.val (.int p0), .val (.long q1), .second, .val (.long q2), .second, .val (.long q3), .second, .val (.int p4), .val (.int (gn p0)), .val (.int (gk p0)), .val (.int (gs p0)), .unset, .unset, .unset, .unset, .unset] [(.int (gn p0))])) _
    refine st1 _ ?_
    show Steps p.tables e below (T1.setTop (mkF m 25 #[.val (.int p0), .val (.long q1), .second, .val (.long q2), .second, .val (.long q3), .second, .val (.int p4), .val (.int (gn p0)), .val (.int (gk p0)), .val (.int (gs p0)), .unset, .unset, .unset, .unset, .unset] [(.ref b1)])) _
    refine XS.astore X1.here hx rfl (hb hby at_25) rfl rfl (l' := #[.val (.int p0), .val (.long q1), .second, .val (.long q2), .second, .val (.long q3), .second, .val (.int p4), .val (.int (gn p0)), .val (.int (gk p0)), .val (.int (gs p0)), .val (.ref b1), .unset, .unset, .unset, .unset]) rfl ?_
    show Steps p.tables e below (T1.setTop (mkF m 27 #[.val (.int p0), .val (.long q1), .second, .val (.long q2), .second, .val (.long q3), .second, .val (.int p4), .val (.int (gn p0)), .val (.int (gk p0)), .val (.int (gs p0)), .val (.ref b1), .unset, .unset, .unset, .unset] [])) _
    refine XS.iload X1.here hx rfl (hb hby at_27) rfl ?_
    exact kt
  obtain ⟨fv4, TM5, hM5, LM5, XM5, eM5, NM5, ZM5, qM5_0, KM5⟩ : ∃ (fv4 : Nat → Int32) (T' : State) (h' : Heap) (L' : List Loc), Stand p l e room_1 s m #[(.int p0), (.long q1), (.long q2), (.long q3), (.int p4)] below meth c T' L' 1 7 ∧ T'.heap = h' ∧ Fr n0 L' ∧ n0 ≤ h'.size ∧ Ia Z h' b1 .char N fv4 ∧ ∀ t, Steps p.tables e below (T'.setTop (mkF m 39 #[.val (.int p0), .val (.long q1), .second, .val (.long q2), .second, .val (.long q3), .second, .val (.int p4), .val (.int (gn p0)), .val (.int (gk p0)), .val (.int (gs p0)), .val (.ref b1), .unset, .unset, .unset, .unset] [])) t → Steps p.tables e below (s₁.setTop (mkF m 0 #[.val (.int p0), .val (.long q1), .second, .val (.long q2), .second, .val (.long q3), .second, .val (.int p4), .unset, .unset, .unset, .unset, .unset, .unset, .unset, .unset] [])) t := by
    by_cases hc6 : (0 : Int32) < (gn p0)
    · skip
      obtain ⟨T7, h7, X7, e7, W7, A7, st7⟩ := iaC X1 hx hZ e1 G2 (j := (0 : Int32)) 0 (by decide) (own_ix (by decide) hN hc6) (g := (mkF m 38 #[.val (.int p0), .val (.long q1), .second, .val (.long q2), .second, .val (.long q3), .second, .val (.int p4), .val (.int (gn p0)), .val (.int (gk p0)), .val (.int (gs p0)), .val (.ref b1), .unset, .unset, .unset, .unset] [(.int ((q1.toInt32).toUInt32.toUInt16.toUInt32.toInt32)), (.int (0 : Int32)), (.ref b1)])) rfl rfl (hb hby at_38)
      have G8 : Ia Z h7 b1 .char N (up (fun _ => (0 : Int32)) 0 (nar .char ((q1.toInt32).toUInt32.toUInt16.toUInt32.toInt32))) := A7
      have Z7 : n0 ≤ h7.size := Nat.le_trans Z1 (Keep.of_wr W7).1
      have N7 := Fr.snoc X7 N0 gn1
      have K9 : ∀ t, Steps p.tables e below (T7.setTop (mkF m 39 #[.val (.int p0), .val (.long q1), .second, .val (.long q2), .second, .val (.long q3), .second, .val (.int p4), .val (.int (gn p0)), .val (.int (gk p0)), .val (.int (gs p0)), .val (.ref b1), .unset, .unset, .unset, .unset] [])) t → Steps p.tables e below (s₁.setTop (mkF m 0 #[.val (.int p0), .val (.long q1), .second, .val (.long q2), .second, .val (.long q3), .second, .val (.int p4), .unset, .unset, .unset, .unset, .unset, .unset, .unset, .unset] [])) t := by
        intro t kt
        refine K3 _ ?_
        show Steps p.tables e below (T1.setTop (mkF m 29 #[.val (.int p0), .val (.long q1), .second, .val (.long q2), .second, .val (.long q3), .second, .val (.int p4), .val (.int (gn p0)), .val (.int (gk p0)), .val (.int (gs p0)), .val (.ref b1), .unset, .unset, .unset, .unset] [(.int (gn p0))])) _
        refine XS.ifNo X1.here hx rfl (hb hby at_29) rfl ((if0 _ _).trans (tlt hc6).2.2.2) ?_
        show Steps p.tables e below (T1.setTop (mkF m 32 #[.val (.int p0), .val (.long q1), .second, .val (.long q2), .second, .val (.long q3), .second, .val (.int p4), .val (.int (gn p0)), .val (.int (gk p0)), .val (.int (gs p0)), .val (.ref b1), .unset, .unset, .unset, .unset] [])) _
        refine XS.aload X1.here hx rfl (hb hby at_32) rfl rfl ?_
        show Steps p.tables e below (T1.setTop (mkF m 34 #[.val (.int p0), .val (.long q1), .second, .val (.long q2), .second, .val (.long q3), .second, .val (.int p4), .val (.int (gn p0)), .val (.int (gk p0)), .val (.int (gs p0)), .val (.ref b1), .unset, .unset, .unset, .unset] [(.ref b1)])) _
        refine XS.iconst X1.here hx rfl (hb hby at_34) ?_
        show Steps p.tables e below (T1.setTop (mkF m 35 #[.val (.int p0), .val (.long q1), .second, .val (.long q2), .second, .val (.long q3), .second, .val (.int p4), .val (.int (gn p0)), .val (.int (gk p0)), .val (.int (gs p0)), .val (.ref b1), .unset, .unset, .unset, .unset] [(.int (0 : Int32)), (.ref b1)])) _
        refine XS.lloadN X1.here hx rfl (hb hby at_35) rfl ?_
        show Steps p.tables e below (T1.setTop (mkF m 36 #[.val (.int p0), .val (.long q1), .second, .val (.long q2), .second, .val (.long q3), .second, .val (.int p4), .val (.int (gn p0)), .val (.int (gk p0)), .val (.int (gs p0)), .val (.ref b1), .unset, .unset, .unset, .unset] [(.long q1), (.int (0 : Int32)), (.ref b1)])) _
        refine XS.l2i X1.here hx rfl (hb hby at_36) rfl ?_
        show Steps p.tables e below (T1.setTop (mkF m 37 #[.val (.int p0), .val (.long q1), .second, .val (.long q2), .second, .val (.long q3), .second, .val (.int p4), .val (.int (gn p0)), .val (.int (gk p0)), .val (.int (gs p0)), .val (.ref b1), .unset, .unset, .unset, .unset] [(.int (q1.toInt32)), (.int (0 : Int32)), (.ref b1)])) _
        refine XS.i2c X1.here hx rfl (hb hby at_37) rfl ?_
        show Steps p.tables e below (T1.setTop (mkF m 38 #[.val (.int p0), .val (.long q1), .second, .val (.long q2), .second, .val (.long q3), .second, .val (.int p4), .val (.int (gn p0)), .val (.int (gk p0)), .val (.int (gs p0)), .val (.ref b1), .unset, .unset, .unset, .unset] [(.int ((q1.toInt32).toUInt32.toUInt16.toUInt32.toInt32)), (.int (0 : Int32)), (.ref b1)])) _
        refine st7 _ ?_
        exact kt
      exact ⟨(up (fun _ => (0 : Int32)) 0 (nar .char ((q1.toInt32).toUInt32.toUInt16.toUInt32.toInt32))), T7, h7, _, X7, e7, N7, Z7, G8, K9⟩
    · skip
      have K10 : ∀ t, Steps p.tables e below (T1.setTop (mkF m 39 #[.val (.int p0), .val (.long q1), .second, .val (.long q2), .second, .val (.long q3), .second, .val (.int p4), .val (.int (gn p0)), .val (.int (gk p0)), .val (.int (gs p0)), .val (.ref b1), .unset, .unset, .unset, .unset] [])) t → Steps p.tables e below (s₁.setTop (mkF m 0 #[.val (.int p0), .val (.long q1), .second, .val (.long q2), .second, .val (.long q3), .second, .val (.int p4), .unset, .unset, .unset, .unset, .unset, .unset, .unset, .unset] [])) t := by
        intro t kt
        refine K3 _ ?_
        show Steps p.tables e below (T1.setTop (mkF m 29 #[.val (.int p0), .val (.long q1), .second, .val (.long q2), .second, .val (.long q3), .second, .val (.int p4), .val (.int (gn p0)), .val (.int (gk p0)), .val (.int (gs p0)), .val (.ref b1), .unset, .unset, .unset, .unset] [(.int (gn p0))])) _
        refine XS.ifYes X1.here hx rfl (pc0 := 29) (pc' := 39) rfl (hb hby at_29) rfl ((if0 _ _).trans (flt hc6).2.2.2) (by decide) (by decide) ?_
        exact kt
      exact ⟨(fun _ => (0 : Int32)), T1, h1, _, X1, e1, N0, Z1, G2, K10⟩
  have K11 : ∀ t, Steps p.tables e below (TM5.setTop (mkF m 42 #[.val (.int p0), .val (.long q1), .second, .val (.long q2), .second, .val (.long q3), .second, .val (.int p4), .val (.int (gn p0)), .val (.int (gk p0)), .val (.int (gs p0)), .val (.ref b1), .unset, .unset, .unset, .unset] [(.int (1 : Int32)), (.int (gn p0))])) t → Steps p.tables e below (s₁.setTop (mkF m 0 #[.val (.int p0), .val (.long q1), .second, .val (.long q2), .second, .val (.long q3), .second, .val (.int p4), .unset, .unset, .unset, .unset, .unset, .unset, .unset, .unset] [])) t := by
    intro t kt
    refine KM5 _ ?_
    show Steps p.tables e below (TM5.setTop (mkF m 39 #[.val (.int p0), .val (.long q1), .second, .val (.long q2), .second, .val (.long q3), .second, .val (.int p4), .val (.int (gn p0)), .val (.int (gk p0)), .val (.int (gs p0)), .val (.ref b1), .unset, .unset, .unset, .unset] [])) _
    refine XS.iload XM5.here hx rfl (hb hby at_39) rfl ?_
    show Steps p.tables e below (TM5.setTop (mkF m 41 #[.val (.int p0), .val (.long q1), .second, .val (.long q2), .second, .val (.long q3), .second, .val (.int p4), .val (.int (gn p0)), .val (.int (gk p0)), .val (.int (gs p0)), .val (.ref b1), .unset, .unset, .unset, .unset] [(.int (gn p0))])) _
    refine XS.iconst XM5.here hx rfl (hb hby at_41) ?_
    exact kt
  obtain ⟨fv12, TM13, hM13, LM13, XM13, eM13, NM13, ZM13, qM13_0, KM13⟩ : ∃ (fv12 : Nat → Int32) (T' : State) (h' : Heap) (L' : List Loc), Stand p l e room_1 s m #[(.int p0), (.long q1), (.long q2), (.long q3), (.int p4)] below meth c T' L' 1 7 ∧ T'.heap = h' ∧ Fr n0 L' ∧ n0 ≤ h'.size ∧ Ia Z h' b1 .char N fv12 ∧ ∀ t, Steps p.tables e below (T'.setTop (mkF m 55 #[.val (.int p0), .val (.long q1), .second, .val (.long q2), .second, .val (.long q3), .second, .val (.int p4), .val (.int (gn p0)), .val (.int (gk p0)), .val (.int (gs p0)), .val (.ref b1), .unset, .unset, .unset, .unset] [])) t → Steps p.tables e below (s₁.setTop (mkF m 0 #[.val (.int p0), .val (.long q1), .second, .val (.long q2), .second, .val (.long q3), .second, .val (.int p4), .unset, .unset, .unset, .unset, .unset, .unset, .unset, .unset] [])) t := by
    by_cases hc14 : (1 : Int32) < (gn p0)
    · skip
      obtain ⟨T15, h15, X15, e15, W15, A15, st15⟩ := iaC XM5 hx hZ eM5 qM5_0 (j := (1 : Int32)) 1 (by decide) (own_ix (by decide) hN hc14) (g := (mkF m 54 #[.val (.int p0), .val (.long q1), .second, .val (.long q2), .second, .val (.long q3), .second, .val (.int p4), .val (.int (gn p0)), .val (.int (gk p0)), .val (.int (gs p0)), .val (.ref b1), .unset, .unset, .unset, .unset] [(.int ((((q1.toUInt64 >>> ((16 : Int32) &&& 0x3f).toInt64.toUInt64).toInt64).toInt32).toUInt32.toUInt16.toUInt32.toInt32)), (.int (1 : Int32)), (.ref b1)])) rfl rfl (hb hby at_54)
      have G16 : Ia Z h15 b1 .char N (up fv4 1 (nar .char ((((q1.toUInt64 >>> ((16 : Int32) &&& 0x3f).toInt64.toUInt64).toInt64).toInt32).toUInt32.toUInt16.toUInt32.toInt32))) := A15
      have Z15 : n0 ≤ h15.size := Nat.le_trans ZM5 (Keep.of_wr W15).1
      have N15 := Fr.snoc X15 NM5 gn1
      have K17 : ∀ t, Steps p.tables e below (T15.setTop (mkF m 55 #[.val (.int p0), .val (.long q1), .second, .val (.long q2), .second, .val (.long q3), .second, .val (.int p4), .val (.int (gn p0)), .val (.int (gk p0)), .val (.int (gs p0)), .val (.ref b1), .unset, .unset, .unset, .unset] [])) t → Steps p.tables e below (s₁.setTop (mkF m 0 #[.val (.int p0), .val (.long q1), .second, .val (.long q2), .second, .val (.long q3), .second, .val (.int p4), .unset, .unset, .unset, .unset, .unset, .unset, .unset, .unset] [])) t := by
        intro t kt
        refine K11 _ ?_
        show Steps p.tables e below (TM5.setTop (mkF m 42 #[.val (.int p0), .val (.long q1), .second, .val (.long q2), .second, .val (.long q3), .second, .val (.int p4), .val (.int (gn p0)), .val (.int (gk p0)), .val (.int (gs p0)), .val (.ref b1), .unset, .unset, .unset, .unset] [(.int (1 : Int32)), (.int (gn p0))])) _
        refine XS.icmpNo XM5.here hx rfl (hb hby at_42) rfl (tlt hc14).2.2.2 ?_
        show Steps p.tables e below (TM5.setTop (mkF m 45 #[.val (.int p0), .val (.long q1), .second, .val (.long q2), .second, .val (.long q3), .second, .val (.int p4), .val (.int (gn p0)), .val (.int (gk p0)), .val (.int (gs p0)), .val (.ref b1), .unset, .unset, .unset, .unset] [])) _
        refine XS.aload XM5.here hx rfl (hb hby at_45) rfl rfl ?_
        show Steps p.tables e below (TM5.setTop (mkF m 47 #[.val (.int p0), .val (.long q1), .second, .val (.long q2), .second, .val (.long q3), .second, .val (.int p4), .val (.int (gn p0)), .val (.int (gk p0)), .val (.int (gs p0)), .val (.ref b1), .unset, .unset, .unset, .unset] [(.ref b1)])) _
        refine XS.iconst XM5.here hx rfl (hb hby at_47) ?_
        show Steps p.tables e below (TM5.setTop (mkF m 48 #[.val (.int p0), .val (.long q1), .second, .val (.long q2), .second, .val (.long q3), .second, .val (.int p4), .val (.int (gn p0)), .val (.int (gk p0)), .val (.int (gs p0)), .val (.ref b1), .unset, .unset, .unset, .unset] [(.int (1 : Int32)), (.ref b1)])) _
        refine XS.lloadN XM5.here hx rfl (hb hby at_48) rfl ?_
        show Steps p.tables e below (TM5.setTop (mkF m 49 #[.val (.int p0), .val (.long q1), .second, .val (.long q2), .second, .val (.long q3), .second, .val (.int p4), .val (.int (gn p0)), .val (.int (gk p0)), .val (.int (gs p0)), .val (.ref b1), .unset, .unset, .unset, .unset] [(.long q1), (.int (1 : Int32)), (.ref b1)])) _
        refine XS.bipush XM5.here hx rfl (hb hby at_49) ?_
        show Steps p.tables e below (TM5.setTop (mkF m 51 #[.val (.int p0), .val (.long q1), .second, .val (.long q2), .second, .val (.long q3), .second, .val (.int p4), .val (.int (gn p0)), .val (.int (gk p0)), .val (.int (gs p0)), .val (.ref b1), .unset, .unset, .unset, .unset] [(.int (16 : Int32)), (.long q1), (.int (1 : Int32)), (.ref b1)])) _
        refine XS.lushr XM5.here hx rfl (hb hby at_51) rfl ?_
        show Steps p.tables e below (TM5.setTop (mkF m 52 #[.val (.int p0), .val (.long q1), .second, .val (.long q2), .second, .val (.long q3), .second, .val (.int p4), .val (.int (gn p0)), .val (.int (gk p0)), .val (.int (gs p0)), .val (.ref b1), .unset, .unset, .unset, .unset] [(.long ((q1.toUInt64 >>> ((16 : Int32) &&& 0x3f).toInt64.toUInt64).toInt64)), (.int (1 : Int32)), (.ref b1)])) _
        refine XS.l2i XM5.here hx rfl (hb hby at_52) rfl ?_
        show Steps p.tables e below (TM5.setTop (mkF m 53 #[.val (.int p0), .val (.long q1), .second, .val (.long q2), .second, .val (.long q3), .second, .val (.int p4), .val (.int (gn p0)), .val (.int (gk p0)), .val (.int (gs p0)), .val (.ref b1), .unset, .unset, .unset, .unset] [(.int (((q1.toUInt64 >>> ((16 : Int32) &&& 0x3f).toInt64.toUInt64).toInt64).toInt32)), (.int (1 : Int32)), (.ref b1)])) _
        refine XS.i2c XM5.here hx rfl (hb hby at_53) rfl ?_
        show Steps p.tables e below (TM5.setTop (mkF m 54 #[.val (.int p0), .val (.long q1), .second, .val (.long q2), .second, .val (.long q3), .second, .val (.int p4), .val (.int (gn p0)), .val (.int (gk p0)), .val (.int (gs p0)), .val (.ref b1), .unset, .unset, .unset, .unset] [(.int ((((q1.toUInt64 >>> ((16 : Int32) &&& 0x3f).toInt64.toUInt64).toInt64).toInt32).toUInt32.toUInt16.toUInt32.toInt32)), (.int (1 : Int32)), (.ref b1)])) _
        refine st15 _ ?_
        exact kt
      exact ⟨(up fv4 1 (nar .char ((((q1.toUInt64 >>> ((16 : Int32) &&& 0x3f).toInt64.toUInt64).toInt64).toInt32).toUInt32.toUInt16.toUInt32.toInt32))), T15, h15, _, X15, e15, N15, Z15, G16, K17⟩
    · skip
      have K18 : ∀ t, Steps p.tables e below (TM5.setTop (mkF m 55 #[.val (.int p0), .val (.long q1), .second, .val (.long q2), .second, .val (.long q3), .second, .val (.int p4), .val (.int (gn p0)), .val (.int (gk p0)), .val (.int (gs p0)), .val (.ref b1), .unset, .unset, .unset, .unset] [])) t → Steps p.tables e below (s₁.setTop (mkF m 0 #[.val (.int p0), .val (.long q1), .second, .val (.long q2), .second, .val (.long q3), .second, .val (.int p4), .unset, .unset, .unset, .unset, .unset, .unset, .unset, .unset] [])) t := by
        intro t kt
        refine K11 _ ?_
        show Steps p.tables e below (TM5.setTop (mkF m 42 #[.val (.int p0), .val (.long q1), .second, .val (.long q2), .second, .val (.long q3), .second, .val (.int p4), .val (.int (gn p0)), .val (.int (gk p0)), .val (.int (gs p0)), .val (.ref b1), .unset, .unset, .unset, .unset] [(.int (1 : Int32)), (.int (gn p0))])) _
        refine XS.icmpYes XM5.here hx rfl (pc0 := 42) (pc' := 55) rfl (hb hby at_42) rfl (flt hc14).2.2.2 (by decide) (by decide) ?_
        exact kt
      exact ⟨fv4, TM5, hM5, _, XM5, eM5, NM5, ZM5, qM5_0, K18⟩
  have K19 : ∀ t, Steps p.tables e below (TM13.setTop (mkF m 58 #[.val (.int p0), .val (.long q1), .second, .val (.long q2), .second, .val (.long q3), .second, .val (.int p4), .val (.int (gn p0)), .val (.int (gk p0)), .val (.int (gs p0)), .val (.ref b1), .unset, .unset, .unset, .unset] [(.int (2 : Int32)), (.int (gn p0))])) t → Steps p.tables e below (s₁.setTop (mkF m 0 #[.val (.int p0), .val (.long q1), .second, .val (.long q2), .second, .val (.long q3), .second, .val (.int p4), .unset, .unset, .unset, .unset, .unset, .unset, .unset, .unset] [])) t := by
    intro t kt
    refine KM13 _ ?_
    show Steps p.tables e below (TM13.setTop (mkF m 55 #[.val (.int p0), .val (.long q1), .second, .val (.long q2), .second, .val (.long q3), .second, .val (.int p4), .val (.int (gn p0)), .val (.int (gk p0)), .val (.int (gs p0)), .val (.ref b1), .unset, .unset, .unset, .unset] [])) _
    refine XS.iload XM13.here hx rfl (hb hby at_55) rfl ?_
    show Steps p.tables e below (TM13.setTop (mkF m 57 #[.val (.int p0), .val (.long q1), .second, .val (.long q2), .second, .val (.long q3), .second, .val (.int p4), .val (.int (gn p0)), .val (.int (gk p0)), .val (.int (gs p0)), .val (.ref b1), .unset, .unset, .unset, .unset] [(.int (gn p0))])) _
    refine XS.iconst XM13.here hx rfl (hb hby at_57) ?_
    exact kt
  obtain ⟨fv20, TM21, hM21, LM21, XM21, eM21, NM21, ZM21, qM21_0, KM21⟩ : ∃ (fv20 : Nat → Int32) (T' : State) (h' : Heap) (L' : List Loc), Stand p l e room_1 s m #[(.int p0), (.long q1), (.long q2), (.long q3), (.int p4)] below meth c T' L' 1 7 ∧ T'.heap = h' ∧ Fr n0 L' ∧ n0 ≤ h'.size ∧ Ia Z h' b1 .char N fv20 ∧ ∀ t, Steps p.tables e below (T'.setTop (mkF m 71 #[.val (.int p0), .val (.long q1), .second, .val (.long q2), .second, .val (.long q3), .second, .val (.int p4), .val (.int (gn p0)), .val (.int (gk p0)), .val (.int (gs p0)), .val (.ref b1), .unset, .unset, .unset, .unset] [])) t → Steps p.tables e below (s₁.setTop (mkF m 0 #[.val (.int p0), .val (.long q1), .second, .val (.long q2), .second, .val (.long q3), .second, .val (.int p4), .unset, .unset, .unset, .unset, .unset, .unset, .unset, .unset] [])) t := by
    by_cases hc22 : (2 : Int32) < (gn p0)
    · skip
      obtain ⟨T23, h23, X23, e23, W23, A23, st23⟩ := iaC XM13 hx hZ eM13 qM13_0 (j := (2 : Int32)) 2 (by decide) (own_ix (by decide) hN hc22) (g := (mkF m 70 #[.val (.int p0), .val (.long q1), .second, .val (.long q2), .second, .val (.long q3), .second, .val (.int p4), .val (.int (gn p0)), .val (.int (gk p0)), .val (.int (gs p0)), .val (.ref b1), .unset, .unset, .unset, .unset] [(.int ((((q1.toUInt64 >>> ((32 : Int32) &&& 0x3f).toInt64.toUInt64).toInt64).toInt32).toUInt32.toUInt16.toUInt32.toInt32)), (.int (2 : Int32)), (.ref b1)])) rfl rfl (hb hby at_70)
      have G24 : Ia Z h23 b1 .char N (up fv12 2 (nar .char ((((q1.toUInt64 >>> ((32 : Int32) &&& 0x3f).toInt64.toUInt64).toInt64).toInt32).toUInt32.toUInt16.toUInt32.toInt32))) := A23
      have Z23 : n0 ≤ h23.size := Nat.le_trans ZM13 (Keep.of_wr W23).1
      have N23 := Fr.snoc X23 NM13 gn1
      have K25 : ∀ t, Steps p.tables e below (T23.setTop (mkF m 71 #[.val (.int p0), .val (.long q1), .second, .val (.long q2), .second, .val (.long q3), .second, .val (.int p4), .val (.int (gn p0)), .val (.int (gk p0)), .val (.int (gs p0)), .val (.ref b1), .unset, .unset, .unset, .unset] [])) t → Steps p.tables e below (s₁.setTop (mkF m 0 #[.val (.int p0), .val (.long q1), .second, .val (.long q2), .second, .val (.long q3), .second, .val (.int p4), .unset, .unset, .unset, .unset, .unset, .unset, .unset, .unset] [])) t := by
        intro t kt
        refine K19 _ ?_
        show Steps p.tables e below (TM13.setTop (mkF m 58 #[.val (.int p0), .val (.long q1), .second, .val (.long q2), .second, .val (.long q3), .second, .val (.int p4), .val (.int (gn p0)), .val (.int (gk p0)), .val (.int (gs p0)), .val (.ref b1), .unset, .unset, .unset, .unset] [(.int (2 : Int32)), (.int (gn p0))])) _
        refine XS.icmpNo XM13.here hx rfl (hb hby at_58) rfl (tlt hc22).2.2.2 ?_
        show Steps p.tables e below (TM13.setTop (mkF m 61 #[.val (.int p0), .val (.long q1), .second, .val (.long q2), .second, .val (.long q3), .second, .val (.int p4), .val (.int (gn p0)), .val (.int (gk p0)), .val (.int (gs p0)), .val (.ref b1), .unset, .unset, .unset, .unset] [])) _
        refine XS.aload XM13.here hx rfl (hb hby at_61) rfl rfl ?_
        show Steps p.tables e below (TM13.setTop (mkF m 63 #[.val (.int p0), .val (.long q1), .second, .val (.long q2), .second, .val (.long q3), .second, .val (.int p4), .val (.int (gn p0)), .val (.int (gk p0)), .val (.int (gs p0)), .val (.ref b1), .unset, .unset, .unset, .unset] [(.ref b1)])) _
        refine XS.iconst XM13.here hx rfl (hb hby at_63) ?_
        show Steps p.tables e below (TM13.setTop (mkF m 64 #[.val (.int p0), .val (.long q1), .second, .val (.long q2), .second, .val (.long q3), .second, .val (.int p4), .val (.int (gn p0)), .val (.int (gk p0)), .val (.int (gs p0)), .val (.ref b1), .unset, .unset, .unset, .unset] [(.int (2 : Int32)), (.ref b1)])) _
        refine XS.lloadN XM13.here hx rfl (hb hby at_64) rfl ?_
        show Steps p.tables e below (TM13.setTop (mkF m 65 #[.val (.int p0), .val (.long q1), .second, .val (.long q2), .second, .val (.long q3), .second, .val (.int p4), .val (.int (gn p0)), .val (.int (gk p0)), .val (.int (gs p0)), .val (.ref b1), .unset, .unset, .unset, .unset] [(.long q1), (.int (2 : Int32)), (.ref b1)])) _
        refine XS.bipush XM13.here hx rfl (hb hby at_65) ?_
        show Steps p.tables e below (TM13.setTop (mkF m 67 #[.val (.int p0), .val (.long q1), .second, .val (.long q2), .second, .val (.long q3), .second, .val (.int p4), .val (.int (gn p0)), .val (.int (gk p0)), .val (.int (gs p0)), .val (.ref b1), .unset, .unset, .unset, .unset] [(.int (32 : Int32)), (.long q1), (.int (2 : Int32)), (.ref b1)])) _
        refine XS.lushr XM13.here hx rfl (hb hby at_67) rfl ?_
        show Steps p.tables e below (TM13.setTop (mkF m 68 #[.val (.int p0), .val (.long q1), .second, .val (.long q2), .second, .val (.long q3), .second, .val (.int p4), .val (.int (gn p0)), .val (.int (gk p0)), .val (.int (gs p0)), .val (.ref b1), .unset, .unset, .unset, .unset] [(.long ((q1.toUInt64 >>> ((32 : Int32) &&& 0x3f).toInt64.toUInt64).toInt64)), (.int (2 : Int32)), (.ref b1)])) _
        refine XS.l2i XM13.here hx rfl (hb hby at_68) rfl ?_
        show Steps p.tables e below (TM13.setTop (mkF m 69 #[.val (.int p0), .val (.long q1), .second, .val (.long q2), .second, .val (.long q3), .second, .val (.int p4), .val (.int (gn p0)), .val (.int (gk p0)), .val (.int (gs p0)), .val (.ref b1), .unset, .unset, .unset, .unset] [(.int (((q1.toUInt64 >>> ((32 : Int32) &&& 0x3f).toInt64.toUInt64).toInt64).toInt32)), (.int (2 : Int32)), (.ref b1)])) _
        refine XS.i2c XM13.here hx rfl (hb hby at_69) rfl ?_
        show Steps p.tables e below (TM13.setTop (mkF m 70 #[.val (.int p0), .val (.long q1), .second, .val (.long q2), .second, .val (.long q3), .second, .val (.int p4), .val (.int (gn p0)), .val (.int (gk p0)), .val (.int (gs p0)), .val (.ref b1), .unset, .unset, .unset, .unset] [(.int ((((q1.toUInt64 >>> ((32 : Int32) &&& 0x3f).toInt64.toUInt64).toInt64).toInt32).toUInt32.toUInt16.toUInt32.toInt32)), (.int (2 : Int32)), (.ref b1)])) _
        refine st23 _ ?_
        exact kt
      exact ⟨(up fv12 2 (nar .char ((((q1.toUInt64 >>> ((32 : Int32) &&& 0x3f).toInt64.toUInt64).toInt64).toInt32).toUInt32.toUInt16.toUInt32.toInt32))), T23, h23, _, X23, e23, N23, Z23, G24, K25⟩
    · skip
      have K26 : ∀ t, Steps p.tables e below (TM13.setTop (mkF m 71 #[.val (.int p0), .val (.long q1), .second, .val (.long q2), .second, .val (.long q3), .second, .val (.int p4), .val (.int (gn p0)), .val (.int (gk p0)), .val (.int (gs p0)), .val (.ref b1), .unset, .unset, .unset, .unset] [])) t → Steps p.tables e below (s₁.setTop (mkF m 0 #[.val (.int p0), .val (.long q1), .second, .val (.long q2), .second, .val (.long q3), .second, .val (.int p4), .unset, .unset, .unset, .unset, .unset, .unset, .unset, .unset] [])) t := by
        intro t kt
        refine K19 _ ?_
        show Steps p.tables e below (TM13.setTop (mkF m 58 #[.val (.int p0), .val (.long q1), .second, .val (.long q2), .second, .val (.long q3), .second, .val (.int p4), .val (.int (gn p0)), .val (.int (gk p0)), .val (.int (gs p0)), .val (.ref b1), .unset, .unset, .unset, .unset] [(.int (2 : Int32)), (.int (gn p0))])) _
        refine XS.icmpYes XM13.here hx rfl (pc0 := 58) (pc' := 71) rfl (hb hby at_58) rfl (flt hc22).2.2.2 (by decide) (by decide) ?_
        exact kt
      exact ⟨fv12, TM13, hM13, _, XM13, eM13, NM13, ZM13, qM13_0, K26⟩
  have K27 : ∀ t, Steps p.tables e below (TM21.setTop (mkF m 74 #[.val (.int p0), .val (.long q1), .second, .val (.long q2), .second, .val (.long q3), .second, .val (.int p4), .val (.int (gn p0)), .val (.int (gk p0)), .val (.int (gs p0)), .val (.ref b1), .unset, .unset, .unset, .unset] [(.int (3 : Int32)), (.int (gn p0))])) t → Steps p.tables e below (s₁.setTop (mkF m 0 #[.val (.int p0), .val (.long q1), .second, .val (.long q2), .second, .val (.long q3), .second, .val (.int p4), .unset, .unset, .unset, .unset, .unset, .unset, .unset, .unset] [])) t := by
    intro t kt
    refine KM21 _ ?_
    show Steps p.tables e below (TM21.setTop (mkF m 71 #[.val (.int p0), .val (.long q1), .second, .val (.long q2), .second, .val (.long q3), .second, .val (.int p4), .val (.int (gn p0)), .val (.int (gk p0)), .val (.int (gs p0)), .val (.ref b1), .unset, .unset, .unset, .unset] [])) _
    refine XS.iload XM21.here hx rfl (hb hby at_71) rfl ?_
    show Steps p.tables e below (TM21.setTop (mkF m 73 #[.val (.int p0), .val (.long q1), .second, .val (.long q2), .second, .val (.long q3), .second, .val (.int p4), .val (.int (gn p0)), .val (.int (gk p0)), .val (.int (gs p0)), .val (.ref b1), .unset, .unset, .unset, .unset] [(.int (gn p0))])) _
    refine XS.iconst XM21.here hx rfl (hb hby at_73) ?_
    exact kt
  obtain ⟨fv28, TM29, hM29, LM29, XM29, eM29, NM29, ZM29, qM29_0, KM29⟩ : ∃ (fv28 : Nat → Int32) (T' : State) (h' : Heap) (L' : List Loc), Stand p l e room_1 s m #[(.int p0), (.long q1), (.long q2), (.long q3), (.int p4)] below meth c T' L' 1 7 ∧ T'.heap = h' ∧ Fr n0 L' ∧ n0 ≤ h'.size ∧ Ia Z h' b1 .char N fv28 ∧ ∀ t, Steps p.tables e below (T'.setTop (mkF m 87 #[.val (.int p0), .val (.long q1), .second, .val (.long q2), .second, .val (.long q3), .second, .val (.int p4), .val (.int (gn p0)), .val (.int (gk p0)), .val (.int (gs p0)), .val (.ref b1), .unset, .unset, .unset, .unset] [])) t → Steps p.tables e below (s₁.setTop (mkF m 0 #[.val (.int p0), .val (.long q1), .second, .val (.long q2), .second, .val (.long q3), .second, .val (.int p4), .unset, .unset, .unset, .unset, .unset, .unset, .unset, .unset] [])) t := by
    by_cases hc30 : (3 : Int32) < (gn p0)
    · skip
      obtain ⟨T31, h31, X31, e31, W31, A31, st31⟩ := iaC XM21 hx hZ eM21 qM21_0 (j := (3 : Int32)) 3 (by decide) (own_ix (by decide) hN hc30) (g := (mkF m 86 #[.val (.int p0), .val (.long q1), .second, .val (.long q2), .second, .val (.long q3), .second, .val (.int p4), .val (.int (gn p0)), .val (.int (gk p0)), .val (.int (gs p0)), .val (.ref b1), .unset, .unset, .unset, .unset] [(.int ((((q1.toUInt64 >>> ((48 : Int32) &&& 0x3f).toInt64.toUInt64).toInt64).toInt32).toUInt32.toUInt16.toUInt32.toInt32)), (.int (3 : Int32)), (.ref b1)])) rfl rfl (hb hby at_86)
      have G32 : Ia Z h31 b1 .char N (up fv20 3 (nar .char ((((q1.toUInt64 >>> ((48 : Int32) &&& 0x3f).toInt64.toUInt64).toInt64).toInt32).toUInt32.toUInt16.toUInt32.toInt32))) := A31
      have Z31 : n0 ≤ h31.size := Nat.le_trans ZM21 (Keep.of_wr W31).1
      have N31 := Fr.snoc X31 NM21 gn1
      have K33 : ∀ t, Steps p.tables e below (T31.setTop (mkF m 87 #[.val (.int p0), .val (.long q1), .second, .val (.long q2), .second, .val (.long q3), .second, .val (.int p4), .val (.int (gn p0)), .val (.int (gk p0)), .val (.int (gs p0)), .val (.ref b1), .unset, .unset, .unset, .unset] [])) t → Steps p.tables e below (s₁.setTop (mkF m 0 #[.val (.int p0), .val (.long q1), .second, .val (.long q2), .second, .val (.long q3), .second, .val (.int p4), .unset, .unset, .unset, .unset, .unset, .unset, .unset, .unset] [])) t := by
        intro t kt
        refine K27 _ ?_
        show Steps p.tables e below (TM21.setTop (mkF m 74 #[.val (.int p0), .val (.long q1), .second, .val (.long q2), .second, .val (.long q3), .second, .val (.int p4), .val (.int (gn p0)), .val (.int (gk p0)), .val (.int (gs p0)), .val (.ref b1), .unset, .unset, .unset, .unset] [(.int (3 : Int32)), (.int (gn p0))])) _
        refine XS.icmpNo XM21.here hx rfl (hb hby at_74) rfl (tlt hc30).2.2.2 ?_
        show Steps p.tables e below (TM21.setTop (mkF m 77 #[.val (.int p0), .val (.long q1), .second, .val (.long q2), .second, .val (.long q3), .second, .val (.int p4), .val (.int (gn p0)), .val (.int (gk p0)), .val (.int (gs p0)), .val (.ref b1), .unset, .unset, .unset, .unset] [])) _
        refine XS.aload XM21.here hx rfl (hb hby at_77) rfl rfl ?_
        show Steps p.tables e below (TM21.setTop (mkF m 79 #[.val (.int p0), .val (.long q1), .second, .val (.long q2), .second, .val (.long q3), .second, .val (.int p4), .val (.int (gn p0)), .val (.int (gk p0)), .val (.int (gs p0)), .val (.ref b1), .unset, .unset, .unset, .unset] [(.ref b1)])) _
        refine XS.iconst XM21.here hx rfl (hb hby at_79) ?_
        show Steps p.tables e below (TM21.setTop (mkF m 80 #[.val (.int p0), .val (.long q1), .second, .val (.long q2), .second, .val (.long q3), .second, .val (.int p4), .val (.int (gn p0)), .val (.int (gk p0)), .val (.int (gs p0)), .val (.ref b1), .unset, .unset, .unset, .unset] [(.int (3 : Int32)), (.ref b1)])) _
        refine XS.lloadN XM21.here hx rfl (hb hby at_80) rfl ?_
        show Steps p.tables e below (TM21.setTop (mkF m 81 #[.val (.int p0), .val (.long q1), .second, .val (.long q2), .second, .val (.long q3), .second, .val (.int p4), .val (.int (gn p0)), .val (.int (gk p0)), .val (.int (gs p0)), .val (.ref b1), .unset, .unset, .unset, .unset] [(.long q1), (.int (3 : Int32)), (.ref b1)])) _
        refine XS.bipush XM21.here hx rfl (hb hby at_81) ?_
        show Steps p.tables e below (TM21.setTop (mkF m 83 #[.val (.int p0), .val (.long q1), .second, .val (.long q2), .second, .val (.long q3), .second, .val (.int p4), .val (.int (gn p0)), .val (.int (gk p0)), .val (.int (gs p0)), .val (.ref b1), .unset, .unset, .unset, .unset] [(.int (48 : Int32)), (.long q1), (.int (3 : Int32)), (.ref b1)])) _
        refine XS.lushr XM21.here hx rfl (hb hby at_83) rfl ?_
        show Steps p.tables e below (TM21.setTop (mkF m 84 #[.val (.int p0), .val (.long q1), .second, .val (.long q2), .second, .val (.long q3), .second, .val (.int p4), .val (.int (gn p0)), .val (.int (gk p0)), .val (.int (gs p0)), .val (.ref b1), .unset, .unset, .unset, .unset] [(.long ((q1.toUInt64 >>> ((48 : Int32) &&& 0x3f).toInt64.toUInt64).toInt64)), (.int (3 : Int32)), (.ref b1)])) _
        refine XS.l2i XM21.here hx rfl (hb hby at_84) rfl ?_
        show Steps p.tables e below (TM21.setTop (mkF m 85 #[.val (.int p0), .val (.long q1), .second, .val (.long q2), .second, .val (.long q3), .second, .val (.int p4), .val (.int (gn p0)), .val (.int (gk p0)), .val (.int (gs p0)), .val (.ref b1), .unset, .unset, .unset, .unset] [(.int (((q1.toUInt64 >>> ((48 : Int32) &&& 0x3f).toInt64.toUInt64).toInt64).toInt32)), (.int (3 : Int32)), (.ref b1)])) _
        refine XS.i2c XM21.here hx rfl (hb hby at_85) rfl ?_
        show Steps p.tables e below (TM21.setTop (mkF m 86 #[.val (.int p0), .val (.long q1), .second, .val (.long q2), .second, .val (.long q3), .second, .val (.int p4), .val (.int (gn p0)), .val (.int (gk p0)), .val (.int (gs p0)), .val (.ref b1), .unset, .unset, .unset, .unset] [(.int ((((q1.toUInt64 >>> ((48 : Int32) &&& 0x3f).toInt64.toUInt64).toInt64).toInt32).toUInt32.toUInt16.toUInt32.toInt32)), (.int (3 : Int32)), (.ref b1)])) _
        refine st31 _ ?_
        exact kt
      exact ⟨(up fv20 3 (nar .char ((((q1.toUInt64 >>> ((48 : Int32) &&& 0x3f).toInt64.toUInt64).toInt64).toInt32).toUInt32.toUInt16.toUInt32.toInt32))), T31, h31, _, X31, e31, N31, Z31, G32, K33⟩
    · skip
      have K34 : ∀ t, Steps p.tables e below (TM21.setTop (mkF m 87 #[.val (.int p0), .val (.long q1), .second, .val (.long q2), .second, .val (.long q3), .second, .val (.int p4), .val (.int (gn p0)), .val (.int (gk p0)), .val (.int (gs p0)), .val (.ref b1), .unset, .unset, .unset, .unset] [])) t → Steps p.tables e below (s₁.setTop (mkF m 0 #[.val (.int p0), .val (.long q1), .second, .val (.long q2), .second, .val (.long q3), .second, .val (.int p4), .unset, .unset, .unset, .unset, .unset, .unset, .unset, .unset] [])) t := by
        intro t kt
        refine K27 _ ?_
        show Steps p.tables e below (TM21.setTop (mkF m 74 #[.val (.int p0), .val (.long q1), .second, .val (.long q2), .second, .val (.long q3), .second, .val (.int p4), .val (.int (gn p0)), .val (.int (gk p0)), .val (.int (gs p0)), .val (.ref b1), .unset, .unset, .unset, .unset] [(.int (3 : Int32)), (.int (gn p0))])) _
        refine XS.icmpYes XM21.here hx rfl (pc0 := 74) (pc' := 87) rfl (hb hby at_74) rfl (flt hc30).2.2.2 (by decide) (by decide) ?_
        exact kt
      exact ⟨fv20, TM21, hM21, _, XM21, eM21, NM21, ZM21, qM21_0, K34⟩
  have K35 : ∀ t, Steps p.tables e below (TM29.setTop (mkF m 90 #[.val (.int p0), .val (.long q1), .second, .val (.long q2), .second, .val (.long q3), .second, .val (.int p4), .val (.int (gn p0)), .val (.int (gk p0)), .val (.int (gs p0)), .val (.ref b1), .unset, .unset, .unset, .unset] [(.int (4 : Int32)), (.int (gn p0))])) t → Steps p.tables e below (s₁.setTop (mkF m 0 #[.val (.int p0), .val (.long q1), .second, .val (.long q2), .second, .val (.long q3), .second, .val (.int p4), .unset, .unset, .unset, .unset, .unset, .unset, .unset, .unset] [])) t := by
    intro t kt
    refine KM29 _ ?_
    show Steps p.tables e below (TM29.setTop (mkF m 87 #[.val (.int p0), .val (.long q1), .second, .val (.long q2), .second, .val (.long q3), .second, .val (.int p4), .val (.int (gn p0)), .val (.int (gk p0)), .val (.int (gs p0)), .val (.ref b1), .unset, .unset, .unset, .unset] [])) _
    refine XS.iload XM29.here hx rfl (hb hby at_87) rfl ?_
    show Steps p.tables e below (TM29.setTop (mkF m 89 #[.val (.int p0), .val (.long q1), .second, .val (.long q2), .second, .val (.long q3), .second, .val (.int p4), .val (.int (gn p0)), .val (.int (gk p0)), .val (.int (gs p0)), .val (.ref b1), .unset, .unset, .unset, .unset] [(.int (gn p0))])) _
    refine XS.iconst XM29.here hx rfl (hb hby at_89) ?_
    exact kt
  obtain ⟨fv36, TM37, hM37, LM37, XM37, eM37, NM37, ZM37, qM37_0, KM37⟩ : ∃ (fv36 : Nat → Int32) (T' : State) (h' : Heap) (L' : List Loc), Stand p l e room_1 s m #[(.int p0), (.long q1), (.long q2), (.long q3), (.int p4)] below meth c T' L' 1 7 ∧ T'.heap = h' ∧ Fr n0 L' ∧ n0 ≤ h'.size ∧ Ia Z h' b1 .char N fv36 ∧ ∀ t, Steps p.tables e below (T'.setTop (mkF m 100 #[.val (.int p0), .val (.long q1), .second, .val (.long q2), .second, .val (.long q3), .second, .val (.int p4), .val (.int (gn p0)), .val (.int (gk p0)), .val (.int (gs p0)), .val (.ref b1), .unset, .unset, .unset, .unset] [])) t → Steps p.tables e below (s₁.setTop (mkF m 0 #[.val (.int p0), .val (.long q1), .second, .val (.long q2), .second, .val (.long q3), .second, .val (.int p4), .unset, .unset, .unset, .unset, .unset, .unset, .unset, .unset] [])) t := by
    by_cases hc38 : (4 : Int32) < (gn p0)
    · skip
      obtain ⟨T39, h39, X39, e39, W39, A39, st39⟩ := iaC XM29 hx hZ eM29 qM29_0 (j := (4 : Int32)) 4 (by decide) (own_ix (by decide) hN hc38) (g := (mkF m 99 #[.val (.int p0), .val (.long q1), .second, .val (.long q2), .second, .val (.long q3), .second, .val (.int p4), .val (.int (gn p0)), .val (.int (gk p0)), .val (.int (gs p0)), .val (.ref b1), .unset, .unset, .unset, .unset] [(.int ((q2.toInt32).toUInt32.toUInt16.toUInt32.toInt32)), (.int (4 : Int32)), (.ref b1)])) rfl rfl (hb hby at_99)
      have G40 : Ia Z h39 b1 .char N (up fv28 4 (nar .char ((q2.toInt32).toUInt32.toUInt16.toUInt32.toInt32))) := A39
      have Z39 : n0 ≤ h39.size := Nat.le_trans ZM29 (Keep.of_wr W39).1
      have N39 := Fr.snoc X39 NM29 gn1
      have K41 : ∀ t, Steps p.tables e below (T39.setTop (mkF m 100 #[.val (.int p0), .val (.long q1), .second, .val (.long q2), .second, .val (.long q3), .second, .val (.int p4), .val (.int (gn p0)), .val (.int (gk p0)), .val (.int (gs p0)), .val (.ref b1), .unset, .unset, .unset, .unset] [])) t → Steps p.tables e below (s₁.setTop (mkF m 0 #[.val (.int p0), .val (.long q1), .second, .val (.long q2), .second, .val (.long q3), .second, .val (.int p4), .unset, .unset, .unset, .unset, .unset, .unset, .unset, .unset] [])) t := by
        intro t kt
        refine K35 _ ?_
        show Steps p.tables e below (TM29.setTop (mkF m 90 #[.val (.int p0), .val (.long q1), .second, .val (.long q2), .second, .val (.long q3), .second, .val (.int p4), .val (.int (gn p0)), .val (.int (gk p0)), .val (.int (gs p0)), .val (.ref b1), .unset, .unset, .unset, .unset] [(.int (4 : Int32)), (.int (gn p0))])) _
        refine XS.icmpNo XM29.here hx rfl (hb hby at_90) rfl (tlt hc38).2.2.2 ?_
        show Steps p.tables e below (TM29.setTop (mkF m 93 #[.val (.int p0), .val (.long q1), .second, .val (.long q2), .second, .val (.long q3), .second, .val (.int p4), .val (.int (gn p0)), .val (.int (gk p0)), .val (.int (gs p0)), .val (.ref b1), .unset, .unset, .unset, .unset] [])) _
        refine XS.aload XM29.here hx rfl (hb hby at_93) rfl rfl ?_
        show Steps p.tables e below (TM29.setTop (mkF m 95 #[.val (.int p0), .val (.long q1), .second, .val (.long q2), .second, .val (.long q3), .second, .val (.int p4), .val (.int (gn p0)), .val (.int (gk p0)), .val (.int (gs p0)), .val (.ref b1), .unset, .unset, .unset, .unset] [(.ref b1)])) _
        refine XS.iconst XM29.here hx rfl (hb hby at_95) ?_
        show Steps p.tables e below (TM29.setTop (mkF m 96 #[.val (.int p0), .val (.long q1), .second, .val (.long q2), .second, .val (.long q3), .second, .val (.int p4), .val (.int (gn p0)), .val (.int (gk p0)), .val (.int (gs p0)), .val (.ref b1), .unset, .unset, .unset, .unset] [(.int (4 : Int32)), (.ref b1)])) _
        refine XS.lloadN XM29.here hx rfl (hb hby at_96) rfl ?_
        show Steps p.tables e below (TM29.setTop (mkF m 97 #[.val (.int p0), .val (.long q1), .second, .val (.long q2), .second, .val (.long q3), .second, .val (.int p4), .val (.int (gn p0)), .val (.int (gk p0)), .val (.int (gs p0)), .val (.ref b1), .unset, .unset, .unset, .unset] [(.long q2), (.int (4 : Int32)), (.ref b1)])) _
        refine XS.l2i XM29.here hx rfl (hb hby at_97) rfl ?_
        show Steps p.tables e below (TM29.setTop (mkF m 98 #[.val (.int p0), .val (.long q1), .second, .val (.long q2), .second, .val (.long q3), .second, .val (.int p4), .val (.int (gn p0)), .val (.int (gk p0)), .val (.int (gs p0)), .val (.ref b1), .unset, .unset, .unset, .unset] [(.int (q2.toInt32)), (.int (4 : Int32)), (.ref b1)])) _
        refine XS.i2c XM29.here hx rfl (hb hby at_98) rfl ?_
        show Steps p.tables e below (TM29.setTop (mkF m 99 #[.val (.int p0), .val (.long q1), .second, .val (.long q2), .second, .val (.long q3), .second, .val (.int p4), .val (.int (gn p0)), .val (.int (gk p0)), .val (.int (gs p0)), .val (.ref b1), .unset, .unset, .unset, .unset] [(.int ((q2.toInt32).toUInt32.toUInt16.toUInt32.toInt32)), (.int (4 : Int32)), (.ref b1)])) _
        refine st39 _ ?_
        exact kt
      exact ⟨(up fv28 4 (nar .char ((q2.toInt32).toUInt32.toUInt16.toUInt32.toInt32))), T39, h39, _, X39, e39, N39, Z39, G40, K41⟩
    · skip
      have K42 : ∀ t, Steps p.tables e below (TM29.setTop (mkF m 100 #[.val (.int p0), .val (.long q1), .second, .val (.long q2), .second, .val (.long q3), .second, .val (.int p4), .val (.int (gn p0)), .val (.int (gk p0)), .val (.int (gs p0)), .val (.ref b1), .unset, .unset, .unset, .unset] [])) t → Steps p.tables e below (s₁.setTop (mkF m 0 #[.val (.int p0), .val (.long q1), .second, .val (.long q2), .second, .val (.long q3), .second, .val (.int p4), .unset, .unset, .unset, .unset, .unset, .unset, .unset, .unset] [])) t := by
        intro t kt
        refine K35 _ ?_
        show Steps p.tables e below (TM29.setTop (mkF m 90 #[.val (.int p0), .val (.long q1), .second, .val (.long q2), .second, .val (.long q3), .second, .val (.int p4), .val (.int (gn p0)), .val (.int (gk p0)), .val (.int (gs p0)), .val (.ref b1), .unset, .unset, .unset, .unset] [(.int (4 : Int32)), (.int (gn p0))])) _
        refine XS.icmpYes XM29.here hx rfl (pc0 := 90) (pc' := 100) rfl (hb hby at_90) rfl (flt hc38).2.2.2 (by decide) (by decide) ?_
        exact kt
      exact ⟨fv28, TM29, hM29, _, XM29, eM29, NM29, ZM29, qM29_0, K42⟩
  have K43 : ∀ t, Steps p.tables e below (TM37.setTop (mkF m 103 #[.val (.int p0), .val (.long q1), .second, .val (.long q2), .second, .val (.long q3), .second, .val (.int p4), .val (.int (gn p0)), .val (.int (gk p0)), .val (.int (gs p0)), .val (.ref b1), .unset, .unset, .unset, .unset] [(.int (5 : Int32)), (.int (gn p0))])) t → Steps p.tables e below (s₁.setTop (mkF m 0 #[.val (.int p0), .val (.long q1), .second, .val (.long q2), .second, .val (.long q3), .second, .val (.int p4), .unset, .unset, .unset, .unset, .unset, .unset, .unset, .unset] [])) t := by
    intro t kt
    refine KM37 _ ?_
    show Steps p.tables e below (TM37.setTop (mkF m 100 #[.val (.int p0), .val (.long q1), .second, .val (.long q2), .second, .val (.long q3), .second, .val (.int p4), .val (.int (gn p0)), .val (.int (gk p0)), .val (.int (gs p0)), .val (.ref b1), .unset, .unset, .unset, .unset] [])) _
    refine XS.iload XM37.here hx rfl (hb hby at_100) rfl ?_
    show Steps p.tables e below (TM37.setTop (mkF m 102 #[.val (.int p0), .val (.long q1), .second, .val (.long q2), .second, .val (.long q3), .second, .val (.int p4), .val (.int (gn p0)), .val (.int (gk p0)), .val (.int (gs p0)), .val (.ref b1), .unset, .unset, .unset, .unset] [(.int (gn p0))])) _
    refine XS.iconst XM37.here hx rfl (hb hby at_102) ?_
    exact kt
  obtain ⟨fv44, TM45, hM45, LM45, XM45, eM45, NM45, ZM45, qM45_0, KM45⟩ : ∃ (fv44 : Nat → Int32) (T' : State) (h' : Heap) (L' : List Loc), Stand p l e room_1 s m #[(.int p0), (.long q1), (.long q2), (.long q3), (.int p4)] below meth c T' L' 1 7 ∧ T'.heap = h' ∧ Fr n0 L' ∧ n0 ≤ h'.size ∧ Ia Z h' b1 .char N fv44 ∧ ∀ t, Steps p.tables e below (T'.setTop (mkF m 116 #[.val (.int p0), .val (.long q1), .second, .val (.long q2), .second, .val (.long q3), .second, .val (.int p4), .val (.int (gn p0)), .val (.int (gk p0)), .val (.int (gs p0)), .val (.ref b1), .unset, .unset, .unset, .unset] [])) t → Steps p.tables e below (s₁.setTop (mkF m 0 #[.val (.int p0), .val (.long q1), .second, .val (.long q2), .second, .val (.long q3), .second, .val (.int p4), .unset, .unset, .unset, .unset, .unset, .unset, .unset, .unset] [])) t := by
    by_cases hc46 : (5 : Int32) < (gn p0)
    · skip
      obtain ⟨T47, h47, X47, e47, W47, A47, st47⟩ := iaC XM37 hx hZ eM37 qM37_0 (j := (5 : Int32)) 5 (by decide) (own_ix (by decide) hN hc46) (g := (mkF m 115 #[.val (.int p0), .val (.long q1), .second, .val (.long q2), .second, .val (.long q3), .second, .val (.int p4), .val (.int (gn p0)), .val (.int (gk p0)), .val (.int (gs p0)), .val (.ref b1), .unset, .unset, .unset, .unset] [(.int ((((q2.toUInt64 >>> ((16 : Int32) &&& 0x3f).toInt64.toUInt64).toInt64).toInt32).toUInt32.toUInt16.toUInt32.toInt32)), (.int (5 : Int32)), (.ref b1)])) rfl rfl (hb hby at_115)
      have G48 : Ia Z h47 b1 .char N (up fv36 5 (nar .char ((((q2.toUInt64 >>> ((16 : Int32) &&& 0x3f).toInt64.toUInt64).toInt64).toInt32).toUInt32.toUInt16.toUInt32.toInt32))) := A47
      have Z47 : n0 ≤ h47.size := Nat.le_trans ZM37 (Keep.of_wr W47).1
      have N47 := Fr.snoc X47 NM37 gn1
      have K49 : ∀ t, Steps p.tables e below (T47.setTop (mkF m 116 #[.val (.int p0), .val (.long q1), .second, .val (.long q2), .second, .val (.long q3), .second, .val (.int p4), .val (.int (gn p0)), .val (.int (gk p0)), .val (.int (gs p0)), .val (.ref b1), .unset, .unset, .unset, .unset] [])) t → Steps p.tables e below (s₁.setTop (mkF m 0 #[.val (.int p0), .val (.long q1), .second, .val (.long q2), .second, .val (.long q3), .second, .val (.int p4), .unset, .unset, .unset, .unset, .unset, .unset, .unset, .unset] [])) t := by
        intro t kt
        refine K43 _ ?_
        show Steps p.tables e below (TM37.setTop (mkF m 103 #[.val (.int p0), .val (.long q1), .second, .val (.long q2), .second, .val (.long q3), .second, .val (.int p4), .val (.int (gn p0)), .val (.int (gk p0)), .val (.int (gs p0)), .val (.ref b1), .unset, .unset, .unset, .unset] [(.int (5 : Int32)), (.int (gn p0))])) _
        refine XS.icmpNo XM37.here hx rfl (hb hby at_103) rfl (tlt hc46).2.2.2 ?_
        show Steps p.tables e below (TM37.setTop (mkF m 106 #[.val (.int p0), .val (.long q1), .second, .val (.long q2), .second, .val (.long q3), .second, .val (.int p4), .val (.int (gn p0)), .val (.int (gk p0)), .val (.int (gs p0)), .val (.ref b1), .unset, .unset, .unset, .unset] [])) _
        refine XS.aload XM37.here hx rfl (hb hby at_106) rfl rfl ?_
        show Steps p.tables e below (TM37.setTop (mkF m 108 #[.val (.int p0), .val (.long q1), .second, .val (.long q2), .second, .val (.long q3), .second, .val (.int p4), .val (.int (gn p0)), .val (.int (gk p0)), .val (.int (gs p0)), .val (.ref b1), .unset, .unset, .unset, .unset] [(.ref b1)])) _
        refine XS.iconst XM37.here hx rfl (hb hby at_108) ?_
        show Steps p.tables e below (TM37.setTop (mkF m 109 #[.val (.int p0), .val (.long q1), .second, .val (.long q2), .second, .val (.long q3), .second, .val (.int p4), .val (.int (gn p0)), .val (.int (gk p0)), .val (.int (gs p0)), .val (.ref b1), .unset, .unset, .unset, .unset] [(.int (5 : Int32)), (.ref b1)])) _
        refine XS.lloadN XM37.here hx rfl (hb hby at_109) rfl ?_
        show Steps p.tables e below (TM37.setTop (mkF m 110 #[.val (.int p0), .val (.long q1), .second, .val (.long q2), .second, .val (.long q3), .second, .val (.int p4), .val (.int (gn p0)), .val (.int (gk p0)), .val (.int (gs p0)), .val (.ref b1), .unset, .unset, .unset, .unset] [(.long q2), (.int (5 : Int32)), (.ref b1)])) _
        refine XS.bipush XM37.here hx rfl (hb hby at_110) ?_
        show Steps p.tables e below (TM37.setTop (mkF m 112 #[.val (.int p0), .val (.long q1), .second, .val (.long q2), .second, .val (.long q3), .second, .val (.int p4), .val (.int (gn p0)), .val (.int (gk p0)), .val (.int (gs p0)), .val (.ref b1), .unset, .unset, .unset, .unset] [(.int (16 : Int32)), (.long q2), (.int (5 : Int32)), (.ref b1)])) _
        refine XS.lushr XM37.here hx rfl (hb hby at_112) rfl ?_
        show Steps p.tables e below (TM37.setTop (mkF m 113 #[.val (.int p0), .val (.long q1), .second, .val (.long q2), .second, .val (.long q3), .second, .val (.int p4), .val (.int (gn p0)), .val (.int (gk p0)), .val (.int (gs p0)), .val (.ref b1), .unset, .unset, .unset, .unset] [(.long ((q2.toUInt64 >>> ((16 : Int32) &&& 0x3f).toInt64.toUInt64).toInt64)), (.int (5 : Int32)), (.ref b1)])) _
        refine XS.l2i XM37.here hx rfl (hb hby at_113) rfl ?_
        show Steps p.tables e below (TM37.setTop (mkF m 114 #[.val (.int p0), .val (.long q1), .second, .val (.long q2), .second, .val (.long q3), .second, .val (.int p4), .val (.int (gn p0)), .val (.int (gk p0)), .val (.int (gs p0)), .val (.ref b1), .unset, .unset, .unset, .unset] [(.int (((q2.toUInt64 >>> ((16 : Int32) &&& 0x3f).toInt64.toUInt64).toInt64).toInt32)), (.int (5 : Int32)), (.ref b1)])) _
        refine XS.i2c XM37.here hx rfl (hb hby at_114) rfl ?_
        show Steps p.tables e below (TM37.setTop (mkF m 115 #[.val (.int p0), .val (.long q1), .second, .val (.long q2), .second, .val (.long q3), .second, .val (.int p4), .val (.int (gn p0)), .val (.int (gk p0)), .val (.int (gs p0)), .val (.ref b1), .unset, .unset, .unset, .unset] [(.int ((((q2.toUInt64 >>> ((16 : Int32) &&& 0x3f).toInt64.toUInt64).toInt64).toInt32).toUInt32.toUInt16.toUInt32.toInt32)), (.int (5 : Int32)), (.ref b1)])) _
        refine st47 _ ?_
        exact kt
      exact ⟨(up fv36 5 (nar .char ((((q2.toUInt64 >>> ((16 : Int32) &&& 0x3f).toInt64.toUInt64).toInt64).toInt32).toUInt32.toUInt16.toUInt32.toInt32))), T47, h47, _, X47, e47, N47, Z47, G48, K49⟩
    · skip
      have K50 : ∀ t, Steps p.tables e below (TM37.setTop (mkF m 116 #[.val (.int p0), .val (.long q1), .second, .val (.long q2), .second, .val (.long q3), .second, .val (.int p4), .val (.int (gn p0)), .val (.int (gk p0)), .val (.int (gs p0)), .val (.ref b1), .unset, .unset, .unset, .unset] [])) t → Steps p.tables e below (s₁.setTop (mkF m 0 #[.val (.int p0), .val (.long q1), .second, .val (.long q2), .second, .val (.long q3), .second, .val (.int p4), .unset, .unset, .unset, .unset, .unset, .unset, .unset, .unset] [])) t := by
        intro t kt
        refine K43 _ ?_
        show Steps p.tables e below (TM37.setTop (mkF m 103 #[.val (.int p0), .val (.long q1), .second, .val (.long q2), .second, .val (.long q3), .second, .val (.int p4), .val (.int (gn p0)), .val (.int (gk p0)), .val (.int (gs p0)), .val (.ref b1), .unset, .unset, .unset, .unset] [(.int (5 : Int32)), (.int (gn p0))])) _
        refine XS.icmpYes XM37.here hx rfl (pc0 := 103) (pc' := 116) rfl (hb hby at_103) rfl (flt hc46).2.2.2 (by decide) (by decide) ?_
        exact kt
      exact ⟨fv36, TM37, hM37, _, XM37, eM37, NM37, ZM37, qM37_0, K50⟩
  have K51 : ∀ t, Steps p.tables e below (TM45.setTop (mkF m 120 #[.val (.int p0), .val (.long q1), .second, .val (.long q2), .second, .val (.long q3), .second, .val (.int p4), .val (.int (gn p0)), .val (.int (gk p0)), .val (.int (gs p0)), .val (.ref b1), .unset, .unset, .unset, .unset] [(.int (6 : Int32)), (.int (gn p0))])) t → Steps p.tables e below (s₁.setTop (mkF m 0 #[.val (.int p0), .val (.long q1), .second, .val (.long q2), .second, .val (.long q3), .second, .val (.int p4), .unset, .unset, .unset, .unset, .unset, .unset, .unset, .unset] [])) t := by
    intro t kt
    refine KM45 _ ?_
    show Steps p.tables e below (TM45.setTop (mkF m 116 #[.val (.int p0), .val (.long q1), .second, .val (.long q2), .second, .val (.long q3), .second, .val (.int p4), .val (.int (gn p0)), .val (.int (gk p0)), .val (.int (gs p0)), .val (.ref b1), .unset, .unset, .unset, .unset] [])) _
    refine XS.iload XM45.here hx rfl (hb hby at_116) rfl ?_
    show Steps p.tables e below (TM45.setTop (mkF m 118 #[.val (.int p0), .val (.long q1), .second, .val (.long q2), .second, .val (.long q3), .second, .val (.int p4), .val (.int (gn p0)), .val (.int (gk p0)), .val (.int (gs p0)), .val (.ref b1), .unset, .unset, .unset, .unset] [(.int (gn p0))])) _
    refine XS.bipush XM45.here hx rfl (hb hby at_118) ?_
    exact kt
  obtain ⟨fv52, TM53, hM53, LM53, XM53, eM53, NM53, ZM53, qM53_0, KM53⟩ : ∃ (fv52 : Nat → Int32) (T' : State) (h' : Heap) (L' : List Loc), Stand p l e room_1 s m #[(.int p0), (.long q1), (.long q2), (.long q3), (.int p4)] below meth c T' L' 1 7 ∧ T'.heap = h' ∧ Fr n0 L' ∧ n0 ≤ h'.size ∧ Ia Z h' b1 .char N fv52 ∧ ∀ t, Steps p.tables e below (T'.setTop (mkF m 134 #[.val (.int p0), .val (.long q1), .second, .val (.long q2), .second, .val (.long q3), .second, .val (.int p4), .val (.int (gn p0)), .val (.int (gk p0)), .val (.int (gs p0)), .val (.ref b1), .unset, .unset, .unset, .unset] [])) t → Steps p.tables e below (s₁.setTop (mkF m 0 #[.val (.int p0), .val (.long q1), .second, .val (.long q2), .second, .val (.long q3), .second, .val (.int p4), .unset, .unset, .unset, .unset, .unset, .unset, .unset, .unset] [])) t := by
    by_cases hc54 : (6 : Int32) < (gn p0)
    · skip
      obtain ⟨T55, h55, X55, e55, W55, A55, st55⟩ := iaC XM45 hx hZ eM45 qM45_0 (j := (6 : Int32)) 6 (by decide) (own_ix (by decide) hN hc54) (g := (mkF m 133 #[.val (.int p0), .val (.long q1), .second, .val (.long q2), .second, .val (.long q3), .second, .val (.int p4), .val (.int (gn p0)), .val (.int (gk p0)), .val (.int (gs p0)), .val (.ref b1), .unset, .unset, .unset, .unset] [(.int ((((q2.toUInt64 >>> ((32 : Int32) &&& 0x3f).toInt64.toUInt64).toInt64).toInt32).toUInt32.toUInt16.toUInt32.toInt32)), (.int (6 : Int32)), (.ref b1)])) rfl rfl (hb hby at_133)
      have G56 : Ia Z h55 b1 .char N (up fv44 6 (nar .char ((((q2.toUInt64 >>> ((32 : Int32) &&& 0x3f).toInt64.toUInt64).toInt64).toInt32).toUInt32.toUInt16.toUInt32.toInt32))) := A55
      have Z55 : n0 ≤ h55.size := Nat.le_trans ZM45 (Keep.of_wr W55).1
      have N55 := Fr.snoc X55 NM45 gn1
      have K57 : ∀ t, Steps p.tables e below (T55.setTop (mkF m 134 #[.val (.int p0), .val (.long q1), .second, .val (.long q2), .second, .val (.long q3), .second, .val (.int p4), .val (.int (gn p0)), .val (.int (gk p0)), .val (.int (gs p0)), .val (.ref b1), .unset, .unset, .unset, .unset] [])) t → Steps p.tables e below (s₁.setTop (mkF m 0 #[.val (.int p0), .val (.long q1), .second, .val (.long q2), .second, .val (.long q3), .second, .val (.int p4), .unset, .unset, .unset, .unset, .unset, .unset, .unset, .unset] [])) t := by
        intro t kt
        refine K51 _ ?_
        show Steps p.tables e below (TM45.setTop (mkF m 120 #[.val (.int p0), .val (.long q1), .second, .val (.long q2), .second, .val (.long q3), .second, .val (.int p4), .val (.int (gn p0)), .val (.int (gk p0)), .val (.int (gs p0)), .val (.ref b1), .unset, .unset, .unset, .unset] [(.int (6 : Int32)), (.int (gn p0))])) _
        refine XS.icmpNo XM45.here hx rfl (hb hby at_120) rfl (tlt hc54).2.2.2 ?_
        show Steps p.tables e below (TM45.setTop (mkF m 123 #[.val (.int p0), .val (.long q1), .second, .val (.long q2), .second, .val (.long q3), .second, .val (.int p4), .val (.int (gn p0)), .val (.int (gk p0)), .val (.int (gs p0)), .val (.ref b1), .unset, .unset, .unset, .unset] [])) _
        refine XS.aload XM45.here hx rfl (hb hby at_123) rfl rfl ?_
        show Steps p.tables e below (TM45.setTop (mkF m 125 #[.val (.int p0), .val (.long q1), .second, .val (.long q2), .second, .val (.long q3), .second, .val (.int p4), .val (.int (gn p0)), .val (.int (gk p0)), .val (.int (gs p0)), .val (.ref b1), .unset, .unset, .unset, .unset] [(.ref b1)])) _
        refine XS.bipush XM45.here hx rfl (hb hby at_125) ?_
        show Steps p.tables e below (TM45.setTop (mkF m 127 #[.val (.int p0), .val (.long q1), .second, .val (.long q2), .second, .val (.long q3), .second, .val (.int p4), .val (.int (gn p0)), .val (.int (gk p0)), .val (.int (gs p0)), .val (.ref b1), .unset, .unset, .unset, .unset] [(.int (6 : Int32)), (.ref b1)])) _
        refine XS.lloadN XM45.here hx rfl (hb hby at_127) rfl ?_
        show Steps p.tables e below (TM45.setTop (mkF m 128 #[.val (.int p0), .val (.long q1), .second, .val (.long q2), .second, .val (.long q3), .second, .val (.int p4), .val (.int (gn p0)), .val (.int (gk p0)), .val (.int (gs p0)), .val (.ref b1), .unset, .unset, .unset, .unset] [(.long q2), (.int (6 : Int32)), (.ref b1)])) _
        refine XS.bipush XM45.here hx rfl (hb hby at_128) ?_
        show Steps p.tables e below (TM45.setTop (mkF m 130 #[.val (.int p0), .val (.long q1), .second, .val (.long q2), .second, .val (.long q3), .second, .val (.int p4), .val (.int (gn p0)), .val (.int (gk p0)), .val (.int (gs p0)), .val (.ref b1), .unset, .unset, .unset, .unset] [(.int (32 : Int32)), (.long q2), (.int (6 : Int32)), (.ref b1)])) _
        refine XS.lushr XM45.here hx rfl (hb hby at_130) rfl ?_
        show Steps p.tables e below (TM45.setTop (mkF m 131 #[.val (.int p0), .val (.long q1), .second, .val (.long q2), .second, .val (.long q3), .second, .val (.int p4), .val (.int (gn p0)), .val (.int (gk p0)), .val (.int (gs p0)), .val (.ref b1), .unset, .unset, .unset, .unset] [(.long ((q2.toUInt64 >>> ((32 : Int32) &&& 0x3f).toInt64.toUInt64).toInt64)), (.int (6 : Int32)), (.ref b1)])) _
        refine XS.l2i XM45.here hx rfl (hb hby at_131) rfl ?_
        show Steps p.tables e below (TM45.setTop (mkF m 132 #[.val (.int p0), .val (.long q1), .second, .val (.long q2), .second, .val (.long q3), .second, .val (.int p4), .val (.int (gn p0)), .val (.int (gk p0)), .val (.int (gs p0)), .val (.ref b1), .unset, .unset, .unset, .unset] [(.int (((q2.toUInt64 >>> ((32 : Int32) &&& 0x3f).toInt64.toUInt64).toInt64).toInt32)), (.int (6 : Int32)), (.ref b1)])) _
        refine XS.i2c XM45.here hx rfl (hb hby at_132) rfl ?_
        show Steps p.tables e below (TM45.setTop (mkF m 133 #[.val (.int p0), .val (.long q1), .second, .val (.long q2), .second, .val (.long q3), .second, .val (.int p4), .val (.int (gn p0)), .val (.int (gk p0)), .val (.int (gs p0)), .val (.ref b1), .unset, .unset, .unset, .unset] [(.int ((((q2.toUInt64 >>> ((32 : Int32) &&& 0x3f).toInt64.toUInt64).toInt64).toInt32).toUInt32.toUInt16.toUInt32.toInt32)), (.int (6 : Int32)), (.ref b1)])) _
        refine st55 _ ?_
        exact kt
      exact ⟨(up fv44 6 (nar .char ((((q2.toUInt64 >>> ((32 : Int32) &&& 0x3f).toInt64.toUInt64).toInt64).toInt32).toUInt32.toUInt16.toUInt32.toInt32))), T55, h55, _, X55, e55, N55, Z55, G56, K57⟩
    · skip
      have K58 : ∀ t, Steps p.tables e below (TM45.setTop (mkF m 134 #[.val (.int p0), .val (.long q1), .second, .val (.long q2), .second, .val (.long q3), .second, .val (.int p4), .val (.int (gn p0)), .val (.int (gk p0)), .val (.int (gs p0)), .val (.ref b1), .unset, .unset, .unset, .unset] [])) t → Steps p.tables e below (s₁.setTop (mkF m 0 #[.val (.int p0), .val (.long q1), .second, .val (.long q2), .second, .val (.long q3), .second, .val (.int p4), .unset, .unset, .unset, .unset, .unset, .unset, .unset, .unset] [])) t := by
        intro t kt
        refine K51 _ ?_
        show Steps p.tables e below (TM45.setTop (mkF m 120 #[.val (.int p0), .val (.long q1), .second, .val (.long q2), .second, .val (.long q3), .second, .val (.int p4), .val (.int (gn p0)), .val (.int (gk p0)), .val (.int (gs p0)), .val (.ref b1), .unset, .unset, .unset, .unset] [(.int (6 : Int32)), (.int (gn p0))])) _
        refine XS.icmpYes XM45.here hx rfl (pc0 := 120) (pc' := 134) rfl (hb hby at_120) rfl (flt hc54).2.2.2 (by decide) (by decide) ?_
        exact kt
      exact ⟨fv44, TM45, hM45, _, XM45, eM45, NM45, ZM45, qM45_0, K58⟩
  obtain ⟨T59, h59, X59, e59, E59, A59, st59⟩ := iaNew XM53 hx hZ (hw _ (List.mem_of_getElem? (i := 0) rfl)) eM53 (g := (mkF m 136 #[.val (.int p0), .val (.long q1), .second, .val (.long q2), .second, .val (.long q3), .second, .val (.int p4), .val (.int (gn p0)), .val (.int (gk p0)), .val (.int (gs p0)), .val (.ref b1), .unset, .unset, .unset, .unset] [(.int (gk p0))])) rfl (hb hby at_136) rfl K hK 3 hK3 (by decide) (by decide) (by decide) rfl (by decide)
  obtain ⟨b59, g59⟩ : ∃ z, z = hM53.size := ⟨_, rfl⟩
  rw [← g59] at A59 st59
  have ne60 : b1 ≠ b59 := Nat.ne_of_lt (Nat.lt_of_lt_of_le qM53_0.lt (Nat.le_of_eq g59.symm))
  have gn59 : n0 ≤ b59 := Nat.le_trans ZM53 (Nat.le_of_eq g59.symm)
  have Z59 : n0 ≤ h59.size := Nat.le_trans ZM53 E59.1
  have G61 : Ia Z h59 b1 .char N fv52 := qM53_0.ext E59
  have G62 : Ia Z h59 b59 .char K (fun _ => (0 : Int32)) := A59
  have K63 : ∀ t, Steps p.tables e below (T59.setTop (mkF m 142 #[.val (.int p0), .val (.long q1), .second, .val (.long q2), .second, .val (.long q3), .second, .val (.int p4), .val (.int (gn p0)), .val (.int (gk p0)), .val (.int (gs p0)), .val (.ref b1), .val (.ref b59), .unset, .unset, .unset] [(.int (gk p0))])) t → Steps p.tables e below (s₁.setTop (mkF m 0 #[.val (.int p0), .val (.long q1), .second, .val (.long q2), .second, .val (.long q3), .second, .val (.int p4), .unset, .unset, .unset, .unset, .unset, .unset, .unset, .unset] [])) t := by
    intro t kt
    refine KM53 _ ?_
    show Steps p.tables e below (TM53.setTop (mkF m 134 #[.val (.int p0), .val (.long q1), .second, .val (.long q2), .second, .val (.long q3), .second, .val (.int p4), .val (.int (gn p0)), .val (.int (gk p0)), .val (.int (gs p0)), .val (.ref b1), .unset, .unset, .unset, .unset] [])) _
    refine XS.iload XM53.here hx rfl (hb hby at_134) rfl ?_
    show Steps p.tables e below (TM53.setTop (mkF m 136 #[.val (.int p0), .val (.long q1), .second, .val (.long q2), .second, .val (.long q3), .second, .val (.int p4), .val (.int (gn p0)), .val (.int (gk p0)), .val (.int (gs p0)), .val (.ref b1), .unset, .unset, .unset, .unset] [(.int (gk p0))])) _
    refine st59 _ ?_
    show Steps p.tables e below (T59.setTop (mkF m 138 #[.val (.int p0), .val (.long q1), .second, .val (.long q2), .second, .val (.long q3), .second, .val (.int p4), .val (.int (gn p0)), .val (.int (gk p0)), .val (.int (gs p0)), .val (.ref b1), .unset, .unset, .unset, .unset] [(.ref b59)])) _
    refine XS.astore X59.here hx rfl (hb hby at_138) rfl rfl (l' := #[.val (.int p0), .val (.long q1), .second, .val (.long q2), .second, .val (.long q3), .second, .val (.int p4), .val (.int (gn p0)), .val (.int (gk p0)), .val (.int (gs p0)), .val (.ref b1), .val (.ref b59), .unset, .unset, .unset]) rfl ?_
    show Steps p.tables e below (T59.setTop (mkF m 140 #[.val (.int p0), .val (.long q1), .second, .val (.long q2), .second, .val (.long q3), .second, .val (.int p4), .val (.int (gn p0)), .val (.int (gk p0)), .val (.int (gs p0)), .val (.ref b1), .val (.ref b59), .unset, .unset, .unset] [])) _
    refine XS.iload X59.here hx rfl (hb hby at_140) rfl ?_
    exact kt
  obtain ⟨fv64, TM65, hM65, LM65, XM65, eM65, NM65, ZM65, qM65_0, qM65_1, KM65⟩ : ∃ (fv64 : Nat → Int32) (T' : State) (h' : Heap) (L' : List Loc), Stand p l e room_1 s m #[(.int p0), (.long q1), (.long q2), (.long q3), (.int p4)] below meth c T' L' 2 10 ∧ T'.heap = h' ∧ Fr n0 L' ∧ n0 ≤ h'.size ∧ Ia Z h' b1 .char N fv52 ∧ Ia Z h' b59 .char K fv64 ∧ ∀ t, Steps p.tables e below (T'.setTop (mkF m 172 #[.val (.int p0), .val (.long q1), .second, .val (.long q2), .second, .val (.long q3), .second, .val (.int p4), .val (.int (gn p0)), .val (.int (gk p0)), .val (.int (gs p0)), .val (.ref b1), .val (.ref b59), .unset, .unset, .unset] [])) t → Steps p.tables e below (s₁.setTop (mkF m 0 #[.val (.int p0), .val (.long q1), .second, .val (.long q2), .second, .val (.long q3), .second, .val (.int p4), .unset, .unset, .unset, .unset, .unset, .unset, .unset, .unset] [])) t := by
    by_cases hc66 : (0 : Int32) < (gk p0)
    · skip
      have K67 : ∀ t, Steps p.tables e below (T59.setTop (mkF m 160 #[.val (.int p0), .val (.long q1), .second, .val (.long q2), .second, .val (.long q3), .second, .val (.int p4), .val (.int (gn p0)), .val (.int (gk p0)), .val (.int (gs p0)), .val (.ref b1), .val (.ref b59), .unset, .unset, .unset] [(.int (p4 &&& (1 : Int32))), (.int ((q3.toInt32).toUInt32.toUInt16.toUInt32.toInt32)), (.int (gs p0)), (.ref b1), (.int (0 : Int32)), (.ref b59)])) t → Steps p.tables e below (s₁.setTop (mkF m 0 #[.val (.int p0), .val (.long q1), .second, .val (.long q2), .second, .val (.long q3), .second, .val (.int p4), .unset, .unset, .unset, .unset, .unset, .unset, .unset, .unset] [])) t := by
        intro t kt
        refine K63 _ ?_
        show Steps p.tables e below (T59.setTop (mkF m 142 #[.val (.int p0), .val (.long q1), .second, .val (.long q2), .second, .val (.long q3), .second, .val (.int p4), .val (.int (gn p0)), .val (.int (gk p0)), .val (.int (gs p0)), .val (.ref b1), .val (.ref b59), .unset, .unset, .unset] [(.int (gk p0))])) _
        refine XS.ifNo X59.here hx rfl (hb hby at_142) rfl ((if0 _ _).trans (tlt hc66).2.2.2) ?_
        show Steps p.tables e below (T59.setTop (mkF m 145 #[.val (.int p0), .val (.long q1), .second, .val (.long q2), .second, .val (.long q3), .second, .val (.int p4), .val (.int (gn p0)), .val (.int (gk p0)), .val (.int (gs p0)), .val (.ref b1), .val (.ref b59), .unset, .unset, .unset] [])) _
        refine XS.aload X59.here hx rfl (hb hby at_145) rfl rfl ?_
        show Steps p.tables e below (T59.setTop (mkF m 147 #[.val (.int p0), .val (.long q1), .second, .val (.long q2), .second, .val (.long q3), .second, .val (.int p4), .val (.int (gn p0)), .val (.int (gk p0)), .val (.int (gs p0)), .val (.ref b1), .val (.ref b59), .unset, .unset, .unset] [(.ref b59)])) _
        refine XS.iconst X59.here hx rfl (hb hby at_147) ?_
        show Steps p.tables e below (T59.setTop (mkF m 148 #[.val (.int p0), .val (.long q1), .second, .val (.long q2), .second, .val (.long q3), .second, .val (.int p4), .val (.int (gn p0)), .val (.int (gk p0)), .val (.int (gs p0)), .val (.ref b1), .val (.ref b59), .unset, .unset, .unset] [(.int (0 : Int32)), (.ref b59)])) _
        refine XS.aload X59.here hx rfl (hb hby at_148) rfl rfl ?_
        show Steps p.tables e below (T59.setTop (mkF m 150 #[.val (.int p0), .val (.long q1), .second, .val (.long q2), .second, .val (.long q3), .second, .val (.int p4), .val (.int (gn p0)), .val (.int (gk p0)), .val (.int (gs p0)), .val (.ref b1), .val (.ref b59), .unset, .unset, .unset] [(.ref b1), (.int (0 : Int32)), (.ref b59)])) _
        refine XS.iload X59.here hx rfl (hb hby at_150) rfl ?_
        show Steps p.tables e below (T59.setTop (mkF m 152 #[.val (.int p0), .val (.long q1), .second, .val (.long q2), .second, .val (.long q3), .second, .val (.int p4), .val (.int (gn p0)), .val (.int (gk p0)), .val (.int (gs p0)), .val (.ref b1), .val (.ref b59), .unset, .unset, .unset] [(.int (gs p0)), (.ref b1), (.int (0 : Int32)), (.ref b59)])) _
        refine XS.lload X59.here hx rfl (hb hby at_152) rfl ?_
        show Steps p.tables e below (T59.setTop (mkF m 154 #[.val (.int p0), .val (.long q1), .second, .val (.long q2), .second, .val (.long q3), .second, .val (.int p4), .val (.int (gn p0)), .val (.int (gk p0)), .val (.int (gs p0)), .val (.ref b1), .val (.ref b59), .unset, .unset, .unset] [(.long q3), (.int (gs p0)), (.ref b1), (.int (0 : Int32)), (.ref b59)])) _
        refine XS.l2i X59.here hx rfl (hb hby at_154) rfl ?_
        show Steps p.tables e below (T59.setTop (mkF m 155 #[.val (.int p0), .val (.long q1), .second, .val (.long q2), .second, .val (.long q3), .second, .val (.int p4), .val (.int (gn p0)), .val (.int (gk p0)), .val (.int (gs p0)), .val (.ref b1), .val (.ref b59), .unset, .unset, .unset] [(.int (q3.toInt32)), (.int (gs p0)), (.ref b1), (.int (0 : Int32)), (.ref b59)])) _
        refine XS.i2c X59.here hx rfl (hb hby at_155) rfl ?_
        show Steps p.tables e below (T59.setTop (mkF m 156 #[.val (.int p0), .val (.long q1), .second, .val (.long q2), .second, .val (.long q3), .second, .val (.int p4), .val (.int (gn p0)), .val (.int (gk p0)), .val (.int (gs p0)), .val (.ref b1), .val (.ref b59), .unset, .unset, .unset] [(.int ((q3.toInt32).toUInt32.toUInt16.toUInt32.toInt32)), (.int (gs p0)), (.ref b1), (.int (0 : Int32)), (.ref b59)])) _
        refine XS.iload X59.here hx rfl (hb hby at_156) rfl ?_
        show Steps p.tables e below (T59.setTop (mkF m 158 #[.val (.int p0), .val (.long q1), .second, .val (.long q2), .second, .val (.long q3), .second, .val (.int p4), .val (.int (gn p0)), .val (.int (gk p0)), .val (.int (gs p0)), .val (.ref b1), .val (.ref b59), .unset, .unset, .unset] [(.int p4), (.int ((q3.toInt32).toUInt32.toUInt16.toUInt32.toInt32)), (.int (gs p0)), (.ref b1), (.int (0 : Int32)), (.ref b59)])) _
        refine XS.iconst X59.here hx rfl (hb hby at_158) ?_
        show Steps p.tables e below (T59.setTop (mkF m 159 #[.val (.int p0), .val (.long q1), .second, .val (.long q2), .second, .val (.long q3), .second, .val (.int p4), .val (.int (gn p0)), .val (.int (gk p0)), .val (.int (gs p0)), .val (.ref b1), .val (.ref b59), .unset, .unset, .unset] [(.int (1 : Int32)), (.int p4), (.int ((q3.toInt32).toUInt32.toUInt16.toUInt32.toInt32)), (.int (gs p0)), (.ref b1), (.int (0 : Int32)), (.ref b59)])) _
        refine XS.iand X59.here hx rfl (hb hby at_159) rfl ?_
        exact kt
      have K69 : ∀ t, Steps p.tables e below (T59.setTop (mkF m 168 #[.val (.int p0), .val (.long q1), .second, .val (.long q2), .second, .val (.long q3), .second, .val (.int p4), .val (.int (gn p0)), .val (.int (gk p0)), .val (.int (gs p0)), .val (.ref b1), .val (.ref b59), .unset, .unset, .unset] [(.int (gb160 p4)), (.int ((q3.toInt32).toUInt32.toUInt16.toUInt32.toInt32)), (.int (gs p0)), (.ref b1), (.int (0 : Int32)), (.ref b59)])) t → Steps p.tables e below (s₁.setTop (mkF m 0 #[.val (.int p0), .val (.long q1), .second, .val (.long q2), .second, .val (.long q3), .second, .val (.int p4), .unset, .unset, .unset, .unset, .unset, .unset, .unset, .unset] [])) t := by
        intro t kt
        by_cases hc68 : (p4 &&& (1 : Int32)) = (0 : Int32)
        · skip
          simp only [gb160, if_pos hc68] at kt
          refine K67 _ ?_
          show Steps p.tables e below (T59.setTop (mkF m 160 #[.val (.int p0), .val (.long q1), .second, .val (.long q2), .second, .val (.long q3), .second, .val (.int p4), .val (.int (gn p0)), .val (.int (gk p0)), .val (.int (gs p0)), .val (.ref b1), .val (.ref b59), .unset, .unset, .unset] [(.int (p4 &&& (1 : Int32))), (.int ((q3.toInt32).toUInt32.toUInt16.toUInt32.toInt32)), (.int (gs p0)), (.ref b1), (.int (0 : Int32)), (.ref b59)])) _
          refine XS.ifYes X59.here hx rfl (pc0 := 160) (pc' := 167) rfl (hb hby at_160) rfl ((if0 _ _).trans (teq hc68).1) (by decide) (by decide) ?_
          show Steps p.tables e below (T59.setTop (mkF m 167 #[.val (.int p0), .val (.long q1), .second, .val (.long q2), .second, .val (.long q3), .second, .val (.int p4), .val (.int (gn p0)), .val (.int (gk p0)), .val (.int (gs p0)), .val (.ref b1), .val (.ref b59), .unset, .unset, .unset] [(.int ((q3.toInt32).toUInt32.toUInt16.toUInt32.toInt32)), (.int (gs p0)), (.ref b1), (.int (0 : Int32)), (.ref b59)])) _
          refine XS.iconst X59.here hx rfl (hb hby at_167) ?_
          exact kt
        · skip
          simp only [gb160, if_neg hc68] at kt
          refine K67 _ ?_
          show Steps p.tables e below (T59.setTop (mkF m 160 #[.val (.int p0), .val (.long q1), .second, .val (.long q2), .second, .val (.long q3), .second, .val (.int p4), .val (.int (gn p0)), .val (.int (gk p0)), .val (.int (gs p0)), .val (.ref b1), .val (.ref b59), .unset, .unset, .unset] [(.int (p4 &&& (1 : Int32))), (.int ((q3.toInt32).toUInt32.toUInt16.toUInt32.toInt32)), (.int (gs p0)), (.ref b1), (.int (0 : Int32)), (.ref b59)])) _
          refine XS.ifNo X59.here hx rfl (hb hby at_160) rfl ((if0 _ _).trans (feq hc68).1) ?_
          show Steps p.tables e below (T59.setTop (mkF m 163 #[.val (.int p0), .val (.long q1), .second, .val (.long q2), .second, .val (.long q3), .second, .val (.int p4), .val (.int (gn p0)), .val (.int (gk p0)), .val (.int (gs p0)), .val (.ref b1), .val (.ref b59), .unset, .unset, .unset] [(.int ((q3.toInt32).toUInt32.toUInt16.toUInt32.toInt32)), (.int (gs p0)), (.ref b1), (.int (0 : Int32)), (.ref b59)])) _
          refine XS.iconst X59.here hx rfl (hb hby at_163) ?_
          show Steps p.tables e below (T59.setTop (mkF m 164 #[.val (.int p0), .val (.long q1), .second, .val (.long q2), .second, .val (.long q3), .second, .val (.int p4), .val (.int (gn p0)), .val (.int (gk p0)), .val (.int (gs p0)), .val (.ref b1), .val (.ref b59), .unset, .unset, .unset] [(.int (1 : Int32)), (.int ((q3.toInt32).toUInt32.toUInt16.toUInt32.toInt32)), (.int (gs p0)), (.ref b1), (.int (0 : Int32)), (.ref b59)])) _
          refine XS.goto X59.here hx rfl (pc0 := 164) (pc' := 168) rfl (hb hby at_164) (by decide) (by decide) ?_
          exact kt
      obtain ⟨_, _, ⟨T70, L70, k70, n70⟩, -, X70, ⟨Lc70, hQ70, l70, y70, z70⟩, st70⟩ := Jvm.LawKit.callS X59 hx (y := (⟨"operand/SpellingIsAtPinLaw", "pick", "([CICZ)C"⟩ : MethodName)) hown (mvT hZ (hw _ (List.mem_of_getElem? (i := 40) rfl))) (mvT hZ (hw _ (List.mem_of_getElem? (i := 41) rfl))) (mvT hZ (hw _ (List.mem_of_getElem? (i := 42) rfl))) (mvT hZ (hw _ (List.mem_of_getElem? (i := 43) rfl))) (by decide) (backOf (W := 2) (rm5 l Z a0 hw [] b1 (gs p0) ((q3.toInt32).toUInt32.toUInt16.toUInt32.toInt32) (gb160 p4) fv52 N S h59 G61 hS hN7) hZ (hw _ (List.mem_of_getElem? (i := 43) rfl)) (hw _ (List.mem_of_getElem? (i := 42) rfl)) (by decide) (by decide)) (g := (mkF m 168 #[.val (.int p0), .val (.long q1), .second, .val (.long q2), .second, .val (.long q3), .second, .val (.int p4), .val (.int (gn p0)), .val (.int (gk p0)), .val (.int (gs p0)), .val (.ref b1), .val (.ref b59), .unset, .unset, .unset] [(.int (gb160 p4)), (.int ((q3.toInt32).toUInt32.toUInt16.toUInt32.toInt32)), (.int (gs p0)), (.ref b1), (.int (0 : Int32)), (.ref b59)])) rfl (by rw [hml]; rfl) (argsL := [(.ref b1), (.int (gs p0)), (.int ((q3.toInt32).toUInt32.toUInt16.toUInt32.toInt32)), (.int (gb160 p4))]) (rest := [(.int (0 : Int32)), (.ref b59)]) (lenOf pd_1 rfl) rfl (by show 2 * 0 + _ ≤ _; exact Nat.le_of_eq rfl) (hb hby at_168) (fun _ _ => ⟨rfl, e59, (by decide : 2 + 0 ≤ _), (by decide : 10 + 0 ≤ _)⟩)
      dsimp only [Pt.U, Pt.locs, Pt.cells, Pt.slots] at X70 l70 y70 z70 st70 hQ70
      subst l70 y70 z70
      obtain ⟨rfl, rfl, e70⟩ := hQ70
      try rw [List.append_nil] at X70
      obtain ⟨T71, h71, X71, e71, W71, A71, st71⟩ := iaC X70 hx hZ e70 G62 (j := (0 : Int32)) 0 (by decide) (own_ix (by decide) hK hc66) (g := (mkF m 171 #[.val (.int p0), .val (.long q1), .second, .val (.long q2), .second, .val (.long q3), .second, .val (.int p4), .val (.int (gn p0)), .val (.int (gk p0)), .val (.int (gs p0)), .val (.ref b1), .val (.ref b59), .unset, .unset, .unset] [(.int (f5 (gs p0) ((q3.toInt32).toUInt32.toUInt16.toUInt32.toInt32) (gb160 p4) fv52 N S)), (.int (0 : Int32)), (.ref b59)])) rfl rfl (hb hby at_171)
      have G72 : Ia Z h71 b1 .char N fv52 := G61.other W71 ne60
      have G73 : Ia Z h71 b59 .char K (up (fun _ => (0 : Int32)) 0 (nar .char (f5 (gs p0) ((q3.toInt32).toUInt32.toUInt16.toUInt32.toInt32) (gb160 p4) fv52 N S))) := A71
      have Z71 : n0 ≤ h71.size := Nat.le_trans Z59 (Keep.of_wr W71).1
      have N71 := Fr.snoc X71 NM53 gn59
      have K74 : ∀ t, Steps p.tables e below (T71.setTop (mkF m 172 #[.val (.int p0), .val (.long q1), .second, .val (.long q2), .second, .val (.long q3), .second, .val (.int p4), .val (.int (gn p0)), .val (.int (gk p0)), .val (.int (gs p0)), .val (.ref b1), .val (.ref b59), .unset, .unset, .unset] [])) t → Steps p.tables e below (s₁.setTop (mkF m 0 #[.val (.int p0), .val (.long q1), .second, .val (.long q2), .second, .val (.long q3), .second, .val (.int p4), .unset, .unset, .unset, .unset, .unset, .unset, .unset, .unset] [])) t := by
        intro t kt
        refine K69 _ ?_
        show Steps p.tables e below (T59.setTop (mkF m 168 #[.val (.int p0), .val (.long q1), .second, .val (.long q2), .second, .val (.long q3), .second, .val (.int p4), .val (.int (gn p0)), .val (.int (gk p0)), .val (.int (gs p0)), .val (.ref b1), .val (.ref b59), .unset, .unset, .unset] [(.int (gb160 p4)), (.int ((q3.toInt32).toUInt32.toUInt16.toUInt32.toInt32)), (.int (gs p0)), (.ref b1), (.int (0 : Int32)), (.ref b59)])) _
        refine st70 _ ?_
        show Steps p.tables e below (T70.setTop (mkF m 171 #[.val (.int p0), .val (.long q1), .second, .val (.long q2), .second, .val (.long q3), .second, .val (.int p4), .val (.int (gn p0)), .val (.int (gk p0)), .val (.int (gs p0)), .val (.ref b1), .val (.ref b59), .unset, .unset, .unset] [(.int (f5 (gs p0) ((q3.toInt32).toUInt32.toUInt16.toUInt32.toInt32) (gb160 p4) fv52 N S)), (.int (0 : Int32)), (.ref b59)])) _
        refine st71 _ ?_
        exact kt
      exact ⟨(up (fun _ => (0 : Int32)) 0 (nar .char (f5 (gs p0) ((q3.toInt32).toUInt32.toUInt16.toUInt32.toInt32) (gb160 p4) fv52 N S))), T71, h71, _, X71, e71, N71, Z71, G72, G73, K74⟩
    · skip
      have K75 : ∀ t, Steps p.tables e below (T59.setTop (mkF m 172 #[.val (.int p0), .val (.long q1), .second, .val (.long q2), .second, .val (.long q3), .second, .val (.int p4), .val (.int (gn p0)), .val (.int (gk p0)), .val (.int (gs p0)), .val (.ref b1), .val (.ref b59), .unset, .unset, .unset] [])) t → Steps p.tables e below (s₁.setTop (mkF m 0 #[.val (.int p0), .val (.long q1), .second, .val (.long q2), .second, .val (.long q3), .second, .val (.int p4), .unset, .unset, .unset, .unset, .unset, .unset, .unset, .unset] [])) t := by
        intro t kt
        refine K63 _ ?_
        show Steps p.tables e below (T59.setTop (mkF m 142 #[.val (.int p0), .val (.long q1), .second, .val (.long q2), .second, .val (.long q3), .second, .val (.int p4), .val (.int (gn p0)), .val (.int (gk p0)), .val (.int (gs p0)), .val (.ref b1), .val (.ref b59), .unset, .unset, .unset] [(.int (gk p0))])) _
        refine XS.ifYes X59.here hx rfl (pc0 := 142) (pc' := 172) rfl (hb hby at_142) rfl ((if0 _ _).trans (flt hc66).2.2.2) (by decide) (by decide) ?_
        exact kt
      exact ⟨(fun _ => (0 : Int32)), T59, h59, _, X59, e59, NM53, Z59, G61, G62, K75⟩
  have K76 : ∀ t, Steps p.tables e below (TM65.setTop (mkF m 175 #[.val (.int p0), .val (.long q1), .second, .val (.long q2), .second, .val (.long q3), .second, .val (.int p4), .val (.int (gn p0)), .val (.int (gk p0)), .val (.int (gs p0)), .val (.ref b1), .val (.ref b59), .unset, .unset, .unset] [(.int (1 : Int32)), (.int (gk p0))])) t → Steps p.tables e below (s₁.setTop (mkF m 0 #[.val (.int p0), .val (.long q1), .second, .val (.long q2), .second, .val (.long q3), .second, .val (.int p4), .unset, .unset, .unset, .unset, .unset, .unset, .unset, .unset] [])) t := by
    intro t kt
    refine KM65 _ ?_
    show Steps p.tables e below (TM65.setTop (mkF m 172 #[.val (.int p0), .val (.long q1), .second, .val (.long q2), .second, .val (.long q3), .second, .val (.int p4), .val (.int (gn p0)), .val (.int (gk p0)), .val (.int (gs p0)), .val (.ref b1), .val (.ref b59), .unset, .unset, .unset] [])) _
    refine XS.iload XM65.here hx rfl (hb hby at_172) rfl ?_
    show Steps p.tables e below (TM65.setTop (mkF m 174 #[.val (.int p0), .val (.long q1), .second, .val (.long q2), .second, .val (.long q3), .second, .val (.int p4), .val (.int (gn p0)), .val (.int (gk p0)), .val (.int (gs p0)), .val (.ref b1), .val (.ref b59), .unset, .unset, .unset] [(.int (gk p0))])) _
    refine XS.iconst XM65.here hx rfl (hb hby at_174) ?_
    exact kt
  obtain ⟨fv77, TM78, hM78, LM78, XM78, eM78, NM78, ZM78, qM78_0, qM78_1, KM78⟩ : ∃ (fv77 : Nat → Int32) (T' : State) (h' : Heap) (L' : List Loc), Stand p l e room_1 s m #[(.int p0), (.long q1), (.long q2), (.long q3), (.int p4)] below meth c T' L' 2 10 ∧ T'.heap = h' ∧ Fr n0 L' ∧ n0 ≤ h'.size ∧ Ia Z h' b1 .char N fv52 ∧ Ia Z h' b59 .char K fv77 ∧ ∀ t, Steps p.tables e below (T'.setTop (mkF m 210 #[.val (.int p0), .val (.long q1), .second, .val (.long q2), .second, .val (.long q3), .second, .val (.int p4), .val (.int (gn p0)), .val (.int (gk p0)), .val (.int (gs p0)), .val (.ref b1), .val (.ref b59), .unset, .unset, .unset] [])) t → Steps p.tables e below (s₁.setTop (mkF m 0 #[.val (.int p0), .val (.long q1), .second, .val (.long q2), .second, .val (.long q3), .second, .val (.int p4), .unset, .unset, .unset, .unset, .unset, .unset, .unset, .unset] [])) t := by
    by_cases hc79 : (1 : Int32) < (gk p0)
    · skip
      have K80 : ∀ t, Steps p.tables e below (TM65.setTop (mkF m 198 #[.val (.int p0), .val (.long q1), .second, .val (.long q2), .second, .val (.long q3), .second, .val (.int p4), .val (.int (gn p0)), .val (.int (gk p0)), .val (.int (gs p0)), .val (.ref b1), .val (.ref b59), .unset, .unset, .unset] [(.int (p4 &&& (2 : Int32))), (.int ((((q3.toUInt64 >>> ((16 : Int32) &&& 0x3f).toInt64.toUInt64).toInt64).toInt32).toUInt32.toUInt16.toUInt32.toInt32)), (.int ((gs p0) + (1 : Int32))), (.ref b1), (.int (1 : Int32)), (.ref b59)])) t → Steps p.tables e below (s₁.setTop (mkF m 0 #[.val (.int p0), .val (.long q1), .second, .val (.long q2), .second, .val (.long q3), .second, .val (.int p4), .unset, .unset, .unset, .unset, .unset, .unset, .unset, .unset] [])) t := by
        intro t kt
        refine K76 _ ?_
        show Steps p.tables e below (TM65.setTop (mkF m 175 #[.val (.int p0), .val (.long q1), .second, .val (.long q2), .second, .val (.long q3), .second, .val (.int p4), .val (.int (gn p0)), .val (.int (gk p0)), .val (.int (gs p0)), .val (.ref b1), .val (.ref b59), .unset, .unset, .unset] [(.int (1 : Int32)), (.int (gk p0))])) _
        refine XS.icmpNo XM65.here hx rfl (hb hby at_175) rfl (tlt hc79).2.2.2 ?_
        show Steps p.tables e below (TM65.setTop (mkF m 178 #[.val (.int p0), .val (.long q1), .second, .val (.long q2), .second, .val (.long q3), .second, .val (.int p4), .val (.int (gn p0)), .val (.int (gk p0)), .val (.int (gs p0)), .val (.ref b1), .val (.ref b59), .unset, .unset, .unset] [])) _
        refine XS.aload XM65.here hx rfl (hb hby at_178) rfl rfl ?_
        show Steps p.tables e below (TM65.setTop (mkF m 180 #[.val (.int p0), .val (.long q1), .second, .val (.long q2), .second, .val (.long q3), .second, .val (.int p4), .val (.int (gn p0)), .val (.int (gk p0)), .val (.int (gs p0)), .val (.ref b1), .val (.ref b59), .unset, .unset, .unset] [(.ref b59)])) _
        refine XS.iconst XM65.here hx rfl (hb hby at_180) ?_
        show Steps p.tables e below (TM65.setTop (mkF m 181 #[.val (.int p0), .val (.long q1), .second, .val (.long q2), .second, .val (.long q3), .second, .val (.int p4), .val (.int (gn p0)), .val (.int (gk p0)), .val (.int (gs p0)), .val (.ref b1), .val (.ref b59), .unset, .unset, .unset] [(.int (1 : Int32)), (.ref b59)])) _
        refine XS.aload XM65.here hx rfl (hb hby at_181) rfl rfl ?_
        show Steps p.tables e below (TM65.setTop (mkF m 183 #[.val (.int p0), .val (.long q1), .second, .val (.long q2), .second, .val (.long q3), .second, .val (.int p4), .val (.int (gn p0)), .val (.int (gk p0)), .val (.int (gs p0)), .val (.ref b1), .val (.ref b59), .unset, .unset, .unset] [(.ref b1), (.int (1 : Int32)), (.ref b59)])) _
        refine XS.iload XM65.here hx rfl (hb hby at_183) rfl ?_
        show Steps p.tables e below (TM65.setTop (mkF m 185 #[.val (.int p0), .val (.long q1), .second, .val (.long q2), .second, .val (.long q3), .second, .val (.int p4), .val (.int (gn p0)), .val (.int (gk p0)), .val (.int (gs p0)), .val (.ref b1), .val (.ref b59), .unset, .unset, .unset] [(.int (gs p0)), (.ref b1), (.int (1 : Int32)), (.ref b59)])) _
        refine XS.iconst XM65.here hx rfl (hb hby at_185) ?_
        show Steps p.tables e below (TM65.setTop (mkF m 186 #[.val (.int p0), .val (.long q1), .second, .val (.long q2), .second, .val (.long q3), .second, .val (.int p4), .val (.int (gn p0)), .val (.int (gk p0)), .val (.int (gs p0)), .val (.ref b1), .val (.ref b59), .unset, .unset, .unset] [(.int (1 : Int32)), (.int (gs p0)), (.ref b1), (.int (1 : Int32)), (.ref b59)])) _
        refine XS.iadd XM65.here hx rfl (hb hby at_186) rfl ?_
        show Steps p.tables e below (TM65.setTop (mkF m 187 #[.val (.int p0), .val (.long q1), .second, .val (.long q2), .second, .val (.long q3), .second, .val (.int p4), .val (.int (gn p0)), .val (.int (gk p0)), .val (.int (gs p0)), .val (.ref b1), .val (.ref b59), .unset, .unset, .unset] [(.int ((gs p0) + (1 : Int32))), (.ref b1), (.int (1 : Int32)), (.ref b59)])) _
        refine XS.lload XM65.here hx rfl (hb hby at_187) rfl ?_
        show Steps p.tables e below (TM65.setTop (mkF m 189 #[.val (.int p0), .val (.long q1), .second, .val (.long q2), .second, .val (.long q3), .second, .val (.int p4), .val (.int (gn p0)), .val (.int (gk p0)), .val (.int (gs p0)), .val (.ref b1), .val (.ref b59), .unset, .unset, .unset] [(.long q3), (.int ((gs p0) + (1 : Int32))), (.ref b1), (.int (1 : Int32)), (.ref b59)])) _
        refine XS.bipush XM65.here hx rfl (hb hby at_189) ?_
        show Steps p.tables e below (TM65.setTop (mkF m 191 #[.val (.int p0), .val (.long q1), .second, .val (.long q2), .second, .val (.long q3), .second, .val (.int p4), .val (.int (gn p0)), .val (.int (gk p0)), .val (.int (gs p0)), .val (.ref b1), .val (.ref b59), .unset, .unset, .unset] [(.int (16 : Int32)), (.long q3), (.int ((gs p0) + (1 : Int32))), (.ref b1), (.int (1 : Int32)), (.ref b59)])) _
        refine XS.lushr XM65.here hx rfl (hb hby at_191) rfl ?_
        show Steps p.tables e below (TM65.setTop (mkF m 192 #[.val (.int p0), .val (.long q1), .second, .val (.long q2), .second, .val (.long q3), .second, .val (.int p4), .val (.int (gn p0)), .val (.int (gk p0)), .val (.int (gs p0)), .val (.ref b1), .val (.ref b59), .unset, .unset, .unset] [(.long ((q3.toUInt64 >>> ((16 : Int32) &&& 0x3f).toInt64.toUInt64).toInt64)), (.int ((gs p0) + (1 : Int32))), (.ref b1), (.int (1 : Int32)), (.ref b59)])) _
        refine XS.l2i XM65.here hx rfl (hb hby at_192) rfl ?_
        show Steps p.tables e below (TM65.setTop (mkF m 193 #[.val (.int p0), .val (.long q1), .second, .val (.long q2), .second, .val (.long q3), .second, .val (.int p4), .val (.int (gn p0)), .val (.int (gk p0)), .val (.int (gs p0)), .val (.ref b1), .val (.ref b59), .unset, .unset, .unset] [(.int (((q3.toUInt64 >>> ((16 : Int32) &&& 0x3f).toInt64.toUInt64).toInt64).toInt32)), (.int ((gs p0) + (1 : Int32))), (.ref b1), (.int (1 : Int32)), (.ref b59)])) _
        refine XS.i2c XM65.here hx rfl (hb hby at_193) rfl ?_
        show Steps p.tables e below (TM65.setTop (mkF m 194 #[.val (.int p0), .val (.long q1), .second, .val (.long q2), .second, .val (.long q3), .second, .val (.int p4), .val (.int (gn p0)), .val (.int (gk p0)), .val (.int (gs p0)), .val (.ref b1), .val (.ref b59), .unset, .unset, .unset] [(.int ((((q3.toUInt64 >>> ((16 : Int32) &&& 0x3f).toInt64.toUInt64).toInt64).toInt32).toUInt32.toUInt16.toUInt32.toInt32)), (.int ((gs p0) + (1 : Int32))), (.ref b1), (.int (1 : Int32)), (.ref b59)])) _
        refine XS.iload XM65.here hx rfl (hb hby at_194) rfl ?_
        show Steps p.tables e below (TM65.setTop (mkF m 196 #[.val (.int p0), .val (.long q1), .second, .val (.long q2), .second, .val (.long q3), .second, .val (.int p4), .val (.int (gn p0)), .val (.int (gk p0)), .val (.int (gs p0)), .val (.ref b1), .val (.ref b59), .unset, .unset, .unset] [(.int p4), (.int ((((q3.toUInt64 >>> ((16 : Int32) &&& 0x3f).toInt64.toUInt64).toInt64).toInt32).toUInt32.toUInt16.toUInt32.toInt32)), (.int ((gs p0) + (1 : Int32))), (.ref b1), (.int (1 : Int32)), (.ref b59)])) _
        refine XS.iconst XM65.here hx rfl (hb hby at_196) ?_
        show Steps p.tables e below (TM65.setTop (mkF m 197 #[.val (.int p0), .val (.long q1), .second, .val (.long q2), .second, .val (.long q3), .second, .val (.int p4), .val (.int (gn p0)), .val (.int (gk p0)), .val (.int (gs p0)), .val (.ref b1), .val (.ref b59), .unset, .unset, .unset] [(.int (2 : Int32)), (.int p4), (.int ((((q3.toUInt64 >>> ((16 : Int32) &&& 0x3f).toInt64.toUInt64).toInt64).toInt32).toUInt32.toUInt16.toUInt32.toInt32)), (.int ((gs p0) + (1 : Int32))), (.ref b1), (.int (1 : Int32)), (.ref b59)])) _
        refine XS.iand XM65.here hx rfl (hb hby at_197) rfl ?_
        exact kt
      have K82 : ∀ t, Steps p.tables e below (TM65.setTop (mkF m 206 #[.val (.int p0), .val (.long q1), .second, .val (.long q2), .second, .val (.long q3), .second, .val (.int p4), .val (.int (gn p0)), .val (.int (gk p0)), .val (.int (gs p0)), .val (.ref b1), .val (.ref b59), .unset, .unset, .unset] [(.int (gb198 p4)), (.int ((((q3.toUInt64 >>> ((16 : Int32) &&& 0x3f).toInt64.toUInt64).toInt64).toInt32).toUInt32.toUInt16.toUInt32.toInt32)), (.int ((gs p0) + (1 : Int32))), (.ref b1), (.int (1 : Int32)), (.ref b59)])) t → Steps p.tables e below (s₁.setTop (mkF m 0 #[.val (.int p0), .val (.long q1), .second, .val (.long q2), .second, .val (.long q3), .second, .val (.int p4), .unset, .unset, .unset, .unset, .unset, .unset, .unset, .unset] [])) t := by
        intro t kt
        by_cases hc81 : (p4 &&& (2 : Int32)) = (0 : Int32)
        · skip
          simp only [gb198, if_pos hc81] at kt
          refine K80 _ ?_
          show Steps p.tables e below (TM65.setTop (mkF m 198 #[.val (.int p0), .val (.long q1), .second, .val (.long q2), .second, .val (.long q3), .second, .val (.int p4), .val (.int (gn p0)), .val (.int (gk p0)), .val (.int (gs p0)), .val (.ref b1), .val (.ref b59), .unset, .unset, .unset] [(.int (p4 &&& (2 : Int32))), (.int ((((q3.toUInt64 >>> ((16 : Int32) &&& 0x3f).toInt64.toUInt64).toInt64).toInt32).toUInt32.toUInt16.toUInt32.toInt32)), (.int ((gs p0) + (1 : Int32))), (.ref b1), (.int (1 : Int32)), (.ref b59)])) _
          refine XS.ifYes XM65.here hx rfl (pc0 := 198) (pc' := 205) rfl (hb hby at_198) rfl ((if0 _ _).trans (teq hc81).1) (by decide) (by decide) ?_
          show Steps p.tables e below (TM65.setTop (mkF m 205 #[.val (.int p0), .val (.long q1), .second, .val (.long q2), .second, .val (.long q3), .second, .val (.int p4), .val (.int (gn p0)), .val (.int (gk p0)), .val (.int (gs p0)), .val (.ref b1), .val (.ref b59), .unset, .unset, .unset] [(.int ((((q3.toUInt64 >>> ((16 : Int32) &&& 0x3f).toInt64.toUInt64).toInt64).toInt32).toUInt32.toUInt16.toUInt32.toInt32)), (.int ((gs p0) + (1 : Int32))), (.ref b1), (.int (1 : Int32)), (.ref b59)])) _
          refine XS.iconst XM65.here hx rfl (hb hby at_205) ?_
          exact kt
        · skip
          simp only [gb198, if_neg hc81] at kt
          refine K80 _ ?_
          show Steps p.tables e below (TM65.setTop (mkF m 198 #[.val (.int p0), .val (.long q1), .second, .val (.long q2), .second, .val (.long q3), .second, .val (.int p4), .val (.int (gn p0)), .val (.int (gk p0)), .val (.int (gs p0)), .val (.ref b1), .val (.ref b59), .unset, .unset, .unset] [(.int (p4 &&& (2 : Int32))), (.int ((((q3.toUInt64 >>> ((16 : Int32) &&& 0x3f).toInt64.toUInt64).toInt64).toInt32).toUInt32.toUInt16.toUInt32.toInt32)), (.int ((gs p0) + (1 : Int32))), (.ref b1), (.int (1 : Int32)), (.ref b59)])) _
          refine XS.ifNo XM65.here hx rfl (hb hby at_198) rfl ((if0 _ _).trans (feq hc81).1) ?_
          show Steps p.tables e below (TM65.setTop (mkF m 201 #[.val (.int p0), .val (.long q1), .second, .val (.long q2), .second, .val (.long q3), .second, .val (.int p4), .val (.int (gn p0)), .val (.int (gk p0)), .val (.int (gs p0)), .val (.ref b1), .val (.ref b59), .unset, .unset, .unset] [(.int ((((q3.toUInt64 >>> ((16 : Int32) &&& 0x3f).toInt64.toUInt64).toInt64).toInt32).toUInt32.toUInt16.toUInt32.toInt32)), (.int ((gs p0) + (1 : Int32))), (.ref b1), (.int (1 : Int32)), (.ref b59)])) _
          refine XS.iconst XM65.here hx rfl (hb hby at_201) ?_
          show Steps p.tables e below (TM65.setTop (mkF m 202 #[.val (.int p0), .val (.long q1), .second, .val (.long q2), .second, .val (.long q3), .second, .val (.int p4), .val (.int (gn p0)), .val (.int (gk p0)), .val (.int (gs p0)), .val (.ref b1), .val (.ref b59), .unset, .unset, .unset] [(.int (1 : Int32)), (.int ((((q3.toUInt64 >>> ((16 : Int32) &&& 0x3f).toInt64.toUInt64).toInt64).toInt32).toUInt32.toUInt16.toUInt32.toInt32)), (.int ((gs p0) + (1 : Int32))), (.ref b1), (.int (1 : Int32)), (.ref b59)])) _
          refine XS.goto XM65.here hx rfl (pc0 := 202) (pc' := 206) rfl (hb hby at_202) (by decide) (by decide) ?_
          exact kt
      obtain ⟨_, _, ⟨T83, L83, k83, n83⟩, -, X83, ⟨Lc83, hQ83, l83, y83, z83⟩, st83⟩ := Jvm.LawKit.callS XM65 hx (y := (⟨"operand/SpellingIsAtPinLaw", "pick", "([CICZ)C"⟩ : MethodName)) hown (mvT hZ (hw _ (List.mem_of_getElem? (i := 40) rfl))) (mvT hZ (hw _ (List.mem_of_getElem? (i := 41) rfl))) (mvT hZ (hw _ (List.mem_of_getElem? (i := 42) rfl))) (mvT hZ (hw _ (List.mem_of_getElem? (i := 43) rfl))) (by decide) (backOf (W := 2) (rm5 l Z a0 hw [] b1 ((gs p0) + (1 : Int32)) ((((q3.toUInt64 >>> ((16 : Int32) &&& 0x3f).toInt64.toUInt64).toInt64).toInt32).toUInt32.toUInt16.toUInt32.toInt32) (gb198 p4) fv52 N (S + 1) hM65 qM65_0 (own_add hS (by decide) (by omega) (by decide)) hN7) hZ (hw _ (List.mem_of_getElem? (i := 43) rfl)) (hw _ (List.mem_of_getElem? (i := 42) rfl)) (by decide) (by decide)) (g := (mkF m 206 #[.val (.int p0), .val (.long q1), .second, .val (.long q2), .second, .val (.long q3), .second, .val (.int p4), .val (.int (gn p0)), .val (.int (gk p0)), .val (.int (gs p0)), .val (.ref b1), .val (.ref b59), .unset, .unset, .unset] [(.int (gb198 p4)), (.int ((((q3.toUInt64 >>> ((16 : Int32) &&& 0x3f).toInt64.toUInt64).toInt64).toInt32).toUInt32.toUInt16.toUInt32.toInt32)), (.int ((gs p0) + (1 : Int32))), (.ref b1), (.int (1 : Int32)), (.ref b59)])) rfl (by rw [hml]; rfl) (argsL := [(.ref b1), (.int ((gs p0) + (1 : Int32))), (.int ((((q3.toUInt64 >>> ((16 : Int32) &&& 0x3f).toInt64.toUInt64).toInt64).toInt32).toUInt32.toUInt16.toUInt32.toInt32)), (.int (gb198 p4))]) (rest := [(.int (1 : Int32)), (.ref b59)]) (lenOf pd_1 rfl) rfl (by show 2 * 0 + _ ≤ _; exact Nat.le_of_eq rfl) (hb hby at_206) (fun _ _ => ⟨rfl, eM65, (by decide : 2 + 0 ≤ _), (by decide : 10 + 0 ≤ _)⟩)
      dsimp only [Pt.U, Pt.locs, Pt.cells, Pt.slots] at X83 l83 y83 z83 st83 hQ83
      subst l83 y83 z83
      obtain ⟨rfl, rfl, e83⟩ := hQ83
      try rw [List.append_nil] at X83
      obtain ⟨T84, h84, X84, e84, W84, A84, st84⟩ := iaC X83 hx hZ e83 qM65_1 (j := (1 : Int32)) 1 (by decide) (own_ix (by decide) hK hc79) (g := (mkF m 209 #[.val (.int p0), .val (.long q1), .second, .val (.long q2), .second, .val (.long q3), .second, .val (.int p4), .val (.int (gn p0)), .val (.int (gk p0)), .val (.int (gs p0)), .val (.ref b1), .val (.ref b59), .unset, .unset, .unset] [(.int (f5 ((gs p0) + (1 : Int32)) ((((q3.toUInt64 >>> ((16 : Int32) &&& 0x3f).toInt64.toUInt64).toInt64).toInt32).toUInt32.toUInt16.toUInt32.toInt32) (gb198 p4) fv52 N (S + 1))), (.int (1 : Int32)), (.ref b59)])) rfl rfl (hb hby at_209)
      have G85 : Ia Z h84 b1 .char N fv52 := qM65_0.other W84 ne60
      have G86 : Ia Z h84 b59 .char K (up fv64 1 (nar .char (f5 ((gs p0) + (1 : Int32)) ((((q3.toUInt64 >>> ((16 : Int32) &&& 0x3f).toInt64.toUInt64).toInt64).toInt32).toUInt32.toUInt16.toUInt32.toInt32) (gb198 p4) fv52 N (S + 1)))) := A84
      have Z84 : n0 ≤ h84.size := Nat.le_trans ZM65 (Keep.of_wr W84).1
      have N84 := Fr.snoc X84 NM65 gn59
      have K87 : ∀ t, Steps p.tables e below (T84.setTop (mkF m 210 #[.val (.int p0), .val (.long q1), .second, .val (.long q2), .second, .val (.long q3), .second, .val (.int p4), .val (.int (gn p0)), .val (.int (gk p0)), .val (.int (gs p0)), .val (.ref b1), .val (.ref b59), .unset, .unset, .unset] [])) t → Steps p.tables e below (s₁.setTop (mkF m 0 #[.val (.int p0), .val (.long q1), .second, .val (.long q2), .second, .val (.long q3), .second, .val (.int p4), .unset, .unset, .unset, .unset, .unset, .unset, .unset, .unset] [])) t := by
        intro t kt
        refine K82 _ ?_
        show Steps p.tables e below (TM65.setTop (mkF m 206 #[.val (.int p0), .val (.long q1), .second, .val (.long q2), .second, .val (.long q3), .second, .val (.int p4), .val (.int (gn p0)), .val (.int (gk p0)), .val (.int (gs p0)), .val (.ref b1), .val (.ref b59), .unset, .unset, .unset] [(.int (gb198 p4)), (.int ((((q3.toUInt64 >>> ((16 : Int32) &&& 0x3f).toInt64.toUInt64).toInt64).toInt32).toUInt32.toUInt16.toUInt32.toInt32)), (.int ((gs p0) + (1 : Int32))), (.ref b1), (.int (1 : Int32)), (.ref b59)])) _
        refine st83 _ ?_
        show Steps p.tables e below (T83.setTop (mkF m 209 #[.val (.int p0), .val (.long q1), .second, .val (.long q2), .second, .val (.long q3), .second, .val (.int p4), .val (.int (gn p0)), .val (.int (gk p0)), .val (.int (gs p0)), .val (.ref b1), .val (.ref b59), .unset, .unset, .unset] [(.int (f5 ((gs p0) + (1 : Int32)) ((((q3.toUInt64 >>> ((16 : Int32) &&& 0x3f).toInt64.toUInt64).toInt64).toInt32).toUInt32.toUInt16.toUInt32.toInt32) (gb198 p4) fv52 N (S + 1))), (.int (1 : Int32)), (.ref b59)])) _
        refine st84 _ ?_
        exact kt
      exact ⟨(up fv64 1 (nar .char (f5 ((gs p0) + (1 : Int32)) ((((q3.toUInt64 >>> ((16 : Int32) &&& 0x3f).toInt64.toUInt64).toInt64).toInt32).toUInt32.toUInt16.toUInt32.toInt32) (gb198 p4) fv52 N (S + 1)))), T84, h84, _, X84, e84, N84, Z84, G85, G86, K87⟩
    · skip
      have K88 : ∀ t, Steps p.tables e below (TM65.setTop (mkF m 210 #[.val (.int p0), .val (.long q1), .second, .val (.long q2), .second, .val (.long q3), .second, .val (.int p4), .val (.int (gn p0)), .val (.int (gk p0)), .val (.int (gs p0)), .val (.ref b1), .val (.ref b59), .unset, .unset, .unset] [])) t → Steps p.tables e below (s₁.setTop (mkF m 0 #[.val (.int p0), .val (.long q1), .second, .val (.long q2), .second, .val (.long q3), .second, .val (.int p4), .unset, .unset, .unset, .unset, .unset, .unset, .unset, .unset] [])) t := by
        intro t kt
        refine K76 _ ?_
        show Steps p.tables e below (TM65.setTop (mkF m 175 #[.val (.int p0), .val (.long q1), .second, .val (.long q2), .second, .val (.long q3), .second, .val (.int p4), .val (.int (gn p0)), .val (.int (gk p0)), .val (.int (gs p0)), .val (.ref b1), .val (.ref b59), .unset, .unset, .unset] [(.int (1 : Int32)), (.int (gk p0))])) _
        refine XS.icmpYes XM65.here hx rfl (pc0 := 175) (pc' := 210) rfl (hb hby at_175) rfl (flt hc79).2.2.2 (by decide) (by decide) ?_
        exact kt
      exact ⟨fv64, TM65, hM65, _, XM65, eM65, NM65, ZM65, qM65_0, qM65_1, K88⟩
  have K89 : ∀ t, Steps p.tables e below (TM78.setTop (mkF m 213 #[.val (.int p0), .val (.long q1), .second, .val (.long q2), .second, .val (.long q3), .second, .val (.int p4), .val (.int (gn p0)), .val (.int (gk p0)), .val (.int (gs p0)), .val (.ref b1), .val (.ref b59), .unset, .unset, .unset] [(.int (2 : Int32)), (.int (gk p0))])) t → Steps p.tables e below (s₁.setTop (mkF m 0 #[.val (.int p0), .val (.long q1), .second, .val (.long q2), .second, .val (.long q3), .second, .val (.int p4), .unset, .unset, .unset, .unset, .unset, .unset, .unset, .unset] [])) t := by
    intro t kt
    refine KM78 _ ?_
    show Steps p.tables e below (TM78.setTop (mkF m 210 #[.val (.int p0), .val (.long q1), .second, .val (.long q2), .second, .val (.long q3), .second, .val (.int p4), .val (.int (gn p0)), .val (.int (gk p0)), .val (.int (gs p0)), .val (.ref b1), .val (.ref b59), .unset, .unset, .unset] [])) _
    refine XS.iload XM78.here hx rfl (hb hby at_210) rfl ?_
    show Steps p.tables e below (TM78.setTop (mkF m 212 #[.val (.int p0), .val (.long q1), .second, .val (.long q2), .second, .val (.long q3), .second, .val (.int p4), .val (.int (gn p0)), .val (.int (gk p0)), .val (.int (gs p0)), .val (.ref b1), .val (.ref b59), .unset, .unset, .unset] [(.int (gk p0))])) _
    refine XS.iconst XM78.here hx rfl (hb hby at_212) ?_
    exact kt
  obtain ⟨fv90, TM91, hM91, LM91, XM91, eM91, NM91, ZM91, qM91_0, qM91_1, KM91⟩ : ∃ (fv90 : Nat → Int32) (T' : State) (h' : Heap) (L' : List Loc), Stand p l e room_1 s m #[(.int p0), (.long q1), (.long q2), (.long q3), (.int p4)] below meth c T' L' 2 10 ∧ T'.heap = h' ∧ Fr n0 L' ∧ n0 ≤ h'.size ∧ Ia Z h' b1 .char N fv52 ∧ Ia Z h' b59 .char K fv90 ∧ ∀ t, Steps p.tables e below (T'.setTop (mkF m 248 #[.val (.int p0), .val (.long q1), .second, .val (.long q2), .second, .val (.long q3), .second, .val (.int p4), .val (.int (gn p0)), .val (.int (gk p0)), .val (.int (gs p0)), .val (.ref b1), .val (.ref b59), .unset, .unset, .unset] [])) t → Steps p.tables e below (s₁.setTop (mkF m 0 #[.val (.int p0), .val (.long q1), .second, .val (.long q2), .second, .val (.long q3), .second, .val (.int p4), .unset, .unset, .unset, .unset, .unset, .unset, .unset, .unset] [])) t := by
    by_cases hc92 : (2 : Int32) < (gk p0)
    · skip
      have K93 : ∀ t, Steps p.tables e below (TM78.setTop (mkF m 236 #[.val (.int p0), .val (.long q1), .second, .val (.long q2), .second, .val (.long q3), .second, .val (.int p4), .val (.int (gn p0)), .val (.int (gk p0)), .val (.int (gs p0)), .val (.ref b1), .val (.ref b59), .unset, .unset, .unset] [(.int (p4 &&& (4 : Int32))), (.int ((((q3.toUInt64 >>> ((32 : Int32) &&& 0x3f).toInt64.toUInt64).toInt64).toInt32).toUInt32.toUInt16.toUInt32.toInt32)), (.int ((gs p0) + (2 : Int32))), (.ref b1), (.int (2 : Int32)), (.ref b59)])) t → Steps p.tables e below (s₁.setTop (mkF m 0 #[.val (.int p0), .val (.long q1), .second, .val (.long q2), .second, .val (.long q3), .second, .val (.int p4), .unset, .unset, .unset, .unset, .unset, .unset, .unset, .unset] [])) t := by
        intro t kt
        refine K89 _ ?_
        show Steps p.tables e below (TM78.setTop (mkF m 213 #[.val (.int p0), .val (.long q1), .second, .val (.long q2), .second, .val (.long q3), .second, .val (.int p4), .val (.int (gn p0)), .val (.int (gk p0)), .val (.int (gs p0)), .val (.ref b1), .val (.ref b59), .unset, .unset, .unset] [(.int (2 : Int32)), (.int (gk p0))])) _
        refine XS.icmpNo XM78.here hx rfl (hb hby at_213) rfl (tlt hc92).2.2.2 ?_
        show Steps p.tables e below (TM78.setTop (mkF m 216 #[.val (.int p0), .val (.long q1), .second, .val (.long q2), .second, .val (.long q3), .second, .val (.int p4), .val (.int (gn p0)), .val (.int (gk p0)), .val (.int (gs p0)), .val (.ref b1), .val (.ref b59), .unset, .unset, .unset] [])) _
        refine XS.aload XM78.here hx rfl (hb hby at_216) rfl rfl ?_
        show Steps p.tables e below (TM78.setTop (mkF m 218 #[.val (.int p0), .val (.long q1), .second, .val (.long q2), .second, .val (.long q3), .second, .val (.int p4), .val (.int (gn p0)), .val (.int (gk p0)), .val (.int (gs p0)), .val (.ref b1), .val (.ref b59), .unset, .unset, .unset] [(.ref b59)])) _
        refine XS.iconst XM78.here hx rfl (hb hby at_218) ?_
        show Steps p.tables e below (TM78.setTop (mkF m 219 #[.val (.int p0), .val (.long q1), .second, .val (.long q2), .second, .val (.long q3), .second, .val (.int p4), .val (.int (gn p0)), .val (.int (gk p0)), .val (.int (gs p0)), .val (.ref b1), .val (.ref b59), .unset, .unset, .unset] [(.int (2 : Int32)), (.ref b59)])) _
        refine XS.aload XM78.here hx rfl (hb hby at_219) rfl rfl ?_
        show Steps p.tables e below (TM78.setTop (mkF m 221 #[.val (.int p0), .val (.long q1), .second, .val (.long q2), .second, .val (.long q3), .second, .val (.int p4), .val (.int (gn p0)), .val (.int (gk p0)), .val (.int (gs p0)), .val (.ref b1), .val (.ref b59), .unset, .unset, .unset] [(.ref b1), (.int (2 : Int32)), (.ref b59)])) _
        refine XS.iload XM78.here hx rfl (hb hby at_221) rfl ?_
        show Steps p.tables e below (TM78.setTop (mkF m 223 #[.val (.int p0), .val (.long q1), .second, .val (.long q2), .second, .val (.long q3), .second, .val (.int p4), .val (.int (gn p0)), .val (.int (gk p0)), .val (.int (gs p0)), .val (.ref b1), .val (.ref b59), .unset, .unset, .unset] [(.int (gs p0)), (.ref b1), (.int (2 : Int32)), (.ref b59)])) _
        refine XS.iconst XM78.here hx rfl (hb hby at_223) ?_
        show Steps p.tables e below (TM78.setTop (mkF m 224 #[.val (.int p0), .val (.long q1), .second, .val (.long q2), .second, .val (.long q3), .second, .val (.int p4), .val (.int (gn p0)), .val (.int (gk p0)), .val (.int (gs p0)), .val (.ref b1), .val (.ref b59), .unset, .unset, .unset] [(.int (2 : Int32)), (.int (gs p0)), (.ref b1), (.int (2 : Int32)), (.ref b59)])) _
        refine XS.iadd XM78.here hx rfl (hb hby at_224) rfl ?_
        show Steps p.tables e below (TM78.setTop (mkF m 225 #[.val (.int p0), .val (.long q1), .second, .val (.long q2), .second, .val (.long q3), .second, .val (.int p4), .val (.int (gn p0)), .val (.int (gk p0)), .val (.int (gs p0)), .val (.ref b1), .val (.ref b59), .unset, .unset, .unset] [(.int ((gs p0) + (2 : Int32))), (.ref b1), (.int (2 : Int32)), (.ref b59)])) _
        refine XS.lload XM78.here hx rfl (hb hby at_225) rfl ?_
        show Steps p.tables e below (TM78.setTop (mkF m 227 #[.val (.int p0), .val (.long q1), .second, .val (.long q2), .second, .val (.long q3), .second, .val (.int p4), .val (.int (gn p0)), .val (.int (gk p0)), .val (.int (gs p0)), .val (.ref b1), .val (.ref b59), .unset, .unset, .unset] [(.long q3), (.int ((gs p0) + (2 : Int32))), (.ref b1), (.int (2 : Int32)), (.ref b59)])) _
        refine XS.bipush XM78.here hx rfl (hb hby at_227) ?_
        show Steps p.tables e below (TM78.setTop (mkF m 229 #[.val (.int p0), .val (.long q1), .second, .val (.long q2), .second, .val (.long q3), .second, .val (.int p4), .val (.int (gn p0)), .val (.int (gk p0)), .val (.int (gs p0)), .val (.ref b1), .val (.ref b59), .unset, .unset, .unset] [(.int (32 : Int32)), (.long q3), (.int ((gs p0) + (2 : Int32))), (.ref b1), (.int (2 : Int32)), (.ref b59)])) _
        refine XS.lushr XM78.here hx rfl (hb hby at_229) rfl ?_
        show Steps p.tables e below (TM78.setTop (mkF m 230 #[.val (.int p0), .val (.long q1), .second, .val (.long q2), .second, .val (.long q3), .second, .val (.int p4), .val (.int (gn p0)), .val (.int (gk p0)), .val (.int (gs p0)), .val (.ref b1), .val (.ref b59), .unset, .unset, .unset] [(.long ((q3.toUInt64 >>> ((32 : Int32) &&& 0x3f).toInt64.toUInt64).toInt64)), (.int ((gs p0) + (2 : Int32))), (.ref b1), (.int (2 : Int32)), (.ref b59)])) _
        refine XS.l2i XM78.here hx rfl (hb hby at_230) rfl ?_
        show Steps p.tables e below (TM78.setTop (mkF m 231 #[.val (.int p0), .val (.long q1), .second, .val (.long q2), .second, .val (.long q3), .second, .val (.int p4), .val (.int (gn p0)), .val (.int (gk p0)), .val (.int (gs p0)), .val (.ref b1), .val (.ref b59), .unset, .unset, .unset] [(.int (((q3.toUInt64 >>> ((32 : Int32) &&& 0x3f).toInt64.toUInt64).toInt64).toInt32)), (.int ((gs p0) + (2 : Int32))), (.ref b1), (.int (2 : Int32)), (.ref b59)])) _
        refine XS.i2c XM78.here hx rfl (hb hby at_231) rfl ?_
        show Steps p.tables e below (TM78.setTop (mkF m 232 #[.val (.int p0), .val (.long q1), .second, .val (.long q2), .second, .val (.long q3), .second, .val (.int p4), .val (.int (gn p0)), .val (.int (gk p0)), .val (.int (gs p0)), .val (.ref b1), .val (.ref b59), .unset, .unset, .unset] [(.int ((((q3.toUInt64 >>> ((32 : Int32) &&& 0x3f).toInt64.toUInt64).toInt64).toInt32).toUInt32.toUInt16.toUInt32.toInt32)), (.int ((gs p0) + (2 : Int32))), (.ref b1), (.int (2 : Int32)), (.ref b59)])) _
        refine XS.iload XM78.here hx rfl (hb hby at_232) rfl ?_
        show Steps p.tables e below (TM78.setTop (mkF m 234 #[.val (.int p0), .val (.long q1), .second, .val (.long q2), .second, .val (.long q3), .second, .val (.int p4), .val (.int (gn p0)), .val (.int (gk p0)), .val (.int (gs p0)), .val (.ref b1), .val (.ref b59), .unset, .unset, .unset] [(.int p4), (.int ((((q3.toUInt64 >>> ((32 : Int32) &&& 0x3f).toInt64.toUInt64).toInt64).toInt32).toUInt32.toUInt16.toUInt32.toInt32)), (.int ((gs p0) + (2 : Int32))), (.ref b1), (.int (2 : Int32)), (.ref b59)])) _
        refine XS.iconst XM78.here hx rfl (hb hby at_234) ?_
        show Steps p.tables e below (TM78.setTop (mkF m 235 #[.val (.int p0), .val (.long q1), .second, .val (.long q2), .second, .val (.long q3), .second, .val (.int p4), .val (.int (gn p0)), .val (.int (gk p0)), .val (.int (gs p0)), .val (.ref b1), .val (.ref b59), .unset, .unset, .unset] [(.int (4 : Int32)), (.int p4), (.int ((((q3.toUInt64 >>> ((32 : Int32) &&& 0x3f).toInt64.toUInt64).toInt64).toInt32).toUInt32.toUInt16.toUInt32.toInt32)), (.int ((gs p0) + (2 : Int32))), (.ref b1), (.int (2 : Int32)), (.ref b59)])) _
        refine XS.iand XM78.here hx rfl (hb hby at_235) rfl ?_
        exact kt
      have K95 : ∀ t, Steps p.tables e below (TM78.setTop (mkF m 244 #[.val (.int p0), .val (.long q1), .second, .val (.long q2), .second, .val (.long q3), .second, .val (.int p4), .val (.int (gn p0)), .val (.int (gk p0)), .val (.int (gs p0)), .val (.ref b1), .val (.ref b59), .unset, .unset, .unset] [(.int (gb236 p4)), (.int ((((q3.toUInt64 >>> ((32 : Int32) &&& 0x3f).toInt64.toUInt64).toInt64).toInt32).toUInt32.toUInt16.toUInt32.toInt32)), (.int ((gs p0) + (2 : Int32))), (.ref b1), (.int (2 : Int32)), (.ref b59)])) t → Steps p.tables e below (s₁.setTop (mkF m 0 #[.val (.int p0), .val (.long q1), .second, .val (.long q2), .second, .val (.long q3), .second, .val (.int p4), .unset, .unset, .unset, .unset, .unset, .unset, .unset, .unset] [])) t := by
        intro t kt
        by_cases hc94 : (p4 &&& (4 : Int32)) = (0 : Int32)
        · skip
          simp only [gb236, if_pos hc94] at kt
          refine K93 _ ?_
          show Steps p.tables e below (TM78.setTop (mkF m 236 #[.val (.int p0), .val (.long q1), .second, .val (.long q2), .second, .val (.long q3), .second, .val (.int p4), .val (.int (gn p0)), .val (.int (gk p0)), .val (.int (gs p0)), .val (.ref b1), .val (.ref b59), .unset, .unset, .unset] [(.int (p4 &&& (4 : Int32))), (.int ((((q3.toUInt64 >>> ((32 : Int32) &&& 0x3f).toInt64.toUInt64).toInt64).toInt32).toUInt32.toUInt16.toUInt32.toInt32)), (.int ((gs p0) + (2 : Int32))), (.ref b1), (.int (2 : Int32)), (.ref b59)])) _
          refine XS.ifYes XM78.here hx rfl (pc0 := 236) (pc' := 243) rfl (hb hby at_236) rfl ((if0 _ _).trans (teq hc94).1) (by decide) (by decide) ?_
          show Steps p.tables e below (TM78.setTop (mkF m 243 #[.val (.int p0), .val (.long q1), .second, .val (.long q2), .second, .val (.long q3), .second, .val (.int p4), .val (.int (gn p0)), .val (.int (gk p0)), .val (.int (gs p0)), .val (.ref b1), .val (.ref b59), .unset, .unset, .unset] [(.int ((((q3.toUInt64 >>> ((32 : Int32) &&& 0x3f).toInt64.toUInt64).toInt64).toInt32).toUInt32.toUInt16.toUInt32.toInt32)), (.int ((gs p0) + (2 : Int32))), (.ref b1), (.int (2 : Int32)), (.ref b59)])) _
          refine XS.iconst XM78.here hx rfl (hb hby at_243) ?_
          exact kt
        · skip
          simp only [gb236, if_neg hc94] at kt
          refine K93 _ ?_
          show Steps p.tables e below (TM78.setTop (mkF m 236 #[.val (.int p0), .val (.long q1), .second, .val (.long q2), .second, .val (.long q3), .second, .val (.int p4), .val (.int (gn p0)), .val (.int (gk p0)), .val (.int (gs p0)), .val (.ref b1), .val (.ref b59), .unset, .unset, .unset] [(.int (p4 &&& (4 : Int32))), (.int ((((q3.toUInt64 >>> ((32 : Int32) &&& 0x3f).toInt64.toUInt64).toInt64).toInt32).toUInt32.toUInt16.toUInt32.toInt32)), (.int ((gs p0) + (2 : Int32))), (.ref b1), (.int (2 : Int32)), (.ref b59)])) _
          refine XS.ifNo XM78.here hx rfl (hb hby at_236) rfl ((if0 _ _).trans (feq hc94).1) ?_
          show Steps p.tables e below (TM78.setTop (mkF m 239 #[.val (.int p0), .val (.long q1), .second, .val (.long q2), .second, .val (.long q3), .second, .val (.int p4), .val (.int (gn p0)), .val (.int (gk p0)), .val (.int (gs p0)), .val (.ref b1), .val (.ref b59), .unset, .unset, .unset] [(.int ((((q3.toUInt64 >>> ((32 : Int32) &&& 0x3f).toInt64.toUInt64).toInt64).toInt32).toUInt32.toUInt16.toUInt32.toInt32)), (.int ((gs p0) + (2 : Int32))), (.ref b1), (.int (2 : Int32)), (.ref b59)])) _
          refine XS.iconst XM78.here hx rfl (hb hby at_239) ?_
          show Steps p.tables e below (TM78.setTop (mkF m 240 #[.val (.int p0), .val (.long q1), .second, .val (.long q2), .second, .val (.long q3), .second, .val (.int p4), .val (.int (gn p0)), .val (.int (gk p0)), .val (.int (gs p0)), .val (.ref b1), .val (.ref b59), .unset, .unset, .unset] [(.int (1 : Int32)), (.int ((((q3.toUInt64 >>> ((32 : Int32) &&& 0x3f).toInt64.toUInt64).toInt64).toInt32).toUInt32.toUInt16.toUInt32.toInt32)), (.int ((gs p0) + (2 : Int32))), (.ref b1), (.int (2 : Int32)), (.ref b59)])) _
          refine XS.goto XM78.here hx rfl (pc0 := 240) (pc' := 244) rfl (hb hby at_240) (by decide) (by decide) ?_
          exact kt
      obtain ⟨_, _, ⟨T96, L96, k96, n96⟩, -, X96, ⟨Lc96, hQ96, l96, y96, z96⟩, st96⟩ := Jvm.LawKit.callS XM78 hx (y := (⟨"operand/SpellingIsAtPinLaw", "pick", "([CICZ)C"⟩ : MethodName)) hown (mvT hZ (hw _ (List.mem_of_getElem? (i := 40) rfl))) (mvT hZ (hw _ (List.mem_of_getElem? (i := 41) rfl))) (mvT hZ (hw _ (List.mem_of_getElem? (i := 42) rfl))) (mvT hZ (hw _ (List.mem_of_getElem? (i := 43) rfl))) (by decide) (backOf (W := 2) (rm5 l Z a0 hw [] b1 ((gs p0) + (2 : Int32)) ((((q3.toUInt64 >>> ((32 : Int32) &&& 0x3f).toInt64.toUInt64).toInt64).toInt32).toUInt32.toUInt16.toUInt32.toInt32) (gb236 p4) fv52 N (S + 2) hM78 qM78_0 (own_add hS (by decide) (by omega) (by decide)) hN7) hZ (hw _ (List.mem_of_getElem? (i := 43) rfl)) (hw _ (List.mem_of_getElem? (i := 42) rfl)) (by decide) (by decide)) (g := (mkF m 244 #[.val (.int p0), .val (.long q1), .second, .val (.long q2), .second, .val (.long q3), .second, .val (.int p4), .val (.int (gn p0)), .val (.int (gk p0)), .val (.int (gs p0)), .val (.ref b1), .val (.ref b59), .unset, .unset, .unset] [(.int (gb236 p4)), (.int ((((q3.toUInt64 >>> ((32 : Int32) &&& 0x3f).toInt64.toUInt64).toInt64).toInt32).toUInt32.toUInt16.toUInt32.toInt32)), (.int ((gs p0) + (2 : Int32))), (.ref b1), (.int (2 : Int32)), (.ref b59)])) rfl (by rw [hml]; rfl) (argsL := [(.ref b1), (.int ((gs p0) + (2 : Int32))), (.int ((((q3.toUInt64 >>> ((32 : Int32) &&& 0x3f).toInt64.toUInt64).toInt64).toInt32).toUInt32.toUInt16.toUInt32.toInt32)), (.int (gb236 p4))]) (rest := [(.int (2 : Int32)), (.ref b59)]) (lenOf pd_1 rfl) rfl (by show 2 * 0 + _ ≤ _; exact Nat.le_of_eq rfl) (hb hby at_244) (fun _ _ => ⟨rfl, eM78, (by decide : 2 + 0 ≤ _), (by decide : 10 + 0 ≤ _)⟩)
      dsimp only [Pt.U, Pt.locs, Pt.cells, Pt.slots] at X96 l96 y96 z96 st96 hQ96
      subst l96 y96 z96
      obtain ⟨rfl, rfl, e96⟩ := hQ96
      try rw [List.append_nil] at X96
      obtain ⟨T97, h97, X97, e97, W97, A97, st97⟩ := iaC X96 hx hZ e96 qM78_1 (j := (2 : Int32)) 2 (by decide) (own_ix (by decide) hK hc92) (g := (mkF m 247 #[.val (.int p0), .val (.long q1), .second, .val (.long q2), .second, .val (.long q3), .second, .val (.int p4), .val (.int (gn p0)), .val (.int (gk p0)), .val (.int (gs p0)), .val (.ref b1), .val (.ref b59), .unset, .unset, .unset] [(.int (f5 ((gs p0) + (2 : Int32)) ((((q3.toUInt64 >>> ((32 : Int32) &&& 0x3f).toInt64.toUInt64).toInt64).toInt32).toUInt32.toUInt16.toUInt32.toInt32) (gb236 p4) fv52 N (S + 2))), (.int (2 : Int32)), (.ref b59)])) rfl rfl (hb hby at_247)
      have G98 : Ia Z h97 b1 .char N fv52 := qM78_0.other W97 ne60
      have G99 : Ia Z h97 b59 .char K (up fv77 2 (nar .char (f5 ((gs p0) + (2 : Int32)) ((((q3.toUInt64 >>> ((32 : Int32) &&& 0x3f).toInt64.toUInt64).toInt64).toInt32).toUInt32.toUInt16.toUInt32.toInt32) (gb236 p4) fv52 N (S + 2)))) := A97
      have Z97 : n0 ≤ h97.size := Nat.le_trans ZM78 (Keep.of_wr W97).1
      have N97 := Fr.snoc X97 NM78 gn59
      have K100 : ∀ t, Steps p.tables e below (T97.setTop (mkF m 248 #[.val (.int p0), .val (.long q1), .second, .val (.long q2), .second, .val (.long q3), .second, .val (.int p4), .val (.int (gn p0)), .val (.int (gk p0)), .val (.int (gs p0)), .val (.ref b1), .val (.ref b59), .unset, .unset, .unset] [])) t → Steps p.tables e below (s₁.setTop (mkF m 0 #[.val (.int p0), .val (.long q1), .second, .val (.long q2), .second, .val (.long q3), .second, .val (.int p4), .unset, .unset, .unset, .unset, .unset, .unset, .unset, .unset] [])) t := by
        intro t kt
        refine K95 _ ?_
        show Steps p.tables e below (TM78.setTop (mkF m 244 #[.val (.int p0), .val (.long q1), .second, .val (.long q2), .second, .val (.long q3), .second, .val (.int p4), .val (.int (gn p0)), .val (.int (gk p0)), .val (.int (gs p0)), .val (.ref b1), .val (.ref b59), .unset, .unset, .unset] [(.int (gb236 p4)), (.int ((((q3.toUInt64 >>> ((32 : Int32) &&& 0x3f).toInt64.toUInt64).toInt64).toInt32).toUInt32.toUInt16.toUInt32.toInt32)), (.int ((gs p0) + (2 : Int32))), (.ref b1), (.int (2 : Int32)), (.ref b59)])) _
        refine st96 _ ?_
        show Steps p.tables e below (T96.setTop (mkF m 247 #[.val (.int p0), .val (.long q1), .second, .val (.long q2), .second, .val (.long q3), .second, .val (.int p4), .val (.int (gn p0)), .val (.int (gk p0)), .val (.int (gs p0)), .val (.ref b1), .val (.ref b59), .unset, .unset, .unset] [(.int (f5 ((gs p0) + (2 : Int32)) ((((q3.toUInt64 >>> ((32 : Int32) &&& 0x3f).toInt64.toUInt64).toInt64).toInt32).toUInt32.toUInt16.toUInt32.toInt32) (gb236 p4) fv52 N (S + 2))), (.int (2 : Int32)), (.ref b59)])) _
        refine st97 _ ?_
        exact kt
      exact ⟨(up fv77 2 (nar .char (f5 ((gs p0) + (2 : Int32)) ((((q3.toUInt64 >>> ((32 : Int32) &&& 0x3f).toInt64.toUInt64).toInt64).toInt32).toUInt32.toUInt16.toUInt32.toInt32) (gb236 p4) fv52 N (S + 2)))), T97, h97, _, X97, e97, N97, Z97, G98, G99, K100⟩
    · skip
      have K101 : ∀ t, Steps p.tables e below (TM78.setTop (mkF m 248 #[.val (.int p0), .val (.long q1), .second, .val (.long q2), .second, .val (.long q3), .second, .val (.int p4), .val (.int (gn p0)), .val (.int (gk p0)), .val (.int (gs p0)), .val (.ref b1), .val (.ref b59), .unset, .unset, .unset] [])) t → Steps p.tables e below (s₁.setTop (mkF m 0 #[.val (.int p0), .val (.long q1), .second, .val (.long q2), .second, .val (.long q3), .second, .val (.int p4), .unset, .unset, .unset, .unset, .unset, .unset, .unset, .unset] [])) t := by
        intro t kt
        refine K89 _ ?_
        show Steps p.tables e below (TM78.setTop (mkF m 213 #[.val (.int p0), .val (.long q1), .second, .val (.long q2), .second, .val (.long q3), .second, .val (.int p4), .val (.int (gn p0)), .val (.int (gk p0)), .val (.int (gs p0)), .val (.ref b1), .val (.ref b59), .unset, .unset, .unset] [(.int (2 : Int32)), (.int (gk p0))])) _
        refine XS.icmpYes XM78.here hx rfl (pc0 := 213) (pc' := 248) rfl (hb hby at_213) rfl (flt hc92).2.2.2 (by decide) (by decide) ?_
        exact kt
      exact ⟨fv77, TM78, hM78, _, XM78, eM78, NM78, ZM78, qM78_0, qM78_1, K101⟩
  obtain ⟨T102, h102, X102, e102, E102, A102, D102, -, st102⟩ := newO XM91 hx hZ hown (hw _ (List.mem_of_getElem? (i := 1) rfl)) (hw _ (List.mem_of_getElem? (i := 2) rfl)) (hw _ (List.mem_of_getElem? (i := 3) rfl)) eM91 (g := (mkF m 248 #[.val (.int p0), .val (.long q1), .second, .val (.long q2), .second, .val (.long q3), .second, .val (.int p4), .val (.int (gn p0)), .val (.int (gk p0)), .val (.int (gs p0)), .val (.ref b1), .val (.ref b59), .unset, .unset, .unset] [])) rfl (hb hby at_248) (by decide) (by decide)
  obtain ⟨b102, g102⟩ : ∃ z, z = hM91.size := ⟨_, rfl⟩
  rw [← g102] at A102 D102 st102
  have ne103 : b1 ≠ b102 := Nat.ne_of_lt (Nat.lt_of_lt_of_le qM91_0.lt (Nat.le_of_eq g102.symm))
  have ne104 : b59 ≠ b102 := Nat.ne_of_lt (Nat.lt_of_lt_of_le qM91_1.lt (Nat.le_of_eq g102.symm))
  have gn102 : n0 ≤ b102 := Nat.le_trans ZM91 (Nat.le_of_eq g102.symm)
  have Z102 : n0 ≤ h102.size := Nat.le_trans ZM91 E102.1
  have G105 : Ia Z h102 b1 .char N fv52 := qM91_0.ext E102
  have G106 : Ia Z h102 b59 .char K fv90 := qM91_1.ext E102
  have F102_text : Fld Z h102 b102 "operand/Spelling" "text" "Ljava/lang/String;" .null := D102 (Or.inr (hw _ (List.mem_of_getElem? (i := 24) rfl))) (ty := (.object "java/lang/String")) (by decide)
  have F102_characters : Fld Z h102 b102 "operand/Spelling" "characters" "[C" .null := D102 (Or.inr (hw _ (List.mem_of_getElem? (i := 26) rfl))) (ty := (.array .char)) (by decide)
  have F102_key : Fld Z h102 b102 "operand/Spelling" "key" "J" (.long (0 : Int64)) := D102 (Or.inr (hw _ (List.mem_of_getElem? (i := 28) rfl))) (ty := .long) (by decide)
  have F102_binary : Fld Z h102 b102 "operand/Spelling" "binary" "Loperand/Operator;" .null := D102 (Or.inr (hw _ (List.mem_of_getElem? (i := 30) rfl))) (ty := (.object "operand/Operator")) (by decide)
  have F102_prefix : Fld Z h102 b102 "operand/Spelling" "prefix" "Loperand/PrefixOperator;" .null := D102 (Or.inr (hw _ (List.mem_of_getElem? (i := 32) rfl))) (ty := (.object "operand/PrefixOperator")) (by decide)
  have F102_reserved : Fld Z h102 b102 "operand/Spelling" "reserved" "Z" (.int (0 : Int32)) := D102 (Or.inr (hw _ (List.mem_of_getElem? (i := 34) rfl))) (ty := .boolean) (by decide)
  obtain ⟨a107, T107, h107, k107, X107, e107, E107, hS107, hk107, hZ, hown, st107⟩ := ldcS (s := s) (vm0 := s.vm) X102 hx hZ hown (hw _ (List.mem_of_getElem? (i := 4) rfl)) wS e102 ((State.WarmedH.refl s).since 0) (Nat.zero_le _) (g := (mkF m 252 #[.val (.int p0), .val (.long q1), .second, .val (.long q2), .second, .val (.long q3), .second, .val (.int p4), .val (.int (gn p0)), .val (.int (gk p0)), .val (.int (gs p0)), .val (.ref b1), .val (.ref b59), .unset, .unset, .unset] [(.ref b102), (.ref b102)])) rfl (hb hby at_252) (n := 0) (by decide) (by decide) (by decide) (by decide)
  have Z107 : n0 ≤ h107.size := Nat.le_trans Z102 E107.1
  have G108 : Ia Z h107 b1 .char N fv52 := G105.ext E107
  have G109 : Ia Z h107 b59 .char K fv90 := G106.ext E107
  have G110 : Exa Z h107 b102 "operand/Spelling" := A102.ext E107
  have G111 : Fld Z h107 b102 "operand/Spelling" "text" "Ljava/lang/String;" .null := F102_text.ext E107
  have G112 : Fld Z h107 b102 "operand/Spelling" "characters" "[C" .null := F102_characters.ext E107
  have G113 : Fld Z h107 b102 "operand/Spelling" "key" "J" (.long (0 : Int64)) := F102_key.ext E107
  have G114 : Fld Z h107 b102 "operand/Spelling" "binary" "Loperand/Operator;" .null := F102_binary.ext E107
  have G115 : Fld Z h107 b102 "operand/Spelling" "prefix" "Loperand/PrefixOperator;" .null := F102_prefix.ext E107
  have G116 : Fld Z h107 b102 "operand/Spelling" "reserved" "Z" (.int (0 : Int32)) := F102_reserved.ext E107
  obtain ⟨_, _, ⟨T117, L117, k117, n117⟩, -, X117, ⟨Lc117, hQ117, l117, y117, z117⟩, st117⟩ := X107.specialBack hx (y := (⟨"operand/Spelling", "<init>", "(Ljava/lang/String;[CJLoperand/Operator;Loperand/PrefixOperator;Z)V"⟩ : MethodName)) rfl hown (mvT hZ (hw _ (List.mem_of_getElem? (i := 12) rfl))) (mvT hZ (hw _ (List.mem_of_getElem? (i := 13) rfl))) (mvT hZ (hw _ (List.mem_of_getElem? (i := 14) rfl))) (by decide) (backOf (W := 1) (rm1 l Z a0 hw [] b102 a107 b59 (0 : Int64) (0 : Int32) .null .null (.long (0 : Int64)) .null .null (.int (0 : Int32)) h107 n0 Z107 G111 G112 G113 G114 G115 G116 G110 gn102) hZ (hw _ (List.mem_of_getElem? (i := 14) rfl)) (hw _ (List.mem_of_getElem? (i := 3) rfl)) (by decide) (by decide)) (g := (mkF m 260 #[.val (.int p0), .val (.long q1), .second, .val (.long q2), .second, .val (.long q3), .second, .val (.int p4), .val (.int (gn p0)), .val (.int (gk p0)), .val (.int (gs p0)), .val (.ref b1), .val (.ref b59), .unset, .unset, .unset] [(.int (0 : Int32)), .null, .null, (.long (0 : Int64)), (.ref b59), (.ref a107), (.ref b102), (.ref b102)])) rfl (by rw [hml]; rfl) (Steps.refl _) (a := b102) (argsL := [(.ref a107), (.ref b59), (.long (0 : Int64)), .null, .null, (.int (0 : Int32))]) (rest := [(.ref b102)]) (lenOf pd_2 rfl) rfl (by show 2 * 0 + _ ≤ _; exact Nat.le_of_eq rfl) (hb hby at_260) (fun _ _ => ⟨rfl, e107, (by decide : 5 + 0 ≤ _), (by decide : 20 + 0 ≤ _)⟩)
  dsimp only [Pt.U, Pt.locs, Pt.cells, Pt.slots] at X117 l117 y117 z117 st117 hQ117
  subst l117 y117 z117
  obtain ⟨rfl, N117q, K117q, F117q⟩ := hQ117
  have N117 := Fr.app NM91 N117q
  have Z117 : n0 ≤ T117.heap.size := Nat.le_trans Z107 K117q.1
  have KS117 := Nat.le_trans hk107 K117q.1
  have G118 : Ia Z T117.heap b1 .char N fv52 := G108.keep K117q (ninS ne103 nin0)
  have G119 : Ia Z T117.heap b59 .char K fv90 := G109.keep K117q (ninS ne104 nin0)
  have G120 : Exa Z T117.heap b102 "operand/Spelling" := G110.keep K117q
  have K121 : ∀ t, Steps p.tables e below (T117.setTop (mkF m 272 #[.val (.int p0), .val (.long q1), .second, .val (.long q2), .second, .val (.long q3), .second, .val (.int p4), .val (.int (gn p0)), .val (.int (gk p0)), .val (.int (gs p0)), .val (.ref b1), .val (.ref b59), .val (.ref b102), .unset, .unset] [(.int (gn p0)), (.int ((gs p0) + (gk p0)))])) t → Steps p.tables e below (s₁.setTop (mkF m 0 #[.val (.int p0), .val (.long q1), .second, .val (.long q2), .second, .val (.long q3), .second, .val (.int p4), .unset, .unset, .unset, .unset, .unset, .unset, .unset, .unset] [])) t := by
    intro t kt
    refine KM91 _ ?_
    show Steps p.tables e below (TM91.setTop (mkF m 248 #[.val (.int p0), .val (.long q1), .second, .val (.long q2), .second, .val (.long q3), .second, .val (.int p4), .val (.int (gn p0)), .val (.int (gk p0)), .val (.int (gs p0)), .val (.ref b1), .val (.ref b59), .unset, .unset, .unset] [])) _
    refine st102 _ ?_
    show Steps p.tables e below (T102.setTop (mkF m 251 #[.val (.int p0), .val (.long q1), .second, .val (.long q2), .second, .val (.long q3), .second, .val (.int p4), .val (.int (gn p0)), .val (.int (gk p0)), .val (.int (gs p0)), .val (.ref b1), .val (.ref b59), .unset, .unset, .unset] [(.ref b102)])) _
    refine XS.dup X102.here hx rfl (hb hby at_251) rfl rfl ?_
    show Steps p.tables e below (T102.setTop (mkF m 252 #[.val (.int p0), .val (.long q1), .second, .val (.long q2), .second, .val (.long q3), .second, .val (.int p4), .val (.int (gn p0)), .val (.int (gk p0)), .val (.int (gs p0)), .val (.ref b1), .val (.ref b59), .unset, .unset, .unset] [(.ref b102), (.ref b102)])) _
    refine st107 _ ?_
    show Steps p.tables e below (T107.setTop (mkF m 254 #[.val (.int p0), .val (.long q1), .second, .val (.long q2), .second, .val (.long q3), .second, .val (.int p4), .val (.int (gn p0)), .val (.int (gk p0)), .val (.int (gs p0)), .val (.ref b1), .val (.ref b59), .unset, .unset, .unset] [(.ref a107), (.ref b102), (.ref b102)])) _
    refine XS.aload X107.here hx rfl (hb hby at_254) rfl rfl ?_
    show Steps p.tables e below (T107.setTop (mkF m 256 #[.val (.int p0), .val (.long q1), .second, .val (.long q2), .second, .val (.long q3), .second, .val (.int p4), .val (.int (gn p0)), .val (.int (gk p0)), .val (.int (gs p0)), .val (.ref b1), .val (.ref b59), .unset, .unset, .unset] [(.ref b59), (.ref a107), (.ref b102), (.ref b102)])) _
    refine XS.lconst X107.here hx rfl (hb hby at_256) ?_
    show Steps p.tables e below (T107.setTop (mkF m 257 #[.val (.int p0), .val (.long q1), .second, .val (.long q2), .second, .val (.long q3), .second, .val (.int p4), .val (.int (gn p0)), .val (.int (gk p0)), .val (.int (gs p0)), .val (.ref b1), .val (.ref b59), .unset, .unset, .unset] [(.long (0 : Int64)), (.ref b59), (.ref a107), (.ref b102), (.ref b102)])) _
    refine XS.aconstNull X107.here hx rfl (hb hby at_257) ?_
    show Steps p.tables e below (T107.setTop (mkF m 258 #[.val (.int p0), .val (.long q1), .second, .val (.long q2), .second, .val (.long q3), .second, .val (.int p4), .val (.int (gn p0)), .val (.int (gk p0)), .val (.int (gs p0)), .val (.ref b1), .val (.ref b59), .unset, .unset, .unset] [.null, (.long (0 : Int64)), (.ref b59), (.ref a107), (.ref b102), (.ref b102)])) _
    refine XS.aconstNull X107.here hx rfl (hb hby at_258) ?_
    show Steps p.tables e below (T107.setTop (mkF m 259 #[.val (.int p0), .val (.long q1), .second, .val (.long q2), .second, .val (.long q3), .second, .val (.int p4), .val (.int (gn p0)), .val (.int (gk p0)), .val (.int (gs p0)), .val (.ref b1), .val (.ref b59), .unset, .unset, .unset] [.null, .null, (.long (0 : Int64)), (.ref b59), (.ref a107), (.ref b102), (.ref b102)])) _
    refine XS.iconst X107.here hx rfl (hb hby at_259) ?_
    show Steps p.tables e below (T107.setTop (mkF m 260 #[.val (.int p0), .val (.long q1), .second, .val (.long q2), .second, .val (.long q3), .second, .val (.int p4), .val (.int (gn p0)), .val (.int (gk p0)), .val (.int (gs p0)), .val (.ref b1), .val (.ref b59), .unset, .unset, .unset] [(.int (0 : Int32)), .null, .null, (.long (0 : Int64)), (.ref b59), (.ref a107), (.ref b102), (.ref b102)])) _
    refine st117.trans ?_
    show Steps p.tables e below (T117.setTop (mkF m 263 #[.val (.int p0), .val (.long q1), .second, .val (.long q2), .second, .val (.long q3), .second, .val (.int p4), .val (.int (gn p0)), .val (.int (gk p0)), .val (.int (gs p0)), .val (.ref b1), .val (.ref b59), .unset, .unset, .unset] [(.ref b102)])) _
    refine XS.astore X117.here hx rfl (hb hby at_263) rfl rfl (l' := #[.val (.int p0), .val (.long q1), .second, .val (.long q2), .second, .val (.long q3), .second, .val (.int p4), .val (.int (gn p0)), .val (.int (gk p0)), .val (.int (gs p0)), .val (.ref b1), .val (.ref b59), .val (.ref b102), .unset, .unset]) rfl ?_
    show Steps p.tables e below (T117.setTop (mkF m 265 #[.val (.int p0), .val (.long q1), .second, .val (.long q2), .second, .val (.long q3), .second, .val (.int p4), .val (.int (gn p0)), .val (.int (gk p0)), .val (.int (gs p0)), .val (.ref b1), .val (.ref b59), .val (.ref b102), .unset, .unset] [])) _
    refine XS.iload X117.here hx rfl (hb hby at_265) rfl ?_
    show Steps p.tables e below (T117.setTop (mkF m 267 #[.val (.int p0), .val (.long q1), .second, .val (.long q2), .second, .val (.long q3), .second, .val (.int p4), .val (.int (gn p0)), .val (.int (gk p0)), .val (.int (gs p0)), .val (.ref b1), .val (.ref b59), .val (.ref b102), .unset, .unset] [(.int (gs p0))])) _
    refine XS.iload X117.here hx rfl (hb hby at_267) rfl ?_
    show Steps p.tables e below (T117.setTop (mkF m 269 #[.val (.int p0), .val (.long q1), .second, .val (.long q2), .second, .val (.long q3), .second, .val (.int p4), .val (.int (gn p0)), .val (.int (gk p0)), .val (.int (gs p0)), .val (.ref b1), .val (.ref b59), .val (.ref b102), .unset, .unset] [(.int (gk p0)), (.int (gs p0))])) _
    refine XS.iadd X117.here hx rfl (hb hby at_269) rfl ?_
    show Steps p.tables e below (T117.setTop (mkF m 270 #[.val (.int p0), .val (.long q1), .second, .val (.long q2), .second, .val (.long q3), .second, .val (.int p4), .val (.int (gn p0)), .val (.int (gk p0)), .val (.int (gs p0)), .val (.ref b1), .val (.ref b59), .val (.ref b102), .unset, .unset] [(.int ((gs p0) + (gk p0)))])) _
    refine XS.iload X117.here hx rfl (hb hby at_270) rfl ?_
    exact kt
  by_cases hc122 : (gn p0) < ((gs p0) + (gk p0))
  · skip
    have hnf : N < S + K := own_ix hN (own_add hS hK (by omega) (by omega)) hc122
    obtain ⟨cq123, kq123, q123a, q123b, q123c⟩ := isOf hZ rfl G120
    obtain ⟨_, _, ⟨T123, L123, k123, n123⟩, -, X123, ⟨Lc123, hQ123, l123, y123, z123⟩, st123⟩ := X117.virtualBack hx (y := (⟨"operand/Spelling", "isAt", "([CI)Z"⟩ : MethodName)) (z := (⟨"operand/Spelling", "isAt", "([CI)Z"⟩ : MethodName)) hown (mvT hZ (hw _ (List.mem_of_getElem? (i := 35) rfl))) (mvT hZ (hw _ (List.mem_of_getElem? (i := 36) rfl))) (notFace_of_selects (args := #[]) (mvT hZ (hw _ (List.mem_of_getElem? (i := 38) rfl)))) (mvT hZ (hw _ (List.mem_of_getElem? (i := 38) rfl))) (mvT hZ (hw _ (List.mem_of_getElem? (i := 37) rfl))) (by decide) (backOf (W := 0) (rm4 l Z a0 hw [] b102 b1 (gs p0) b59 fv52 fv90 N K S T117.heap n0 Z117 F117q G118 G119 hS hS7 hN7 hK3) hZ (hw _ (List.mem_of_getElem? (i := 39) rfl)) (hw _ (List.mem_of_getElem? (i := 3) rfl)) (by decide) (by decide)) q123a q123c (g := (mkF m 358 #[.val (.int p0), .val (.long q1), .second, .val (.long q2), .second, .val (.long q3), .second, .val (.int p4), .val (.int (gn p0)), .val (.int (gk p0)), .val (.int (gs p0)), .val (.ref b1), .val (.ref b59), .val (.ref b102), .val (.int (0 : Int32)), .val (.int (0 : Int32))] [(.int (gs p0)), (.ref b1), (.ref b102)])) rfl (by rw [hml]; rfl) (Steps.refl _) (argsL := [(.ref b1), (.int (gs p0))]) (rest := []) (lenOf pd_3 rfl) rfl (by show 2 * 0 + _ ≤ _; exact Nat.le_of_eq rfl) (hb hby at_358) (fun _ _ => ⟨rfl, rfl, (by decide : 5 + 0 ≤ _), (by decide : 20 + 0 ≤ _)⟩)
    dsimp only [Pt.U, Pt.locs, Pt.cells, Pt.slots] at X123 l123 y123 z123 st123 hQ123
    subst l123 y123 z123
    obtain ⟨r123, rfl, hr01, hriff, rfl, e123⟩ := hQ123
    try rw [List.append_nil] at X123
    have K124 : ∀ t, Steps p.tables e below (T123.setTop (mkF m 371 #[.val (.int p0), .val (.long q1), .second, .val (.long q2), .second, .val (.long q3), .second, .val (.int p4), .val (.int (gn p0)), .val (.int (gk p0)), .val (.int (gs p0)), .val (.ref b1), .val (.ref b59), .val (.ref b102), .val (.int (0 : Int32)), .val (.int (0 : Int32))] [(.int (1 : Int32))])) t → Steps p.tables e below (s₁.setTop (mkF m 0 #[.val (.int p0), .val (.long q1), .second, .val (.long q2), .second, .val (.long q3), .second, .val (.int p4), .unset, .unset, .unset, .unset, .unset, .unset, .unset, .unset] [])) t := by
      intro t kt
      refine K121 _ ?_
      show Steps p.tables e below (T117.setTop (mkF m 272 #[.val (.int p0), .val (.long q1), .second, .val (.long q2), .second, .val (.long q3), .second, .val (.int p4), .val (.int (gn p0)), .val (.int (gk p0)), .val (.int (gs p0)), .val (.ref b1), .val (.ref b59), .val (.ref b102), .unset, .unset] [(.int (gn p0)), (.int ((gs p0) + (gk p0)))])) _
      refine XS.icmpYes X117.here hx rfl (pc0 := 272) (pc' := 279) rfl (hb hby at_272) rfl (tlt hc122).2.2.1 (by decide) (by decide) ?_
      show Steps p.tables e below (T117.setTop (mkF m 279 #[.val (.int p0), .val (.long q1), .second, .val (.long q2), .second, .val (.long q3), .second, .val (.int p4), .val (.int (gn p0)), .val (.int (gk p0)), .val (.int (gs p0)), .val (.ref b1), .val (.ref b59), .val (.ref b102), .unset, .unset] [])) _
      refine XS.iconst X117.here hx rfl (hb hby at_279) ?_
      show Steps p.tables e below (T117.setTop (mkF m 280 #[.val (.int p0), .val (.long q1), .second, .val (.long q2), .second, .val (.long q3), .second, .val (.int p4), .val (.int (gn p0)), .val (.int (gk p0)), .val (.int (gs p0)), .val (.ref b1), .val (.ref b59), .val (.ref b102), .unset, .unset] [(.int (0 : Int32))])) _
      refine XS.istore X117.here hx rfl (hb hby at_280) rfl (l' := #[.val (.int p0), .val (.long q1), .second, .val (.long q2), .second, .val (.long q3), .second, .val (.int p4), .val (.int (gn p0)), .val (.int (gk p0)), .val (.int (gs p0)), .val (.ref b1), .val (.ref b59), .val (.ref b102), .val (.int (0 : Int32)), .unset]) rfl ?_
      show Steps p.tables e below (T117.setTop (mkF m 282 #[.val (.int p0), .val (.long q1), .second, .val (.long q2), .second, .val (.long q3), .second, .val (.int p4), .val (.int (gn p0)), .val (.int (gk p0)), .val (.int (gs p0)), .val (.ref b1), .val (.ref b59), .val (.ref b102), .val (.int (0 : Int32)), .unset] [])) _
      refine XS.iload X117.here hx rfl (hb hby at_282) rfl ?_
      show Steps p.tables e below (T117.setTop (mkF m 284 #[.val (.int p0), .val (.long q1), .second, .val (.long q2), .second, .val (.long q3), .second, .val (.int p4), .val (.int (gn p0)), .val (.int (gk p0)), .val (.int (gs p0)), .val (.ref b1), .val (.ref b59), .val (.ref b102), .val (.int (0 : Int32)), .unset] [(.int (0 : Int32))])) _
      refine XS.ifYes X117.here hx rfl (pc0 := 284) (pc' := 349) rfl (hb hby at_284) rfl ((if0 _ _).trans (teq (rfl : (0 : Int32) = (0 : Int32))).1) (by decide) (by decide) ?_
      show Steps p.tables e below (T117.setTop (mkF m 349 #[.val (.int p0), .val (.long q1), .second, .val (.long q2), .second, .val (.long q3), .second, .val (.int p4), .val (.int (gn p0)), .val (.int (gk p0)), .val (.int (gs p0)), .val (.ref b1), .val (.ref b59), .val (.ref b102), .val (.int (0 : Int32)), .unset] [])) _
      refine XS.iconst X117.here hx rfl (hb hby at_349) ?_
      show Steps p.tables e below (T117.setTop (mkF m 350 #[.val (.int p0), .val (.long q1), .second, .val (.long q2), .second, .val (.long q3), .second, .val (.int p4), .val (.int (gn p0)), .val (.int (gk p0)), .val (.int (gs p0)), .val (.ref b1), .val (.ref b59), .val (.ref b102), .val (.int (0 : Int32)), .unset] [(.int (0 : Int32))])) _
      refine XS.istore X117.here hx rfl (hb hby at_350) rfl (l' := #[.val (.int p0), .val (.long q1), .second, .val (.long q2), .second, .val (.long q3), .second, .val (.int p4), .val (.int (gn p0)), .val (.int (gk p0)), .val (.int (gs p0)), .val (.ref b1), .val (.ref b59), .val (.ref b102), .val (.int (0 : Int32)), .val (.int (0 : Int32))]) rfl ?_
      show Steps p.tables e below (T117.setTop (mkF m 352 #[.val (.int p0), .val (.long q1), .second, .val (.long q2), .second, .val (.long q3), .second, .val (.int p4), .val (.int (gn p0)), .val (.int (gk p0)), .val (.int (gs p0)), .val (.ref b1), .val (.ref b59), .val (.ref b102), .val (.int (0 : Int32)), .val (.int (0 : Int32))] [])) _
      refine XS.aload X117.here hx rfl (hb hby at_352) rfl rfl ?_
      show Steps p.tables e below (T117.setTop (mkF m 354 #[.val (.int p0), .val (.long q1), .second, .val (.long q2), .second, .val (.long q3), .second, .val (.int p4), .val (.int (gn p0)), .val (.int (gk p0)), .val (.int (gs p0)), .val (.ref b1), .val (.ref b59), .val (.ref b102), .val (.int (0 : Int32)), .val (.int (0 : Int32))] [(.ref b102)])) _
      refine XS.aload X117.here hx rfl (hb hby at_354) rfl rfl ?_
      show Steps p.tables e below (T117.setTop (mkF m 356 #[.val (.int p0), .val (.long q1), .second, .val (.long q2), .second, .val (.long q3), .second, .val (.int p4), .val (.int (gn p0)), .val (.int (gk p0)), .val (.int (gs p0)), .val (.ref b1), .val (.ref b59), .val (.ref b102), .val (.int (0 : Int32)), .val (.int (0 : Int32))] [(.ref b1), (.ref b102)])) _
      refine XS.iload X117.here hx rfl (hb hby at_356) rfl ?_
      show Steps p.tables e below (T117.setTop (mkF m 358 #[.val (.int p0), .val (.long q1), .second, .val (.long q2), .second, .val (.long q3), .second, .val (.int p4), .val (.int (gn p0)), .val (.int (gk p0)), .val (.int (gs p0)), .val (.ref b1), .val (.ref b59), .val (.ref b102), .val (.int (0 : Int32)), .val (.int (0 : Int32))] [(.int (gs p0)), (.ref b1), (.ref b102)])) _
      refine st123.trans ?_
      show Steps p.tables e below (T123.setTop (mkF m 361 #[.val (.int p0), .val (.long q1), .second, .val (.long q2), .second, .val (.long q3), .second, .val (.int p4), .val (.int (gn p0)), .val (.int (gk p0)), .val (.int (gs p0)), .val (.ref b1), .val (.ref b59), .val (.ref b102), .val (.int (0 : Int32)), .val (.int (0 : Int32))] [(.int r123)])) _
      refine XS.iload X123.here hx rfl (hb hby at_361) rfl ?_
      show Steps p.tables e below (T123.setTop (mkF m 363 #[.val (.int p0), .val (.long q1), .second, .val (.long q2), .second, .val (.long q3), .second, .val (.int p4), .val (.int (gn p0)), .val (.int (gk p0)), .val (.int (gs p0)), .val (.ref b1), .val (.ref b59), .val (.ref b102), .val (.int (0 : Int32)), .val (.int (0 : Int32))] [(.int (0 : Int32)), (.int r123)])) _
      refine XS.icmpNo X123.here hx rfl (hb hby at_363) rfl (teq (show r123 = (0 : Int32) from (hr01.resolve_left fun z => by have := (hriff.mp z).1; omega))).2 ?_
      show Steps p.tables e below (T123.setTop (mkF m 366 #[.val (.int p0), .val (.long q1), .second, .val (.long q2), .second, .val (.long q3), .second, .val (.int p4), .val (.int (gn p0)), .val (.int (gk p0)), .val (.int (gs p0)), .val (.ref b1), .val (.ref b59), .val (.ref b102), .val (.int (0 : Int32)), .val (.int (0 : Int32))] [])) _
      refine XS.iconst X123.here hx rfl (hb hby at_366) ?_
      show Steps p.tables e below (T123.setTop (mkF m 367 #[.val (.int p0), .val (.long q1), .second, .val (.long q2), .second, .val (.long q3), .second, .val (.int p4), .val (.int (gn p0)), .val (.int (gk p0)), .val (.int (gs p0)), .val (.ref b1), .val (.ref b59), .val (.ref b102), .val (.int (0 : Int32)), .val (.int (0 : Int32))] [(.int (1 : Int32))])) _
      refine XS.goto X123.here hx rfl (pc0 := 367) (pc' := 371) rfl (hb hby at_367) (by decide) (by decide) ?_
      exact kt
    obtain ⟨fsQ, hr, hrun, hended, hRW⟩ := X123.leaveW (s := s) hS107 (by rw [e123]; exact KS117) (v := some (.int (1 : Int32))) (fun h => by rw [Bd.returns] at h; cases h)
    refine ⟨_, _, pre0 _ (K124 _ ?_), hrun, hended, _, _, rfl, ?_, hRW.1, hRW.2.1, hRW.2.2.1, hRW.2.2.2.mono (by decide) (by decide)⟩
    · show Steps p.tables e below (T123.setTop (mkF m 371 #[.val (.int p0), .val (.long q1), .second, .val (.long q2), .second, .val (.long q3), .second, .val (.int p4), .val (.int (gn p0)), .val (.int (gk p0)), .val (.int (gs p0)), .val (.ref b1), .val (.ref b59), .val (.ref b102), .val (.int (0 : Int32)), .val (.int (0 : Int32))] [(.int (1 : Int32))])) _
      exact retN X123 hx (t := .boolean) Bd.returns (by simp) (hb hby at_371) hr
    · show Q0 Z p0 q1 q2 q3 p4  h0 n0 _ T123.heap _
      rw [e123]
      exact ⟨rfl, N117⟩
  · skip
    have hfit : S + K ≤ N := own_nx hN (own_add hS hK (by omega) (by omega)) hc122
    have K125 : ∀ t, Steps p.tables e below (T117.setTop (mkF m 290 #[.val (.int p0), .val (.long q1), .second, .val (.long q2), .second, .val (.long q3), .second, .val (.int p4), .val (.int (gn p0)), .val (.int (gk p0)), .val (.int (gs p0)), .val (.ref b1), .val (.ref b59), .val (.ref b102), .val (.int (1 : Int32)), .unset] [(.int (1 : Int32)), (.int (gk p0))])) t → Steps p.tables e below (s₁.setTop (mkF m 0 #[.val (.int p0), .val (.long q1), .second, .val (.long q2), .second, .val (.long q3), .second, .val (.int p4), .unset, .unset, .unset, .unset, .unset, .unset, .unset, .unset] [])) t := by
      intro t kt
      refine K121 _ ?_
      show Steps p.tables e below (T117.setTop (mkF m 272 #[.val (.int p0), .val (.long q1), .second, .val (.long q2), .second, .val (.long q3), .second, .val (.int p4), .val (.int (gn p0)), .val (.int (gk p0)), .val (.int (gs p0)), .val (.ref b1), .val (.ref b59), .val (.ref b102), .unset, .unset] [(.int (gn p0)), (.int ((gs p0) + (gk p0)))])) _
      refine XS.icmpNo X117.here hx rfl (hb hby at_272) rfl (flt hc122).2.2.1 ?_
      show Steps p.tables e below (T117.setTop (mkF m 275 #[.val (.int p0), .val (.long q1), .second, .val (.long q2), .second, .val (.long q3), .second, .val (.int p4), .val (.int (gn p0)), .val (.int (gk p0)), .val (.int (gs p0)), .val (.ref b1), .val (.ref b59), .val (.ref b102), .unset, .unset] [])) _
      refine XS.iconst X117.here hx rfl (hb hby at_275) ?_
      show Steps p.tables e below (T117.setTop (mkF m 276 #[.val (.int p0), .val (.long q1), .second, .val (.long q2), .second, .val (.long q3), .second, .val (.int p4), .val (.int (gn p0)), .val (.int (gk p0)), .val (.int (gs p0)), .val (.ref b1), .val (.ref b59), .val (.ref b102), .unset, .unset] [(.int (1 : Int32))])) _
      refine XS.goto X117.here hx rfl (pc0 := 276) (pc' := 280) rfl (hb hby at_276) (by decide) (by decide) ?_
      show Steps p.tables e below (T117.setTop (mkF m 280 #[.val (.int p0), .val (.long q1), .second, .val (.long q2), .second, .val (.long q3), .second, .val (.int p4), .val (.int (gn p0)), .val (.int (gk p0)), .val (.int (gs p0)), .val (.ref b1), .val (.ref b59), .val (.ref b102), .unset, .unset] [(.int (1 : Int32))])) _
      refine XS.istore X117.here hx rfl (hb hby at_280) rfl (l' := #[.val (.int p0), .val (.long q1), .second, .val (.long q2), .second, .val (.long q3), .second, .val (.int p4), .val (.int (gn p0)), .val (.int (gk p0)), .val (.int (gs p0)), .val (.ref b1), .val (.ref b59), .val (.ref b102), .val (.int (1 : Int32)), .unset]) rfl ?_
      show Steps p.tables e below (T117.setTop (mkF m 282 #[.val (.int p0), .val (.long q1), .second, .val (.long q2), .second, .val (.long q3), .second, .val (.int p4), .val (.int (gn p0)), .val (.int (gk p0)), .val (.int (gs p0)), .val (.ref b1), .val (.ref b59), .val (.ref b102), .val (.int (1 : Int32)), .unset] [])) _
      refine XS.iload X117.here hx rfl (hb hby at_282) rfl ?_
      show Steps p.tables e below (T117.setTop (mkF m 284 #[.val (.int p0), .val (.long q1), .second, .val (.long q2), .second, .val (.long q3), .second, .val (.int p4), .val (.int (gn p0)), .val (.int (gk p0)), .val (.int (gs p0)), .val (.ref b1), .val (.ref b59), .val (.ref b102), .val (.int (1 : Int32)), .unset] [(.int (1 : Int32))])) _
      refine XS.ifNo X117.here hx rfl (hb hby at_284) rfl ((if0 _ _).trans (feq (by decide : ¬ ((1 : Int32) = (0 : Int32)))).1) ?_
      show Steps p.tables e below (T117.setTop (mkF m 287 #[.val (.int p0), .val (.long q1), .second, .val (.long q2), .second, .val (.long q3), .second, .val (.int p4), .val (.int (gn p0)), .val (.int (gk p0)), .val (.int (gs p0)), .val (.ref b1), .val (.ref b59), .val (.ref b102), .val (.int (1 : Int32)), .unset] [])) _
      refine XS.iload X117.here hx rfl (hb hby at_287) rfl ?_
      show Steps p.tables e below (T117.setTop (mkF m 289 #[.val (.int p0), .val (.long q1), .second, .val (.long q2), .second, .val (.long q3), .second, .val (.int p4), .val (.int (gn p0)), .val (.int (gk p0)), .val (.int (gs p0)), .val (.ref b1), .val (.ref b59), .val (.ref b102), .val (.int (1 : Int32)), .unset] [(.int (gk p0))])) _
      refine XS.iconst X117.here hx rfl (hb hby at_289) ?_
      exact kt
    by_cases hc126 : (gk p0) < (1 : Int32)
    · skip
      have K127 : ∀ t, Steps p.tables e below (T117.setTop (mkF m 308 #[.val (.int p0), .val (.long q1), .second, .val (.long q2), .second, .val (.long q3), .second, .val (.int p4), .val (.int (gn p0)), .val (.int (gk p0)), .val (.int (gs p0)), .val (.ref b1), .val (.ref b59), .val (.ref b102), .val (.int (1 : Int32)), .unset] [(.int (2 : Int32)), (.int (gk p0))])) t → Steps p.tables e below (s₁.setTop (mkF m 0 #[.val (.int p0), .val (.long q1), .second, .val (.long q2), .second, .val (.long q3), .second, .val (.int p4), .unset, .unset, .unset, .unset, .unset, .unset, .unset, .unset] [])) t := by
        intro t kt
        refine K125 _ ?_
        show Steps p.tables e below (T117.setTop (mkF m 290 #[.val (.int p0), .val (.long q1), .second, .val (.long q2), .second, .val (.long q3), .second, .val (.int p4), .val (.int (gn p0)), .val (.int (gk p0)), .val (.int (gs p0)), .val (.ref b1), .val (.ref b59), .val (.ref b102), .val (.int (1 : Int32)), .unset] [(.int (1 : Int32)), (.int (gk p0))])) _
        refine XS.icmpYes X117.here hx rfl (pc0 := 290) (pc' := 305) rfl (hb hby at_290) rfl (tlt hc126).1 (by decide) (by decide) ?_
        show Steps p.tables e below (T117.setTop (mkF m 305 #[.val (.int p0), .val (.long q1), .second, .val (.long q2), .second, .val (.long q3), .second, .val (.int p4), .val (.int (gn p0)), .val (.int (gk p0)), .val (.int (gs p0)), .val (.ref b1), .val (.ref b59), .val (.ref b102), .val (.int (1 : Int32)), .unset] [])) _
        refine XS.iload X117.here hx rfl (hb hby at_305) rfl ?_
        show Steps p.tables e below (T117.setTop (mkF m 307 #[.val (.int p0), .val (.long q1), .second, .val (.long q2), .second, .val (.long q3), .second, .val (.int p4), .val (.int (gn p0)), .val (.int (gk p0)), .val (.int (gs p0)), .val (.ref b1), .val (.ref b59), .val (.ref b102), .val (.int (1 : Int32)), .unset] [(.int (gk p0))])) _
        refine XS.iconst X117.here hx rfl (hb hby at_307) ?_
        exact kt
      by_cases hc128 : (gk p0) < (2 : Int32)
      · skip
        have K129 : ∀ t, Steps p.tables e below (T117.setTop (mkF m 328 #[.val (.int p0), .val (.long q1), .second, .val (.long q2), .second, .val (.long q3), .second, .val (.int p4), .val (.int (gn p0)), .val (.int (gk p0)), .val (.int (gs p0)), .val (.ref b1), .val (.ref b59), .val (.ref b102), .val (.int (1 : Int32)), .unset] [(.int (3 : Int32)), (.int (gk p0))])) t → Steps p.tables e below (s₁.setTop (mkF m 0 #[.val (.int p0), .val (.long q1), .second, .val (.long q2), .second, .val (.long q3), .second, .val (.int p4), .unset, .unset, .unset, .unset, .unset, .unset, .unset, .unset] [])) t := by
          intro t kt
          refine K127 _ ?_
          show Steps p.tables e below (T117.setTop (mkF m 308 #[.val (.int p0), .val (.long q1), .second, .val (.long q2), .second, .val (.long q3), .second, .val (.int p4), .val (.int (gn p0)), .val (.int (gk p0)), .val (.int (gs p0)), .val (.ref b1), .val (.ref b59), .val (.ref b102), .val (.int (1 : Int32)), .unset] [(.int (2 : Int32)), (.int (gk p0))])) _
          refine XS.icmpYes X117.here hx rfl (pc0 := 308) (pc' := 325) rfl (hb hby at_308) rfl (tlt hc128).1 (by decide) (by decide) ?_
          show Steps p.tables e below (T117.setTop (mkF m 325 #[.val (.int p0), .val (.long q1), .second, .val (.long q2), .second, .val (.long q3), .second, .val (.int p4), .val (.int (gn p0)), .val (.int (gk p0)), .val (.int (gs p0)), .val (.ref b1), .val (.ref b59), .val (.ref b102), .val (.int (1 : Int32)), .unset] [])) _
          refine XS.iload X117.here hx rfl (hb hby at_325) rfl ?_
          show Steps p.tables e below (T117.setTop (mkF m 327 #[.val (.int p0), .val (.long q1), .second, .val (.long q2), .second, .val (.long q3), .second, .val (.int p4), .val (.int (gn p0)), .val (.int (gk p0)), .val (.int (gs p0)), .val (.ref b1), .val (.ref b59), .val (.ref b102), .val (.int (1 : Int32)), .unset] [(.int (gk p0))])) _
          refine XS.iconst X117.here hx rfl (hb hby at_327) ?_
          exact kt
        by_cases hc130 : (gk p0) < (3 : Int32)
        · skip
          obtain ⟨cq131, kq131, q131a, q131b, q131c⟩ := isOf hZ rfl G120
          obtain ⟨_, _, ⟨T131, L131, k131, n131⟩, -, X131, ⟨Lc131, hQ131, l131, y131, z131⟩, st131⟩ := X117.virtualBack hx (y := (⟨"operand/Spelling", "isAt", "([CI)Z"⟩ : MethodName)) (z := (⟨"operand/Spelling", "isAt", "([CI)Z"⟩ : MethodName)) hown (mvT hZ (hw _ (List.mem_of_getElem? (i := 35) rfl))) (mvT hZ (hw _ (List.mem_of_getElem? (i := 36) rfl))) (notFace_of_selects (args := #[]) (mvT hZ (hw _ (List.mem_of_getElem? (i := 38) rfl)))) (mvT hZ (hw _ (List.mem_of_getElem? (i := 38) rfl))) (mvT hZ (hw _ (List.mem_of_getElem? (i := 37) rfl))) (by decide) (backOf (W := 0) (rm4 l Z a0 hw [] b102 b1 (gs p0) b59 fv52 fv90 N K S T117.heap n0 Z117 F117q G118 G119 hS hS7 hN7 hK3) hZ (hw _ (List.mem_of_getElem? (i := 39) rfl)) (hw _ (List.mem_of_getElem? (i := 3) rfl)) (by decide) (by decide)) q131a q131c (g := (mkF m 358 #[.val (.int p0), .val (.long q1), .second, .val (.long q2), .second, .val (.long q3), .second, .val (.int p4), .val (.int (gn p0)), .val (.int (gk p0)), .val (.int (gs p0)), .val (.ref b1), .val (.ref b59), .val (.ref b102), .val (.int (1 : Int32)), .val (.int (1 : Int32))] [(.int (gs p0)), (.ref b1), (.ref b102)])) rfl (by rw [hml]; rfl) (Steps.refl _) (argsL := [(.ref b1), (.int (gs p0))]) (rest := []) (lenOf pd_3 rfl) rfl (by show 2 * 0 + _ ≤ _; exact Nat.le_of_eq rfl) (hb hby at_358) (fun _ _ => ⟨rfl, rfl, (by decide : 5 + 0 ≤ _), (by decide : 20 + 0 ≤ _)⟩)
          dsimp only [Pt.U, Pt.locs, Pt.cells, Pt.slots] at X131 l131 y131 z131 st131 hQ131
          subst l131 y131 z131
          obtain ⟨r131, rfl, hr01, hriff, rfl, e131⟩ := hQ131
          try rw [List.append_nil] at X131
          have K132 : ∀ t, Steps p.tables e below (T131.setTop (mkF m 371 #[.val (.int p0), .val (.long q1), .second, .val (.long q2), .second, .val (.long q3), .second, .val (.int p4), .val (.int (gn p0)), .val (.int (gk p0)), .val (.int (gs p0)), .val (.ref b1), .val (.ref b59), .val (.ref b102), .val (.int (1 : Int32)), .val (.int (1 : Int32))] [(.int (1 : Int32))])) t → Steps p.tables e below (s₁.setTop (mkF m 0 #[.val (.int p0), .val (.long q1), .second, .val (.long q2), .second, .val (.long q3), .second, .val (.int p4), .unset, .unset, .unset, .unset, .unset, .unset, .unset, .unset] [])) t := by
            intro t kt
            refine K129 _ ?_
            show Steps p.tables e below (T117.setTop (mkF m 328 #[.val (.int p0), .val (.long q1), .second, .val (.long q2), .second, .val (.long q3), .second, .val (.int p4), .val (.int (gn p0)), .val (.int (gk p0)), .val (.int (gs p0)), .val (.ref b1), .val (.ref b59), .val (.ref b102), .val (.int (1 : Int32)), .unset] [(.int (3 : Int32)), (.int (gk p0))])) _
            refine XS.icmpYes X117.here hx rfl (pc0 := 328) (pc' := 345) rfl (hb hby at_328) rfl (tlt hc130).1 (by decide) (by decide) ?_
            show Steps p.tables e below (T117.setTop (mkF m 345 #[.val (.int p0), .val (.long q1), .second, .val (.long q2), .second, .val (.long q3), .second, .val (.int p4), .val (.int (gn p0)), .val (.int (gk p0)), .val (.int (gs p0)), .val (.ref b1), .val (.ref b59), .val (.ref b102), .val (.int (1 : Int32)), .unset] [])) _
            refine XS.iconst X117.here hx rfl (hb hby at_345) ?_
            show Steps p.tables e below (T117.setTop (mkF m 346 #[.val (.int p0), .val (.long q1), .second, .val (.long q2), .second, .val (.long q3), .second, .val (.int p4), .val (.int (gn p0)), .val (.int (gk p0)), .val (.int (gs p0)), .val (.ref b1), .val (.ref b59), .val (.ref b102), .val (.int (1 : Int32)), .unset] [(.int (1 : Int32))])) _
            refine XS.goto X117.here hx rfl (pc0 := 346) (pc' := 350) rfl (hb hby at_346) (by decide) (by decide) ?_
            show Steps p.tables e below (T117.setTop (mkF m 350 #[.val (.int p0), .val (.long q1), .second, .val (.long q2), .second, .val (.long q3), .second, .val (.int p4), .val (.int (gn p0)), .val (.int (gk p0)), .val (.int (gs p0)), .val (.ref b1), .val (.ref b59), .val (.ref b102), .val (.int (1 : Int32)), .unset] [(.int (1 : Int32))])) _
            refine XS.istore X117.here hx rfl (hb hby at_350) rfl (l' := #[.val (.int p0), .val (.long q1), .second, .val (.long q2), .second, .val (.long q3), .second, .val (.int p4), .val (.int (gn p0)), .val (.int (gk p0)), .val (.int (gs p0)), .val (.ref b1), .val (.ref b59), .val (.ref b102), .val (.int (1 : Int32)), .val (.int (1 : Int32))]) rfl ?_
            show Steps p.tables e below (T117.setTop (mkF m 352 #[.val (.int p0), .val (.long q1), .second, .val (.long q2), .second, .val (.long q3), .second, .val (.int p4), .val (.int (gn p0)), .val (.int (gk p0)), .val (.int (gs p0)), .val (.ref b1), .val (.ref b59), .val (.ref b102), .val (.int (1 : Int32)), .val (.int (1 : Int32))] [])) _
            refine XS.aload X117.here hx rfl (hb hby at_352) rfl rfl ?_
            show Steps p.tables e below (T117.setTop (mkF m 354 #[.val (.int p0), .val (.long q1), .second, .val (.long q2), .second, .val (.long q3), .second, .val (.int p4), .val (.int (gn p0)), .val (.int (gk p0)), .val (.int (gs p0)), .val (.ref b1), .val (.ref b59), .val (.ref b102), .val (.int (1 : Int32)), .val (.int (1 : Int32))] [(.ref b102)])) _
            refine XS.aload X117.here hx rfl (hb hby at_354) rfl rfl ?_
            show Steps p.tables e below (T117.setTop (mkF m 356 #[.val (.int p0), .val (.long q1), .second, .val (.long q2), .second, .val (.long q3), .second, .val (.int p4), .val (.int (gn p0)), .val (.int (gk p0)), .val (.int (gs p0)), .val (.ref b1), .val (.ref b59), .val (.ref b102), .val (.int (1 : Int32)), .val (.int (1 : Int32))] [(.ref b1), (.ref b102)])) _
            refine XS.iload X117.here hx rfl (hb hby at_356) rfl ?_
            show Steps p.tables e below (T117.setTop (mkF m 358 #[.val (.int p0), .val (.long q1), .second, .val (.long q2), .second, .val (.long q3), .second, .val (.int p4), .val (.int (gn p0)), .val (.int (gk p0)), .val (.int (gs p0)), .val (.ref b1), .val (.ref b59), .val (.ref b102), .val (.int (1 : Int32)), .val (.int (1 : Int32))] [(.int (gs p0)), (.ref b1), (.ref b102)])) _
            refine st131.trans ?_
            show Steps p.tables e below (T131.setTop (mkF m 361 #[.val (.int p0), .val (.long q1), .second, .val (.long q2), .second, .val (.long q3), .second, .val (.int p4), .val (.int (gn p0)), .val (.int (gk p0)), .val (.int (gs p0)), .val (.ref b1), .val (.ref b59), .val (.ref b102), .val (.int (1 : Int32)), .val (.int (1 : Int32))] [(.int r131)])) _
            refine XS.iload X131.here hx rfl (hb hby at_361) rfl ?_
            show Steps p.tables e below (T131.setTop (mkF m 363 #[.val (.int p0), .val (.long q1), .second, .val (.long q2), .second, .val (.long q3), .second, .val (.int p4), .val (.int (gn p0)), .val (.int (gk p0)), .val (.int (gs p0)), .val (.ref b1), .val (.ref b59), .val (.ref b102), .val (.int (1 : Int32)), .val (.int (1 : Int32))] [(.int (1 : Int32)), (.int r131)])) _
            refine XS.icmpNo X131.here hx rfl (hb hby at_363) rfl (teq (show r131 = (1 : Int32) from (hriff.mpr ⟨hfit, by intro j hj; have hkt : K ≤ 0 := (by have := own_ix hK (by decide : (1 : Int32).toInt = ((1 : Nat) : Int)) hc126; omega); exact absurd hj (by omega)⟩))).2 ?_
            show Steps p.tables e below (T131.setTop (mkF m 366 #[.val (.int p0), .val (.long q1), .second, .val (.long q2), .second, .val (.long q3), .second, .val (.int p4), .val (.int (gn p0)), .val (.int (gk p0)), .val (.int (gs p0)), .val (.ref b1), .val (.ref b59), .val (.ref b102), .val (.int (1 : Int32)), .val (.int (1 : Int32))] [])) _
            refine XS.iconst X131.here hx rfl (hb hby at_366) ?_
            show Steps p.tables e below (T131.setTop (mkF m 367 #[.val (.int p0), .val (.long q1), .second, .val (.long q2), .second, .val (.long q3), .second, .val (.int p4), .val (.int (gn p0)), .val (.int (gk p0)), .val (.int (gs p0)), .val (.ref b1), .val (.ref b59), .val (.ref b102), .val (.int (1 : Int32)), .val (.int (1 : Int32))] [(.int (1 : Int32))])) _
            refine XS.goto X131.here hx rfl (pc0 := 367) (pc' := 371) rfl (hb hby at_367) (by decide) (by decide) ?_
            exact kt
          obtain ⟨fsQ, hr, hrun, hended, hRW⟩ := X131.leaveW (s := s) hS107 (by rw [e131]; exact KS117) (v := some (.int (1 : Int32))) (fun h => by rw [Bd.returns] at h; cases h)
          refine ⟨_, _, pre0 _ (K132 _ ?_), hrun, hended, _, _, rfl, ?_, hRW.1, hRW.2.1, hRW.2.2.1, hRW.2.2.2.mono (by decide) (by decide)⟩
          · show Steps p.tables e below (T131.setTop (mkF m 371 #[.val (.int p0), .val (.long q1), .second, .val (.long q2), .second, .val (.long q3), .second, .val (.int p4), .val (.int (gn p0)), .val (.int (gk p0)), .val (.int (gs p0)), .val (.ref b1), .val (.ref b59), .val (.ref b102), .val (.int (1 : Int32)), .val (.int (1 : Int32))] [(.int (1 : Int32))])) _
            exact retN X131 hx (t := .boolean) Bd.returns (by simp) (hb hby at_371) hr
          · show Q0 Z p0 q1 q2 q3 p4  h0 n0 _ T131.heap _
            rw [e131]
            exact ⟨rfl, N117⟩
        · skip
          exact absurd (own_mono hc126 (by decide)) hc130
      · skip
        exact absurd (own_mono hc126 (by decide)) hc128
    · skip
      have hk1 : 1 ≤ K := own_nx hK (by decide) hc126
      have K133 : ∀ t, Steps p.tables e below (T117.setTop (mkF m 302 #[.val (.int p0), .val (.long q1), .second, .val (.long q2), .second, .val (.long q3), .second, .val (.int p4), .val (.int (gn p0)), .val (.int (gk p0)), .val (.int (gs p0)), .val (.ref b1), .val (.ref b59), .val (.ref b102), .val (.int (1 : Int32)), .unset] [(.int (fv90 0)), (.int (fv52 S))])) t → Steps p.tables e below (s₁.setTop (mkF m 0 #[.val (.int p0), .val (.long q1), .second, .val (.long q2), .second, .val (.long q3), .second, .val (.int p4), .unset, .unset, .unset, .unset, .unset, .unset, .unset, .unset] [])) t := by
        intro t kt
        refine K125 _ ?_
        show Steps p.tables e below (T117.setTop (mkF m 290 #[.val (.int p0), .val (.long q1), .second, .val (.long q2), .second, .val (.long q3), .second, .val (.int p4), .val (.int (gn p0)), .val (.int (gk p0)), .val (.int (gs p0)), .val (.ref b1), .val (.ref b59), .val (.ref b102), .val (.int (1 : Int32)), .unset] [(.int (1 : Int32)), (.int (gk p0))])) _
        refine XS.icmpNo X117.here hx rfl (hb hby at_290) rfl (flt hc126).1 ?_
        show Steps p.tables e below (T117.setTop (mkF m 293 #[.val (.int p0), .val (.long q1), .second, .val (.long q2), .second, .val (.long q3), .second, .val (.int p4), .val (.int (gn p0)), .val (.int (gk p0)), .val (.int (gs p0)), .val (.ref b1), .val (.ref b59), .val (.ref b102), .val (.int (1 : Int32)), .unset] [])) _
        refine XS.aload X117.here hx rfl (hb hby at_293) rfl rfl ?_
        show Steps p.tables e below (T117.setTop (mkF m 295 #[.val (.int p0), .val (.long q1), .second, .val (.long q2), .second, .val (.long q3), .second, .val (.int p4), .val (.int (gn p0)), .val (.int (gk p0)), .val (.int (gs p0)), .val (.ref b1), .val (.ref b59), .val (.ref b102), .val (.int (1 : Int32)), .unset] [(.ref b1)])) _
        refine XS.iload X117.here hx rfl (hb hby at_295) rfl ?_
        show Steps p.tables e below (T117.setTop (mkF m 297 #[.val (.int p0), .val (.long q1), .second, .val (.long q2), .second, .val (.long q3), .second, .val (.int p4), .val (.int (gn p0)), .val (.int (gk p0)), .val (.int (gs p0)), .val (.ref b1), .val (.ref b59), .val (.ref b102), .val (.int (1 : Int32)), .unset] [(.int (gs p0)), (.ref b1)])) _
        refine iaLC X117 hx hZ rfl G118 (j := (gs p0)) S hS (by omega) (g := (mkF m 297 #[.val (.int p0), .val (.long q1), .second, .val (.long q2), .second, .val (.long q3), .second, .val (.int p4), .val (.int (gn p0)), .val (.int (gk p0)), .val (.int (gs p0)), .val (.ref b1), .val (.ref b59), .val (.ref b102), .val (.int (1 : Int32)), .unset] [(.int (gs p0)), (.ref b1)])) rfl rfl (hb hby at_297) _ ?_
        show Steps p.tables e below (T117.setTop (mkF m 298 #[.val (.int p0), .val (.long q1), .second, .val (.long q2), .second, .val (.long q3), .second, .val (.int p4), .val (.int (gn p0)), .val (.int (gk p0)), .val (.int (gs p0)), .val (.ref b1), .val (.ref b59), .val (.ref b102), .val (.int (1 : Int32)), .unset] [(.int (fv52 S))])) _
        refine XS.aload X117.here hx rfl (hb hby at_298) rfl rfl ?_
        show Steps p.tables e below (T117.setTop (mkF m 300 #[.val (.int p0), .val (.long q1), .second, .val (.long q2), .second, .val (.long q3), .second, .val (.int p4), .val (.int (gn p0)), .val (.int (gk p0)), .val (.int (gs p0)), .val (.ref b1), .val (.ref b59), .val (.ref b102), .val (.int (1 : Int32)), .unset] [(.ref b59), (.int (fv52 S))])) _
        refine XS.iconst X117.here hx rfl (hb hby at_300) ?_
        show Steps p.tables e below (T117.setTop (mkF m 301 #[.val (.int p0), .val (.long q1), .second, .val (.long q2), .second, .val (.long q3), .second, .val (.int p4), .val (.int (gn p0)), .val (.int (gk p0)), .val (.int (gs p0)), .val (.ref b1), .val (.ref b59), .val (.ref b102), .val (.int (1 : Int32)), .unset] [(.int (0 : Int32)), (.ref b59), (.int (fv52 S))])) _
        refine iaLC X117 hx hZ rfl G119 (j := (0 : Int32)) 0 (by decide) (by omega) (g := (mkF m 301 #[.val (.int p0), .val (.long q1), .second, .val (.long q2), .second, .val (.long q3), .second, .val (.int p4), .val (.int (gn p0)), .val (.int (gk p0)), .val (.int (gs p0)), .val (.ref b1), .val (.ref b59), .val (.ref b102), .val (.int (1 : Int32)), .unset] [(.int (0 : Int32)), (.ref b59), (.int (fv52 S))])) rfl rfl (hb hby at_301) _ ?_
        exact kt
      by_cases hc134 : (fv52 S) = (fv90 0)
      · skip
        have K135 : ∀ t, Steps p.tables e below (T117.setTop (mkF m 308 #[.val (.int p0), .val (.long q1), .second, .val (.long q2), .second, .val (.long q3), .second, .val (.int p4), .val (.int (gn p0)), .val (.int (gk p0)), .val (.int (gs p0)), .val (.ref b1), .val (.ref b59), .val (.ref b102), .val (.int (1 : Int32)), .unset] [(.int (2 : Int32)), (.int (gk p0))])) t → Steps p.tables e below (s₁.setTop (mkF m 0 #[.val (.int p0), .val (.long q1), .second, .val (.long q2), .second, .val (.long q3), .second, .val (.int p4), .unset, .unset, .unset, .unset, .unset, .unset, .unset, .unset] [])) t := by
          intro t kt
          refine K133 _ ?_
          show Steps p.tables e below (T117.setTop (mkF m 302 #[.val (.int p0), .val (.long q1), .second, .val (.long q2), .second, .val (.long q3), .second, .val (.int p4), .val (.int (gn p0)), .val (.int (gk p0)), .val (.int (gs p0)), .val (.ref b1), .val (.ref b59), .val (.ref b102), .val (.int (1 : Int32)), .unset] [(.int (fv90 0)), (.int (fv52 S))])) _
          refine XS.icmpNo X117.here hx rfl (hb hby at_302) rfl (teq hc134).2 ?_
          show Steps p.tables e below (T117.setTop (mkF m 305 #[.val (.int p0), .val (.long q1), .second, .val (.long q2), .second, .val (.long q3), .second, .val (.int p4), .val (.int (gn p0)), .val (.int (gk p0)), .val (.int (gs p0)), .val (.ref b1), .val (.ref b59), .val (.ref b102), .val (.int (1 : Int32)), .unset] [])) _
          refine XS.iload X117.here hx rfl (hb hby at_305) rfl ?_
          show Steps p.tables e below (T117.setTop (mkF m 307 #[.val (.int p0), .val (.long q1), .second, .val (.long q2), .second, .val (.long q3), .second, .val (.int p4), .val (.int (gn p0)), .val (.int (gk p0)), .val (.int (gs p0)), .val (.ref b1), .val (.ref b59), .val (.ref b102), .val (.int (1 : Int32)), .unset] [(.int (gk p0))])) _
          refine XS.iconst X117.here hx rfl (hb hby at_307) ?_
          exact kt
        by_cases hc136 : (gk p0) < (2 : Int32)
        · skip
          have K137 : ∀ t, Steps p.tables e below (T117.setTop (mkF m 328 #[.val (.int p0), .val (.long q1), .second, .val (.long q2), .second, .val (.long q3), .second, .val (.int p4), .val (.int (gn p0)), .val (.int (gk p0)), .val (.int (gs p0)), .val (.ref b1), .val (.ref b59), .val (.ref b102), .val (.int (1 : Int32)), .unset] [(.int (3 : Int32)), (.int (gk p0))])) t → Steps p.tables e below (s₁.setTop (mkF m 0 #[.val (.int p0), .val (.long q1), .second, .val (.long q2), .second, .val (.long q3), .second, .val (.int p4), .unset, .unset, .unset, .unset, .unset, .unset, .unset, .unset] [])) t := by
            intro t kt
            refine K135 _ ?_
            show Steps p.tables e below (T117.setTop (mkF m 308 #[.val (.int p0), .val (.long q1), .second, .val (.long q2), .second, .val (.long q3), .second, .val (.int p4), .val (.int (gn p0)), .val (.int (gk p0)), .val (.int (gs p0)), .val (.ref b1), .val (.ref b59), .val (.ref b102), .val (.int (1 : Int32)), .unset] [(.int (2 : Int32)), (.int (gk p0))])) _
            refine XS.icmpYes X117.here hx rfl (pc0 := 308) (pc' := 325) rfl (hb hby at_308) rfl (tlt hc136).1 (by decide) (by decide) ?_
            show Steps p.tables e below (T117.setTop (mkF m 325 #[.val (.int p0), .val (.long q1), .second, .val (.long q2), .second, .val (.long q3), .second, .val (.int p4), .val (.int (gn p0)), .val (.int (gk p0)), .val (.int (gs p0)), .val (.ref b1), .val (.ref b59), .val (.ref b102), .val (.int (1 : Int32)), .unset] [])) _
            refine XS.iload X117.here hx rfl (hb hby at_325) rfl ?_
            show Steps p.tables e below (T117.setTop (mkF m 327 #[.val (.int p0), .val (.long q1), .second, .val (.long q2), .second, .val (.long q3), .second, .val (.int p4), .val (.int (gn p0)), .val (.int (gk p0)), .val (.int (gs p0)), .val (.ref b1), .val (.ref b59), .val (.ref b102), .val (.int (1 : Int32)), .unset] [(.int (gk p0))])) _
            refine XS.iconst X117.here hx rfl (hb hby at_327) ?_
            exact kt
          by_cases hc138 : (gk p0) < (3 : Int32)
          · skip
            obtain ⟨cq139, kq139, q139a, q139b, q139c⟩ := isOf hZ rfl G120
            obtain ⟨_, _, ⟨T139, L139, k139, n139⟩, -, X139, ⟨Lc139, hQ139, l139, y139, z139⟩, st139⟩ := X117.virtualBack hx (y := (⟨"operand/Spelling", "isAt", "([CI)Z"⟩ : MethodName)) (z := (⟨"operand/Spelling", "isAt", "([CI)Z"⟩ : MethodName)) hown (mvT hZ (hw _ (List.mem_of_getElem? (i := 35) rfl))) (mvT hZ (hw _ (List.mem_of_getElem? (i := 36) rfl))) (notFace_of_selects (args := #[]) (mvT hZ (hw _ (List.mem_of_getElem? (i := 38) rfl)))) (mvT hZ (hw _ (List.mem_of_getElem? (i := 38) rfl))) (mvT hZ (hw _ (List.mem_of_getElem? (i := 37) rfl))) (by decide) (backOf (W := 0) (rm4 l Z a0 hw [] b102 b1 (gs p0) b59 fv52 fv90 N K S T117.heap n0 Z117 F117q G118 G119 hS hS7 hN7 hK3) hZ (hw _ (List.mem_of_getElem? (i := 39) rfl)) (hw _ (List.mem_of_getElem? (i := 3) rfl)) (by decide) (by decide)) q139a q139c (g := (mkF m 358 #[.val (.int p0), .val (.long q1), .second, .val (.long q2), .second, .val (.long q3), .second, .val (.int p4), .val (.int (gn p0)), .val (.int (gk p0)), .val (.int (gs p0)), .val (.ref b1), .val (.ref b59), .val (.ref b102), .val (.int (1 : Int32)), .val (.int (1 : Int32))] [(.int (gs p0)), (.ref b1), (.ref b102)])) rfl (by rw [hml]; rfl) (Steps.refl _) (argsL := [(.ref b1), (.int (gs p0))]) (rest := []) (lenOf pd_3 rfl) rfl (by show 2 * 0 + _ ≤ _; exact Nat.le_of_eq rfl) (hb hby at_358) (fun _ _ => ⟨rfl, rfl, (by decide : 5 + 0 ≤ _), (by decide : 20 + 0 ≤ _)⟩)
            dsimp only [Pt.U, Pt.locs, Pt.cells, Pt.slots] at X139 l139 y139 z139 st139 hQ139
            subst l139 y139 z139
            obtain ⟨r139, rfl, hr01, hriff, rfl, e139⟩ := hQ139
            try rw [List.append_nil] at X139
            have K140 : ∀ t, Steps p.tables e below (T139.setTop (mkF m 371 #[.val (.int p0), .val (.long q1), .second, .val (.long q2), .second, .val (.long q3), .second, .val (.int p4), .val (.int (gn p0)), .val (.int (gk p0)), .val (.int (gs p0)), .val (.ref b1), .val (.ref b59), .val (.ref b102), .val (.int (1 : Int32)), .val (.int (1 : Int32))] [(.int (1 : Int32))])) t → Steps p.tables e below (s₁.setTop (mkF m 0 #[.val (.int p0), .val (.long q1), .second, .val (.long q2), .second, .val (.long q3), .second, .val (.int p4), .unset, .unset, .unset, .unset, .unset, .unset, .unset, .unset] [])) t := by
              intro t kt
              refine K137 _ ?_
              show Steps p.tables e below (T117.setTop (mkF m 328 #[.val (.int p0), .val (.long q1), .second, .val (.long q2), .second, .val (.long q3), .second, .val (.int p4), .val (.int (gn p0)), .val (.int (gk p0)), .val (.int (gs p0)), .val (.ref b1), .val (.ref b59), .val (.ref b102), .val (.int (1 : Int32)), .unset] [(.int (3 : Int32)), (.int (gk p0))])) _
              refine XS.icmpYes X117.here hx rfl (pc0 := 328) (pc' := 345) rfl (hb hby at_328) rfl (tlt hc138).1 (by decide) (by decide) ?_
              show Steps p.tables e below (T117.setTop (mkF m 345 #[.val (.int p0), .val (.long q1), .second, .val (.long q2), .second, .val (.long q3), .second, .val (.int p4), .val (.int (gn p0)), .val (.int (gk p0)), .val (.int (gs p0)), .val (.ref b1), .val (.ref b59), .val (.ref b102), .val (.int (1 : Int32)), .unset] [])) _
              refine XS.iconst X117.here hx rfl (hb hby at_345) ?_
              show Steps p.tables e below (T117.setTop (mkF m 346 #[.val (.int p0), .val (.long q1), .second, .val (.long q2), .second, .val (.long q3), .second, .val (.int p4), .val (.int (gn p0)), .val (.int (gk p0)), .val (.int (gs p0)), .val (.ref b1), .val (.ref b59), .val (.ref b102), .val (.int (1 : Int32)), .unset] [(.int (1 : Int32))])) _
              refine XS.goto X117.here hx rfl (pc0 := 346) (pc' := 350) rfl (hb hby at_346) (by decide) (by decide) ?_
              show Steps p.tables e below (T117.setTop (mkF m 350 #[.val (.int p0), .val (.long q1), .second, .val (.long q2), .second, .val (.long q3), .second, .val (.int p4), .val (.int (gn p0)), .val (.int (gk p0)), .val (.int (gs p0)), .val (.ref b1), .val (.ref b59), .val (.ref b102), .val (.int (1 : Int32)), .unset] [(.int (1 : Int32))])) _
              refine XS.istore X117.here hx rfl (hb hby at_350) rfl (l' := #[.val (.int p0), .val (.long q1), .second, .val (.long q2), .second, .val (.long q3), .second, .val (.int p4), .val (.int (gn p0)), .val (.int (gk p0)), .val (.int (gs p0)), .val (.ref b1), .val (.ref b59), .val (.ref b102), .val (.int (1 : Int32)), .val (.int (1 : Int32))]) rfl ?_
              show Steps p.tables e below (T117.setTop (mkF m 352 #[.val (.int p0), .val (.long q1), .second, .val (.long q2), .second, .val (.long q3), .second, .val (.int p4), .val (.int (gn p0)), .val (.int (gk p0)), .val (.int (gs p0)), .val (.ref b1), .val (.ref b59), .val (.ref b102), .val (.int (1 : Int32)), .val (.int (1 : Int32))] [])) _
              refine XS.aload X117.here hx rfl (hb hby at_352) rfl rfl ?_
              show Steps p.tables e below (T117.setTop (mkF m 354 #[.val (.int p0), .val (.long q1), .second, .val (.long q2), .second, .val (.long q3), .second, .val (.int p4), .val (.int (gn p0)), .val (.int (gk p0)), .val (.int (gs p0)), .val (.ref b1), .val (.ref b59), .val (.ref b102), .val (.int (1 : Int32)), .val (.int (1 : Int32))] [(.ref b102)])) _
              refine XS.aload X117.here hx rfl (hb hby at_354) rfl rfl ?_
              show Steps p.tables e below (T117.setTop (mkF m 356 #[.val (.int p0), .val (.long q1), .second, .val (.long q2), .second, .val (.long q3), .second, .val (.int p4), .val (.int (gn p0)), .val (.int (gk p0)), .val (.int (gs p0)), .val (.ref b1), .val (.ref b59), .val (.ref b102), .val (.int (1 : Int32)), .val (.int (1 : Int32))] [(.ref b1), (.ref b102)])) _
              refine XS.iload X117.here hx rfl (hb hby at_356) rfl ?_
              show Steps p.tables e below (T117.setTop (mkF m 358 #[.val (.int p0), .val (.long q1), .second, .val (.long q2), .second, .val (.long q3), .second, .val (.int p4), .val (.int (gn p0)), .val (.int (gk p0)), .val (.int (gs p0)), .val (.ref b1), .val (.ref b59), .val (.ref b102), .val (.int (1 : Int32)), .val (.int (1 : Int32))] [(.int (gs p0)), (.ref b1), (.ref b102)])) _
              refine st139.trans ?_
              show Steps p.tables e below (T139.setTop (mkF m 361 #[.val (.int p0), .val (.long q1), .second, .val (.long q2), .second, .val (.long q3), .second, .val (.int p4), .val (.int (gn p0)), .val (.int (gk p0)), .val (.int (gs p0)), .val (.ref b1), .val (.ref b59), .val (.ref b102), .val (.int (1 : Int32)), .val (.int (1 : Int32))] [(.int r139)])) _
              refine XS.iload X139.here hx rfl (hb hby at_361) rfl ?_
              show Steps p.tables e below (T139.setTop (mkF m 363 #[.val (.int p0), .val (.long q1), .second, .val (.long q2), .second, .val (.long q3), .second, .val (.int p4), .val (.int (gn p0)), .val (.int (gk p0)), .val (.int (gs p0)), .val (.ref b1), .val (.ref b59), .val (.ref b102), .val (.int (1 : Int32)), .val (.int (1 : Int32))] [(.int (1 : Int32)), (.int r139)])) _
              refine XS.icmpNo X139.here hx rfl (hb hby at_363) rfl (teq (show r139 = (1 : Int32) from (hriff.mpr ⟨hfit, by intro j hj; have hkt : K ≤ 1 := (by have := own_ix hK (by decide : (2 : Int32).toInt = ((2 : Nat) : Int)) hc136; omega); rcases (by omega : j = 0) with rfl; (· exact hc134)⟩))).2 ?_
              show Steps p.tables e below (T139.setTop (mkF m 366 #[.val (.int p0), .val (.long q1), .second, .val (.long q2), .second, .val (.long q3), .second, .val (.int p4), .val (.int (gn p0)), .val (.int (gk p0)), .val (.int (gs p0)), .val (.ref b1), .val (.ref b59), .val (.ref b102), .val (.int (1 : Int32)), .val (.int (1 : Int32))] [])) _
              refine XS.iconst X139.here hx rfl (hb hby at_366) ?_
              show Steps p.tables e below (T139.setTop (mkF m 367 #[.val (.int p0), .val (.long q1), .second, .val (.long q2), .second, .val (.long q3), .second, .val (.int p4), .val (.int (gn p0)), .val (.int (gk p0)), .val (.int (gs p0)), .val (.ref b1), .val (.ref b59), .val (.ref b102), .val (.int (1 : Int32)), .val (.int (1 : Int32))] [(.int (1 : Int32))])) _
              refine XS.goto X139.here hx rfl (pc0 := 367) (pc' := 371) rfl (hb hby at_367) (by decide) (by decide) ?_
              exact kt
            obtain ⟨fsQ, hr, hrun, hended, hRW⟩ := X139.leaveW (s := s) hS107 (by rw [e139]; exact KS117) (v := some (.int (1 : Int32))) (fun h => by rw [Bd.returns] at h; cases h)
            refine ⟨_, _, pre0 _ (K140 _ ?_), hrun, hended, _, _, rfl, ?_, hRW.1, hRW.2.1, hRW.2.2.1, hRW.2.2.2.mono (by decide) (by decide)⟩
            · show Steps p.tables e below (T139.setTop (mkF m 371 #[.val (.int p0), .val (.long q1), .second, .val (.long q2), .second, .val (.long q3), .second, .val (.int p4), .val (.int (gn p0)), .val (.int (gk p0)), .val (.int (gs p0)), .val (.ref b1), .val (.ref b59), .val (.ref b102), .val (.int (1 : Int32)), .val (.int (1 : Int32))] [(.int (1 : Int32))])) _
              exact retN X139 hx (t := .boolean) Bd.returns (by simp) (hb hby at_371) hr
            · show Q0 Z p0 q1 q2 q3 p4  h0 n0 _ T139.heap _
              rw [e139]
              exact ⟨rfl, N117⟩
          · skip
            exact absurd (own_mono hc136 (by decide)) hc138
        · skip
          have hk2 : 2 ≤ K := own_nx hK (by decide) hc136
          have K141 : ∀ t, Steps p.tables e below (T117.setTop (mkF m 322 #[.val (.int p0), .val (.long q1), .second, .val (.long q2), .second, .val (.long q3), .second, .val (.int p4), .val (.int (gn p0)), .val (.int (gk p0)), .val (.int (gs p0)), .val (.ref b1), .val (.ref b59), .val (.ref b102), .val (.int (1 : Int32)), .unset] [(.int (fv90 1)), (.int (fv52 (S + 1)))])) t → Steps p.tables e below (s₁.setTop (mkF m 0 #[.val (.int p0), .val (.long q1), .second, .val (.long q2), .second, .val (.long q3), .second, .val (.int p4), .unset, .unset, .unset, .unset, .unset, .unset, .unset, .unset] [])) t := by
            intro t kt
            refine K135 _ ?_
            show Steps p.tables e below (T117.setTop (mkF m 308 #[.val (.int p0), .val (.long q1), .second, .val (.long q2), .second, .val (.long q3), .second, .val (.int p4), .val (.int (gn p0)), .val (.int (gk p0)), .val (.int (gs p0)), .val (.ref b1), .val (.ref b59), .val (.ref b102), .val (.int (1 : Int32)), .unset] [(.int (2 : Int32)), (.int (gk p0))])) _
            refine XS.icmpNo X117.here hx rfl (hb hby at_308) rfl (flt hc136).1 ?_
            show Steps p.tables e below (T117.setTop (mkF m 311 #[.val (.int p0), .val (.long q1), .second, .val (.long q2), .second, .val (.long q3), .second, .val (.int p4), .val (.int (gn p0)), .val (.int (gk p0)), .val (.int (gs p0)), .val (.ref b1), .val (.ref b59), .val (.ref b102), .val (.int (1 : Int32)), .unset] [])) _
            refine XS.aload X117.here hx rfl (hb hby at_311) rfl rfl ?_
            show Steps p.tables e below (T117.setTop (mkF m 313 #[.val (.int p0), .val (.long q1), .second, .val (.long q2), .second, .val (.long q3), .second, .val (.int p4), .val (.int (gn p0)), .val (.int (gk p0)), .val (.int (gs p0)), .val (.ref b1), .val (.ref b59), .val (.ref b102), .val (.int (1 : Int32)), .unset] [(.ref b1)])) _
            refine XS.iload X117.here hx rfl (hb hby at_313) rfl ?_
            show Steps p.tables e below (T117.setTop (mkF m 315 #[.val (.int p0), .val (.long q1), .second, .val (.long q2), .second, .val (.long q3), .second, .val (.int p4), .val (.int (gn p0)), .val (.int (gk p0)), .val (.int (gs p0)), .val (.ref b1), .val (.ref b59), .val (.ref b102), .val (.int (1 : Int32)), .unset] [(.int (gs p0)), (.ref b1)])) _
            refine XS.iconst X117.here hx rfl (hb hby at_315) ?_
            show Steps p.tables e below (T117.setTop (mkF m 316 #[.val (.int p0), .val (.long q1), .second, .val (.long q2), .second, .val (.long q3), .second, .val (.int p4), .val (.int (gn p0)), .val (.int (gk p0)), .val (.int (gs p0)), .val (.ref b1), .val (.ref b59), .val (.ref b102), .val (.int (1 : Int32)), .unset] [(.int (1 : Int32)), (.int (gs p0)), (.ref b1)])) _
            refine XS.iadd X117.here hx rfl (hb hby at_316) rfl ?_
            show Steps p.tables e below (T117.setTop (mkF m 317 #[.val (.int p0), .val (.long q1), .second, .val (.long q2), .second, .val (.long q3), .second, .val (.int p4), .val (.int (gn p0)), .val (.int (gk p0)), .val (.int (gs p0)), .val (.ref b1), .val (.ref b59), .val (.ref b102), .val (.int (1 : Int32)), .unset] [(.int ((gs p0) + (1 : Int32))), (.ref b1)])) _
            refine iaLC X117 hx hZ rfl G118 (j := ((gs p0) + (1 : Int32))) (S + 1) (own_add hS (by decide) (by omega) (by decide)) (by omega) (g := (mkF m 317 #[.val (.int p0), .val (.long q1), .second, .val (.long q2), .second, .val (.long q3), .second, .val (.int p4), .val (.int (gn p0)), .val (.int (gk p0)), .val (.int (gs p0)), .val (.ref b1), .val (.ref b59), .val (.ref b102), .val (.int (1 : Int32)), .unset] [(.int ((gs p0) + (1 : Int32))), (.ref b1)])) rfl rfl (hb hby at_317) _ ?_
            show Steps p.tables e below (T117.setTop (mkF m 318 #[.val (.int p0), .val (.long q1), .second, .val (.long q2), .second, .val (.long q3), .second, .val (.int p4), .val (.int (gn p0)), .val (.int (gk p0)), .val (.int (gs p0)), .val (.ref b1), .val (.ref b59), .val (.ref b102), .val (.int (1 : Int32)), .unset] [(.int (fv52 (S + 1)))])) _
            refine XS.aload X117.here hx rfl (hb hby at_318) rfl rfl ?_
            show Steps p.tables e below (T117.setTop (mkF m 320 #[.val (.int p0), .val (.long q1), .second, .val (.long q2), .second, .val (.long q3), .second, .val (.int p4), .val (.int (gn p0)), .val (.int (gk p0)), .val (.int (gs p0)), .val (.ref b1), .val (.ref b59), .val (.ref b102), .val (.int (1 : Int32)), .unset] [(.ref b59), (.int (fv52 (S + 1)))])) _
            refine XS.iconst X117.here hx rfl (hb hby at_320) ?_
            show Steps p.tables e below (T117.setTop (mkF m 321 #[.val (.int p0), .val (.long q1), .second, .val (.long q2), .second, .val (.long q3), .second, .val (.int p4), .val (.int (gn p0)), .val (.int (gk p0)), .val (.int (gs p0)), .val (.ref b1), .val (.ref b59), .val (.ref b102), .val (.int (1 : Int32)), .unset] [(.int (1 : Int32)), (.ref b59), (.int (fv52 (S + 1)))])) _
            refine iaLC X117 hx hZ rfl G119 (j := (1 : Int32)) 1 (by decide) (by omega) (g := (mkF m 321 #[.val (.int p0), .val (.long q1), .second, .val (.long q2), .second, .val (.long q3), .second, .val (.int p4), .val (.int (gn p0)), .val (.int (gk p0)), .val (.int (gs p0)), .val (.ref b1), .val (.ref b59), .val (.ref b102), .val (.int (1 : Int32)), .unset] [(.int (1 : Int32)), (.ref b59), (.int (fv52 (S + 1)))])) rfl rfl (hb hby at_321) _ ?_
            exact kt
          by_cases hc142 : (fv52 (S + 1)) = (fv90 1)
          · skip
            have K143 : ∀ t, Steps p.tables e below (T117.setTop (mkF m 328 #[.val (.int p0), .val (.long q1), .second, .val (.long q2), .second, .val (.long q3), .second, .val (.int p4), .val (.int (gn p0)), .val (.int (gk p0)), .val (.int (gs p0)), .val (.ref b1), .val (.ref b59), .val (.ref b102), .val (.int (1 : Int32)), .unset] [(.int (3 : Int32)), (.int (gk p0))])) t → Steps p.tables e below (s₁.setTop (mkF m 0 #[.val (.int p0), .val (.long q1), .second, .val (.long q2), .second, .val (.long q3), .second, .val (.int p4), .unset, .unset, .unset, .unset, .unset, .unset, .unset, .unset] [])) t := by
              intro t kt
              refine K141 _ ?_
              show Steps p.tables e below (T117.setTop (mkF m 322 #[.val (.int p0), .val (.long q1), .second, .val (.long q2), .second, .val (.long q3), .second, .val (.int p4), .val (.int (gn p0)), .val (.int (gk p0)), .val (.int (gs p0)), .val (.ref b1), .val (.ref b59), .val (.ref b102), .val (.int (1 : Int32)), .unset] [(.int (fv90 1)), (.int (fv52 (S + 1)))])) _
              refine XS.icmpNo X117.here hx rfl (hb hby at_322) rfl (teq hc142).2 ?_
              show Steps p.tables e below (T117.setTop (mkF m 325 #[.val (.int p0), .val (.long q1), .second, .val (.long q2), .second, .val (.long q3), .second, .val (.int p4), .val (.int (gn p0)), .val (.int (gk p0)), .val (.int (gs p0)), .val (.ref b1), .val (.ref b59), .val (.ref b102), .val (.int (1 : Int32)), .unset] [])) _
              refine XS.iload X117.here hx rfl (hb hby at_325) rfl ?_
              show Steps p.tables e below (T117.setTop (mkF m 327 #[.val (.int p0), .val (.long q1), .second, .val (.long q2), .second, .val (.long q3), .second, .val (.int p4), .val (.int (gn p0)), .val (.int (gk p0)), .val (.int (gs p0)), .val (.ref b1), .val (.ref b59), .val (.ref b102), .val (.int (1 : Int32)), .unset] [(.int (gk p0))])) _
              refine XS.iconst X117.here hx rfl (hb hby at_327) ?_
              exact kt
            by_cases hc144 : (gk p0) < (3 : Int32)
            · skip
              obtain ⟨cq145, kq145, q145a, q145b, q145c⟩ := isOf hZ rfl G120
              obtain ⟨_, _, ⟨T145, L145, k145, n145⟩, -, X145, ⟨Lc145, hQ145, l145, y145, z145⟩, st145⟩ := X117.virtualBack hx (y := (⟨"operand/Spelling", "isAt", "([CI)Z"⟩ : MethodName)) (z := (⟨"operand/Spelling", "isAt", "([CI)Z"⟩ : MethodName)) hown (mvT hZ (hw _ (List.mem_of_getElem? (i := 35) rfl))) (mvT hZ (hw _ (List.mem_of_getElem? (i := 36) rfl))) (notFace_of_selects (args := #[]) (mvT hZ (hw _ (List.mem_of_getElem? (i := 38) rfl)))) (mvT hZ (hw _ (List.mem_of_getElem? (i := 38) rfl))) (mvT hZ (hw _ (List.mem_of_getElem? (i := 37) rfl))) (by decide) (backOf (W := 0) (rm4 l Z a0 hw [] b102 b1 (gs p0) b59 fv52 fv90 N K S T117.heap n0 Z117 F117q G118 G119 hS hS7 hN7 hK3) hZ (hw _ (List.mem_of_getElem? (i := 39) rfl)) (hw _ (List.mem_of_getElem? (i := 3) rfl)) (by decide) (by decide)) q145a q145c (g := (mkF m 358 #[.val (.int p0), .val (.long q1), .second, .val (.long q2), .second, .val (.long q3), .second, .val (.int p4), .val (.int (gn p0)), .val (.int (gk p0)), .val (.int (gs p0)), .val (.ref b1), .val (.ref b59), .val (.ref b102), .val (.int (1 : Int32)), .val (.int (1 : Int32))] [(.int (gs p0)), (.ref b1), (.ref b102)])) rfl (by rw [hml]; rfl) (Steps.refl _) (argsL := [(.ref b1), (.int (gs p0))]) (rest := []) (lenOf pd_3 rfl) rfl (by show 2 * 0 + _ ≤ _; exact Nat.le_of_eq rfl) (hb hby at_358) (fun _ _ => ⟨rfl, rfl, (by decide : 5 + 0 ≤ _), (by decide : 20 + 0 ≤ _)⟩)
              dsimp only [Pt.U, Pt.locs, Pt.cells, Pt.slots] at X145 l145 y145 z145 st145 hQ145
              subst l145 y145 z145
              obtain ⟨r145, rfl, hr01, hriff, rfl, e145⟩ := hQ145
              try rw [List.append_nil] at X145
              have K146 : ∀ t, Steps p.tables e below (T145.setTop (mkF m 371 #[.val (.int p0), .val (.long q1), .second, .val (.long q2), .second, .val (.long q3), .second, .val (.int p4), .val (.int (gn p0)), .val (.int (gk p0)), .val (.int (gs p0)), .val (.ref b1), .val (.ref b59), .val (.ref b102), .val (.int (1 : Int32)), .val (.int (1 : Int32))] [(.int (1 : Int32))])) t → Steps p.tables e below (s₁.setTop (mkF m 0 #[.val (.int p0), .val (.long q1), .second, .val (.long q2), .second, .val (.long q3), .second, .val (.int p4), .unset, .unset, .unset, .unset, .unset, .unset, .unset, .unset] [])) t := by
                intro t kt
                refine K143 _ ?_
                show Steps p.tables e below (T117.setTop (mkF m 328 #[.val (.int p0), .val (.long q1), .second, .val (.long q2), .second, .val (.long q3), .second, .val (.int p4), .val (.int (gn p0)), .val (.int (gk p0)), .val (.int (gs p0)), .val (.ref b1), .val (.ref b59), .val (.ref b102), .val (.int (1 : Int32)), .unset] [(.int (3 : Int32)), (.int (gk p0))])) _
                refine XS.icmpYes X117.here hx rfl (pc0 := 328) (pc' := 345) rfl (hb hby at_328) rfl (tlt hc144).1 (by decide) (by decide) ?_
                show Steps p.tables e below (T117.setTop (mkF m 345 #[.val (.int p0), .val (.long q1), .second, .val (.long q2), .second, .val (.long q3), .second, .val (.int p4), .val (.int (gn p0)), .val (.int (gk p0)), .val (.int (gs p0)), .val (.ref b1), .val (.ref b59), .val (.ref b102), .val (.int (1 : Int32)), .unset] [])) _
                refine XS.iconst X117.here hx rfl (hb hby at_345) ?_
                show Steps p.tables e below (T117.setTop (mkF m 346 #[.val (.int p0), .val (.long q1), .second, .val (.long q2), .second, .val (.long q3), .second, .val (.int p4), .val (.int (gn p0)), .val (.int (gk p0)), .val (.int (gs p0)), .val (.ref b1), .val (.ref b59), .val (.ref b102), .val (.int (1 : Int32)), .unset] [(.int (1 : Int32))])) _
                refine XS.goto X117.here hx rfl (pc0 := 346) (pc' := 350) rfl (hb hby at_346) (by decide) (by decide) ?_
                show Steps p.tables e below (T117.setTop (mkF m 350 #[.val (.int p0), .val (.long q1), .second, .val (.long q2), .second, .val (.long q3), .second, .val (.int p4), .val (.int (gn p0)), .val (.int (gk p0)), .val (.int (gs p0)), .val (.ref b1), .val (.ref b59), .val (.ref b102), .val (.int (1 : Int32)), .unset] [(.int (1 : Int32))])) _
                refine XS.istore X117.here hx rfl (hb hby at_350) rfl (l' := #[.val (.int p0), .val (.long q1), .second, .val (.long q2), .second, .val (.long q3), .second, .val (.int p4), .val (.int (gn p0)), .val (.int (gk p0)), .val (.int (gs p0)), .val (.ref b1), .val (.ref b59), .val (.ref b102), .val (.int (1 : Int32)), .val (.int (1 : Int32))]) rfl ?_
                show Steps p.tables e below (T117.setTop (mkF m 352 #[.val (.int p0), .val (.long q1), .second, .val (.long q2), .second, .val (.long q3), .second, .val (.int p4), .val (.int (gn p0)), .val (.int (gk p0)), .val (.int (gs p0)), .val (.ref b1), .val (.ref b59), .val (.ref b102), .val (.int (1 : Int32)), .val (.int (1 : Int32))] [])) _
                refine XS.aload X117.here hx rfl (hb hby at_352) rfl rfl ?_
                show Steps p.tables e below (T117.setTop (mkF m 354 #[.val (.int p0), .val (.long q1), .second, .val (.long q2), .second, .val (.long q3), .second, .val (.int p4), .val (.int (gn p0)), .val (.int (gk p0)), .val (.int (gs p0)), .val (.ref b1), .val (.ref b59), .val (.ref b102), .val (.int (1 : Int32)), .val (.int (1 : Int32))] [(.ref b102)])) _
                refine XS.aload X117.here hx rfl (hb hby at_354) rfl rfl ?_
                show Steps p.tables e below (T117.setTop (mkF m 356 #[.val (.int p0), .val (.long q1), .second, .val (.long q2), .second, .val (.long q3), .second, .val (.int p4), .val (.int (gn p0)), .val (.int (gk p0)), .val (.int (gs p0)), .val (.ref b1), .val (.ref b59), .val (.ref b102), .val (.int (1 : Int32)), .val (.int (1 : Int32))] [(.ref b1), (.ref b102)])) _
                refine XS.iload X117.here hx rfl (hb hby at_356) rfl ?_
                show Steps p.tables e below (T117.setTop (mkF m 358 #[.val (.int p0), .val (.long q1), .second, .val (.long q2), .second, .val (.long q3), .second, .val (.int p4), .val (.int (gn p0)), .val (.int (gk p0)), .val (.int (gs p0)), .val (.ref b1), .val (.ref b59), .val (.ref b102), .val (.int (1 : Int32)), .val (.int (1 : Int32))] [(.int (gs p0)), (.ref b1), (.ref b102)])) _
                refine st145.trans ?_
                show Steps p.tables e below (T145.setTop (mkF m 361 #[.val (.int p0), .val (.long q1), .second, .val (.long q2), .second, .val (.long q3), .second, .val (.int p4), .val (.int (gn p0)), .val (.int (gk p0)), .val (.int (gs p0)), .val (.ref b1), .val (.ref b59), .val (.ref b102), .val (.int (1 : Int32)), .val (.int (1 : Int32))] [(.int r145)])) _
                refine XS.iload X145.here hx rfl (hb hby at_361) rfl ?_
                show Steps p.tables e below (T145.setTop (mkF m 363 #[.val (.int p0), .val (.long q1), .second, .val (.long q2), .second, .val (.long q3), .second, .val (.int p4), .val (.int (gn p0)), .val (.int (gk p0)), .val (.int (gs p0)), .val (.ref b1), .val (.ref b59), .val (.ref b102), .val (.int (1 : Int32)), .val (.int (1 : Int32))] [(.int (1 : Int32)), (.int r145)])) _
                refine XS.icmpNo X145.here hx rfl (hb hby at_363) rfl (teq (show r145 = (1 : Int32) from (hriff.mpr ⟨hfit, by intro j hj; have hkt : K ≤ 2 := (by have := own_ix hK (by decide : (3 : Int32).toInt = ((3 : Nat) : Int)) hc144; omega); rcases (by omega : j = 0 ∨ j = 1) with rfl | rfl; (· exact hc134); (· exact hc142)⟩))).2 ?_
                show Steps p.tables e below (T145.setTop (mkF m 366 #[.val (.int p0), .val (.long q1), .second, .val (.long q2), .second, .val (.long q3), .second, .val (.int p4), .val (.int (gn p0)), .val (.int (gk p0)), .val (.int (gs p0)), .val (.ref b1), .val (.ref b59), .val (.ref b102), .val (.int (1 : Int32)), .val (.int (1 : Int32))] [])) _
                refine XS.iconst X145.here hx rfl (hb hby at_366) ?_
                show Steps p.tables e below (T145.setTop (mkF m 367 #[.val (.int p0), .val (.long q1), .second, .val (.long q2), .second, .val (.long q3), .second, .val (.int p4), .val (.int (gn p0)), .val (.int (gk p0)), .val (.int (gs p0)), .val (.ref b1), .val (.ref b59), .val (.ref b102), .val (.int (1 : Int32)), .val (.int (1 : Int32))] [(.int (1 : Int32))])) _
                refine XS.goto X145.here hx rfl (pc0 := 367) (pc' := 371) rfl (hb hby at_367) (by decide) (by decide) ?_
                exact kt
              obtain ⟨fsQ, hr, hrun, hended, hRW⟩ := X145.leaveW (s := s) hS107 (by rw [e145]; exact KS117) (v := some (.int (1 : Int32))) (fun h => by rw [Bd.returns] at h; cases h)
              refine ⟨_, _, pre0 _ (K146 _ ?_), hrun, hended, _, _, rfl, ?_, hRW.1, hRW.2.1, hRW.2.2.1, hRW.2.2.2.mono (by decide) (by decide)⟩
              · show Steps p.tables e below (T145.setTop (mkF m 371 #[.val (.int p0), .val (.long q1), .second, .val (.long q2), .second, .val (.long q3), .second, .val (.int p4), .val (.int (gn p0)), .val (.int (gk p0)), .val (.int (gs p0)), .val (.ref b1), .val (.ref b59), .val (.ref b102), .val (.int (1 : Int32)), .val (.int (1 : Int32))] [(.int (1 : Int32))])) _
                exact retN X145 hx (t := .boolean) Bd.returns (by simp) (hb hby at_371) hr
              · show Q0 Z p0 q1 q2 q3 p4  h0 n0 _ T145.heap _
                rw [e145]
                exact ⟨rfl, N117⟩
            · skip
              have hk3 : 3 ≤ K := own_nx hK (by decide) hc144
              have K147 : ∀ t, Steps p.tables e below (T117.setTop (mkF m 342 #[.val (.int p0), .val (.long q1), .second, .val (.long q2), .second, .val (.long q3), .second, .val (.int p4), .val (.int (gn p0)), .val (.int (gk p0)), .val (.int (gs p0)), .val (.ref b1), .val (.ref b59), .val (.ref b102), .val (.int (1 : Int32)), .unset] [(.int (fv90 2)), (.int (fv52 (S + 2)))])) t → Steps p.tables e below (s₁.setTop (mkF m 0 #[.val (.int p0), .val (.long q1), .second, .val (.long q2), .second, .val (.long q3), .second, .val (.int p4), .unset, .unset, .unset, .unset, .unset, .unset, .unset, .unset] [])) t := by
                intro t kt
                refine K143 _ ?_
                show Steps p.tables e below (T117.setTop (mkF m 328 #[.val (.int p0), .val (.long q1), .second, .val (.long q2), .second, .val (.long q3), .second, .val (.int p4), .val (.int (gn p0)), .val (.int (gk p0)), .val (.int (gs p0)), .val (.ref b1), .val (.ref b59), .val (.ref b102), .val (.int (1 : Int32)), .unset] [(.int (3 : Int32)), (.int (gk p0))])) _
                refine XS.icmpNo X117.here hx rfl (hb hby at_328) rfl (flt hc144).1 ?_
                show Steps p.tables e below (T117.setTop (mkF m 331 #[.val (.int p0), .val (.long q1), .second, .val (.long q2), .second, .val (.long q3), .second, .val (.int p4), .val (.int (gn p0)), .val (.int (gk p0)), .val (.int (gs p0)), .val (.ref b1), .val (.ref b59), .val (.ref b102), .val (.int (1 : Int32)), .unset] [])) _
                refine XS.aload X117.here hx rfl (hb hby at_331) rfl rfl ?_
                show Steps p.tables e below (T117.setTop (mkF m 333 #[.val (.int p0), .val (.long q1), .second, .val (.long q2), .second, .val (.long q3), .second, .val (.int p4), .val (.int (gn p0)), .val (.int (gk p0)), .val (.int (gs p0)), .val (.ref b1), .val (.ref b59), .val (.ref b102), .val (.int (1 : Int32)), .unset] [(.ref b1)])) _
                refine XS.iload X117.here hx rfl (hb hby at_333) rfl ?_
                show Steps p.tables e below (T117.setTop (mkF m 335 #[.val (.int p0), .val (.long q1), .second, .val (.long q2), .second, .val (.long q3), .second, .val (.int p4), .val (.int (gn p0)), .val (.int (gk p0)), .val (.int (gs p0)), .val (.ref b1), .val (.ref b59), .val (.ref b102), .val (.int (1 : Int32)), .unset] [(.int (gs p0)), (.ref b1)])) _
                refine XS.iconst X117.here hx rfl (hb hby at_335) ?_
                show Steps p.tables e below (T117.setTop (mkF m 336 #[.val (.int p0), .val (.long q1), .second, .val (.long q2), .second, .val (.long q3), .second, .val (.int p4), .val (.int (gn p0)), .val (.int (gk p0)), .val (.int (gs p0)), .val (.ref b1), .val (.ref b59), .val (.ref b102), .val (.int (1 : Int32)), .unset] [(.int (2 : Int32)), (.int (gs p0)), (.ref b1)])) _
                refine XS.iadd X117.here hx rfl (hb hby at_336) rfl ?_
                show Steps p.tables e below (T117.setTop (mkF m 337 #[.val (.int p0), .val (.long q1), .second, .val (.long q2), .second, .val (.long q3), .second, .val (.int p4), .val (.int (gn p0)), .val (.int (gk p0)), .val (.int (gs p0)), .val (.ref b1), .val (.ref b59), .val (.ref b102), .val (.int (1 : Int32)), .unset] [(.int ((gs p0) + (2 : Int32))), (.ref b1)])) _
                refine iaLC X117 hx hZ rfl G118 (j := ((gs p0) + (2 : Int32))) (S + 2) (own_add hS (by decide) (by omega) (by decide)) (by omega) (g := (mkF m 337 #[.val (.int p0), .val (.long q1), .second, .val (.long q2), .second, .val (.long q3), .second, .val (.int p4), .val (.int (gn p0)), .val (.int (gk p0)), .val (.int (gs p0)), .val (.ref b1), .val (.ref b59), .val (.ref b102), .val (.int (1 : Int32)), .unset] [(.int ((gs p0) + (2 : Int32))), (.ref b1)])) rfl rfl (hb hby at_337) _ ?_
                show Steps p.tables e below (T117.setTop (mkF m 338 #[.val (.int p0), .val (.long q1), .second, .val (.long q2), .second, .val (.long q3), .second, .val (.int p4), .val (.int (gn p0)), .val (.int (gk p0)), .val (.int (gs p0)), .val (.ref b1), .val (.ref b59), .val (.ref b102), .val (.int (1 : Int32)), .unset] [(.int (fv52 (S + 2)))])) _
                refine XS.aload X117.here hx rfl (hb hby at_338) rfl rfl ?_
                show Steps p.tables e below (T117.setTop (mkF m 340 #[.val (.int p0), .val (.long q1), .second, .val (.long q2), .second, .val (.long q3), .second, .val (.int p4), .val (.int (gn p0)), .val (.int (gk p0)), .val (.int (gs p0)), .val (.ref b1), .val (.ref b59), .val (.ref b102), .val (.int (1 : Int32)), .unset] [(.ref b59), (.int (fv52 (S + 2)))])) _
                refine XS.iconst X117.here hx rfl (hb hby at_340) ?_
                show Steps p.tables e below (T117.setTop (mkF m 341 #[.val (.int p0), .val (.long q1), .second, .val (.long q2), .second, .val (.long q3), .second, .val (.int p4), .val (.int (gn p0)), .val (.int (gk p0)), .val (.int (gs p0)), .val (.ref b1), .val (.ref b59), .val (.ref b102), .val (.int (1 : Int32)), .unset] [(.int (2 : Int32)), (.ref b59), (.int (fv52 (S + 2)))])) _
                refine iaLC X117 hx hZ rfl G119 (j := (2 : Int32)) 2 (by decide) (by omega) (g := (mkF m 341 #[.val (.int p0), .val (.long q1), .second, .val (.long q2), .second, .val (.long q3), .second, .val (.int p4), .val (.int (gn p0)), .val (.int (gk p0)), .val (.int (gs p0)), .val (.ref b1), .val (.ref b59), .val (.ref b102), .val (.int (1 : Int32)), .unset] [(.int (2 : Int32)), (.ref b59), (.int (fv52 (S + 2)))])) rfl rfl (hb hby at_341) _ ?_
                exact kt
              by_cases hc148 : (fv52 (S + 2)) = (fv90 2)
              · skip
                obtain ⟨cq149, kq149, q149a, q149b, q149c⟩ := isOf hZ rfl G120
                obtain ⟨_, _, ⟨T149, L149, k149, n149⟩, -, X149, ⟨Lc149, hQ149, l149, y149, z149⟩, st149⟩ := X117.virtualBack hx (y := (⟨"operand/Spelling", "isAt", "([CI)Z"⟩ : MethodName)) (z := (⟨"operand/Spelling", "isAt", "([CI)Z"⟩ : MethodName)) hown (mvT hZ (hw _ (List.mem_of_getElem? (i := 35) rfl))) (mvT hZ (hw _ (List.mem_of_getElem? (i := 36) rfl))) (notFace_of_selects (args := #[]) (mvT hZ (hw _ (List.mem_of_getElem? (i := 38) rfl)))) (mvT hZ (hw _ (List.mem_of_getElem? (i := 38) rfl))) (mvT hZ (hw _ (List.mem_of_getElem? (i := 37) rfl))) (by decide) (backOf (W := 0) (rm4 l Z a0 hw [] b102 b1 (gs p0) b59 fv52 fv90 N K S T117.heap n0 Z117 F117q G118 G119 hS hS7 hN7 hK3) hZ (hw _ (List.mem_of_getElem? (i := 39) rfl)) (hw _ (List.mem_of_getElem? (i := 3) rfl)) (by decide) (by decide)) q149a q149c (g := (mkF m 358 #[.val (.int p0), .val (.long q1), .second, .val (.long q2), .second, .val (.long q3), .second, .val (.int p4), .val (.int (gn p0)), .val (.int (gk p0)), .val (.int (gs p0)), .val (.ref b1), .val (.ref b59), .val (.ref b102), .val (.int (1 : Int32)), .val (.int (1 : Int32))] [(.int (gs p0)), (.ref b1), (.ref b102)])) rfl (by rw [hml]; rfl) (Steps.refl _) (argsL := [(.ref b1), (.int (gs p0))]) (rest := []) (lenOf pd_3 rfl) rfl (by show 2 * 0 + _ ≤ _; exact Nat.le_of_eq rfl) (hb hby at_358) (fun _ _ => ⟨rfl, rfl, (by decide : 5 + 0 ≤ _), (by decide : 20 + 0 ≤ _)⟩)
                dsimp only [Pt.U, Pt.locs, Pt.cells, Pt.slots] at X149 l149 y149 z149 st149 hQ149
                subst l149 y149 z149
                obtain ⟨r149, rfl, hr01, hriff, rfl, e149⟩ := hQ149
                try rw [List.append_nil] at X149
                have K150 : ∀ t, Steps p.tables e below (T149.setTop (mkF m 371 #[.val (.int p0), .val (.long q1), .second, .val (.long q2), .second, .val (.long q3), .second, .val (.int p4), .val (.int (gn p0)), .val (.int (gk p0)), .val (.int (gs p0)), .val (.ref b1), .val (.ref b59), .val (.ref b102), .val (.int (1 : Int32)), .val (.int (1 : Int32))] [(.int (1 : Int32))])) t → Steps p.tables e below (s₁.setTop (mkF m 0 #[.val (.int p0), .val (.long q1), .second, .val (.long q2), .second, .val (.long q3), .second, .val (.int p4), .unset, .unset, .unset, .unset, .unset, .unset, .unset, .unset] [])) t := by
                  intro t kt
                  refine K147 _ ?_
                  show Steps p.tables e below (T117.setTop (mkF m 342 #[.val (.int p0), .val (.long q1), .second, .val (.long q2), .second, .val (.long q3), .second, .val (.int p4), .val (.int (gn p0)), .val (.int (gk p0)), .val (.int (gs p0)), .val (.ref b1), .val (.ref b59), .val (.ref b102), .val (.int (1 : Int32)), .unset] [(.int (fv90 2)), (.int (fv52 (S + 2)))])) _
                  refine XS.icmpNo X117.here hx rfl (hb hby at_342) rfl (teq hc148).2 ?_
                  show Steps p.tables e below (T117.setTop (mkF m 345 #[.val (.int p0), .val (.long q1), .second, .val (.long q2), .second, .val (.long q3), .second, .val (.int p4), .val (.int (gn p0)), .val (.int (gk p0)), .val (.int (gs p0)), .val (.ref b1), .val (.ref b59), .val (.ref b102), .val (.int (1 : Int32)), .unset] [])) _
                  refine XS.iconst X117.here hx rfl (hb hby at_345) ?_
                  show Steps p.tables e below (T117.setTop (mkF m 346 #[.val (.int p0), .val (.long q1), .second, .val (.long q2), .second, .val (.long q3), .second, .val (.int p4), .val (.int (gn p0)), .val (.int (gk p0)), .val (.int (gs p0)), .val (.ref b1), .val (.ref b59), .val (.ref b102), .val (.int (1 : Int32)), .unset] [(.int (1 : Int32))])) _
                  refine XS.goto X117.here hx rfl (pc0 := 346) (pc' := 350) rfl (hb hby at_346) (by decide) (by decide) ?_
                  show Steps p.tables e below (T117.setTop (mkF m 350 #[.val (.int p0), .val (.long q1), .second, .val (.long q2), .second, .val (.long q3), .second, .val (.int p4), .val (.int (gn p0)), .val (.int (gk p0)), .val (.int (gs p0)), .val (.ref b1), .val (.ref b59), .val (.ref b102), .val (.int (1 : Int32)), .unset] [(.int (1 : Int32))])) _
                  refine XS.istore X117.here hx rfl (hb hby at_350) rfl (l' := #[.val (.int p0), .val (.long q1), .second, .val (.long q2), .second, .val (.long q3), .second, .val (.int p4), .val (.int (gn p0)), .val (.int (gk p0)), .val (.int (gs p0)), .val (.ref b1), .val (.ref b59), .val (.ref b102), .val (.int (1 : Int32)), .val (.int (1 : Int32))]) rfl ?_
                  show Steps p.tables e below (T117.setTop (mkF m 352 #[.val (.int p0), .val (.long q1), .second, .val (.long q2), .second, .val (.long q3), .second, .val (.int p4), .val (.int (gn p0)), .val (.int (gk p0)), .val (.int (gs p0)), .val (.ref b1), .val (.ref b59), .val (.ref b102), .val (.int (1 : Int32)), .val (.int (1 : Int32))] [])) _
                  refine XS.aload X117.here hx rfl (hb hby at_352) rfl rfl ?_
                  show Steps p.tables e below (T117.setTop (mkF m 354 #[.val (.int p0), .val (.long q1), .second, .val (.long q2), .second, .val (.long q3), .second, .val (.int p4), .val (.int (gn p0)), .val (.int (gk p0)), .val (.int (gs p0)), .val (.ref b1), .val (.ref b59), .val (.ref b102), .val (.int (1 : Int32)), .val (.int (1 : Int32))] [(.ref b102)])) _
                  refine XS.aload X117.here hx rfl (hb hby at_354) rfl rfl ?_
                  show Steps p.tables e below (T117.setTop (mkF m 356 #[.val (.int p0), .val (.long q1), .second, .val (.long q2), .second, .val (.long q3), .second, .val (.int p4), .val (.int (gn p0)), .val (.int (gk p0)), .val (.int (gs p0)), .val (.ref b1), .val (.ref b59), .val (.ref b102), .val (.int (1 : Int32)), .val (.int (1 : Int32))] [(.ref b1), (.ref b102)])) _
                  refine XS.iload X117.here hx rfl (hb hby at_356) rfl ?_
                  show Steps p.tables e below (T117.setTop (mkF m 358 #[.val (.int p0), .val (.long q1), .second, .val (.long q2), .second, .val (.long q3), .second, .val (.int p4), .val (.int (gn p0)), .val (.int (gk p0)), .val (.int (gs p0)), .val (.ref b1), .val (.ref b59), .val (.ref b102), .val (.int (1 : Int32)), .val (.int (1 : Int32))] [(.int (gs p0)), (.ref b1), (.ref b102)])) _
                  refine st149.trans ?_
                  show Steps p.tables e below (T149.setTop (mkF m 361 #[.val (.int p0), .val (.long q1), .second, .val (.long q2), .second, .val (.long q3), .second, .val (.int p4), .val (.int (gn p0)), .val (.int (gk p0)), .val (.int (gs p0)), .val (.ref b1), .val (.ref b59), .val (.ref b102), .val (.int (1 : Int32)), .val (.int (1 : Int32))] [(.int r149)])) _
                  refine XS.iload X149.here hx rfl (hb hby at_361) rfl ?_
                  show Steps p.tables e below (T149.setTop (mkF m 363 #[.val (.int p0), .val (.long q1), .second, .val (.long q2), .second, .val (.long q3), .second, .val (.int p4), .val (.int (gn p0)), .val (.int (gk p0)), .val (.int (gs p0)), .val (.ref b1), .val (.ref b59), .val (.ref b102), .val (.int (1 : Int32)), .val (.int (1 : Int32))] [(.int (1 : Int32)), (.int r149)])) _
                  refine XS.icmpNo X149.here hx rfl (hb hby at_363) rfl (teq (show r149 = (1 : Int32) from (hriff.mpr ⟨hfit, by intro j hj; have hkt : K ≤ 3 := hK3; rcases (by omega : j = 0 ∨ j = 1 ∨ j = 2) with rfl | rfl | rfl; (· exact hc134); (· exact hc142); (· exact hc148)⟩))).2 ?_
                  show Steps p.tables e below (T149.setTop (mkF m 366 #[.val (.int p0), .val (.long q1), .second, .val (.long q2), .second, .val (.long q3), .second, .val (.int p4), .val (.int (gn p0)), .val (.int (gk p0)), .val (.int (gs p0)), .val (.ref b1), .val (.ref b59), .val (.ref b102), .val (.int (1 : Int32)), .val (.int (1 : Int32))] [])) _
                  refine XS.iconst X149.here hx rfl (hb hby at_366) ?_
                  show Steps p.tables e below (T149.setTop (mkF m 367 #[.val (.int p0), .val (.long q1), .second, .val (.long q2), .second, .val (.long q3), .second, .val (.int p4), .val (.int (gn p0)), .val (.int (gk p0)), .val (.int (gs p0)), .val (.ref b1), .val (.ref b59), .val (.ref b102), .val (.int (1 : Int32)), .val (.int (1 : Int32))] [(.int (1 : Int32))])) _
                  refine XS.goto X149.here hx rfl (pc0 := 367) (pc' := 371) rfl (hb hby at_367) (by decide) (by decide) ?_
                  exact kt
                obtain ⟨fsQ, hr, hrun, hended, hRW⟩ := X149.leaveW (s := s) hS107 (by rw [e149]; exact KS117) (v := some (.int (1 : Int32))) (fun h => by rw [Bd.returns] at h; cases h)
                refine ⟨_, _, pre0 _ (K150 _ ?_), hrun, hended, _, _, rfl, ?_, hRW.1, hRW.2.1, hRW.2.2.1, hRW.2.2.2.mono (by decide) (by decide)⟩
                · show Steps p.tables e below (T149.setTop (mkF m 371 #[.val (.int p0), .val (.long q1), .second, .val (.long q2), .second, .val (.long q3), .second, .val (.int p4), .val (.int (gn p0)), .val (.int (gk p0)), .val (.int (gs p0)), .val (.ref b1), .val (.ref b59), .val (.ref b102), .val (.int (1 : Int32)), .val (.int (1 : Int32))] [(.int (1 : Int32))])) _
                  exact retN X149 hx (t := .boolean) Bd.returns (by simp) (hb hby at_371) hr
                · show Q0 Z p0 q1 q2 q3 p4  h0 n0 _ T149.heap _
                  rw [e149]
                  exact ⟨rfl, N117⟩
              · skip
                obtain ⟨cq151, kq151, q151a, q151b, q151c⟩ := isOf hZ rfl G120
                obtain ⟨_, _, ⟨T151, L151, k151, n151⟩, -, X151, ⟨Lc151, hQ151, l151, y151, z151⟩, st151⟩ := X117.virtualBack hx (y := (⟨"operand/Spelling", "isAt", "([CI)Z"⟩ : MethodName)) (z := (⟨"operand/Spelling", "isAt", "([CI)Z"⟩ : MethodName)) hown (mvT hZ (hw _ (List.mem_of_getElem? (i := 35) rfl))) (mvT hZ (hw _ (List.mem_of_getElem? (i := 36) rfl))) (notFace_of_selects (args := #[]) (mvT hZ (hw _ (List.mem_of_getElem? (i := 38) rfl)))) (mvT hZ (hw _ (List.mem_of_getElem? (i := 38) rfl))) (mvT hZ (hw _ (List.mem_of_getElem? (i := 37) rfl))) (by decide) (backOf (W := 0) (rm4 l Z a0 hw [] b102 b1 (gs p0) b59 fv52 fv90 N K S T117.heap n0 Z117 F117q G118 G119 hS hS7 hN7 hK3) hZ (hw _ (List.mem_of_getElem? (i := 39) rfl)) (hw _ (List.mem_of_getElem? (i := 3) rfl)) (by decide) (by decide)) q151a q151c (g := (mkF m 358 #[.val (.int p0), .val (.long q1), .second, .val (.long q2), .second, .val (.long q3), .second, .val (.int p4), .val (.int (gn p0)), .val (.int (gk p0)), .val (.int (gs p0)), .val (.ref b1), .val (.ref b59), .val (.ref b102), .val (.int (1 : Int32)), .val (.int (0 : Int32))] [(.int (gs p0)), (.ref b1), (.ref b102)])) rfl (by rw [hml]; rfl) (Steps.refl _) (argsL := [(.ref b1), (.int (gs p0))]) (rest := []) (lenOf pd_3 rfl) rfl (by show 2 * 0 + _ ≤ _; exact Nat.le_of_eq rfl) (hb hby at_358) (fun _ _ => ⟨rfl, rfl, (by decide : 5 + 0 ≤ _), (by decide : 20 + 0 ≤ _)⟩)
                dsimp only [Pt.U, Pt.locs, Pt.cells, Pt.slots] at X151 l151 y151 z151 st151 hQ151
                subst l151 y151 z151
                obtain ⟨r151, rfl, hr01, hriff, rfl, e151⟩ := hQ151
                try rw [List.append_nil] at X151
                have K152 : ∀ t, Steps p.tables e below (T151.setTop (mkF m 371 #[.val (.int p0), .val (.long q1), .second, .val (.long q2), .second, .val (.long q3), .second, .val (.int p4), .val (.int (gn p0)), .val (.int (gk p0)), .val (.int (gs p0)), .val (.ref b1), .val (.ref b59), .val (.ref b102), .val (.int (1 : Int32)), .val (.int (0 : Int32))] [(.int (1 : Int32))])) t → Steps p.tables e below (s₁.setTop (mkF m 0 #[.val (.int p0), .val (.long q1), .second, .val (.long q2), .second, .val (.long q3), .second, .val (.int p4), .unset, .unset, .unset, .unset, .unset, .unset, .unset, .unset] [])) t := by
                  intro t kt
                  refine K147 _ ?_
                  show Steps p.tables e below (T117.setTop (mkF m 342 #[.val (.int p0), .val (.long q1), .second, .val (.long q2), .second, .val (.long q3), .second, .val (.int p4), .val (.int (gn p0)), .val (.int (gk p0)), .val (.int (gs p0)), .val (.ref b1), .val (.ref b59), .val (.ref b102), .val (.int (1 : Int32)), .unset] [(.int (fv90 2)), (.int (fv52 (S + 2)))])) _
                  refine XS.icmpYes X117.here hx rfl (pc0 := 342) (pc' := 349) rfl (hb hby at_342) rfl (feq hc148).2 (by decide) (by decide) ?_
                  show Steps p.tables e below (T117.setTop (mkF m 349 #[.val (.int p0), .val (.long q1), .second, .val (.long q2), .second, .val (.long q3), .second, .val (.int p4), .val (.int (gn p0)), .val (.int (gk p0)), .val (.int (gs p0)), .val (.ref b1), .val (.ref b59), .val (.ref b102), .val (.int (1 : Int32)), .unset] [])) _
                  refine XS.iconst X117.here hx rfl (hb hby at_349) ?_
                  show Steps p.tables e below (T117.setTop (mkF m 350 #[.val (.int p0), .val (.long q1), .second, .val (.long q2), .second, .val (.long q3), .second, .val (.int p4), .val (.int (gn p0)), .val (.int (gk p0)), .val (.int (gs p0)), .val (.ref b1), .val (.ref b59), .val (.ref b102), .val (.int (1 : Int32)), .unset] [(.int (0 : Int32))])) _
                  refine XS.istore X117.here hx rfl (hb hby at_350) rfl (l' := #[.val (.int p0), .val (.long q1), .second, .val (.long q2), .second, .val (.long q3), .second, .val (.int p4), .val (.int (gn p0)), .val (.int (gk p0)), .val (.int (gs p0)), .val (.ref b1), .val (.ref b59), .val (.ref b102), .val (.int (1 : Int32)), .val (.int (0 : Int32))]) rfl ?_
                  show Steps p.tables e below (T117.setTop (mkF m 352 #[.val (.int p0), .val (.long q1), .second, .val (.long q2), .second, .val (.long q3), .second, .val (.int p4), .val (.int (gn p0)), .val (.int (gk p0)), .val (.int (gs p0)), .val (.ref b1), .val (.ref b59), .val (.ref b102), .val (.int (1 : Int32)), .val (.int (0 : Int32))] [])) _
                  refine XS.aload X117.here hx rfl (hb hby at_352) rfl rfl ?_
                  show Steps p.tables e below (T117.setTop (mkF m 354 #[.val (.int p0), .val (.long q1), .second, .val (.long q2), .second, .val (.long q3), .second, .val (.int p4), .val (.int (gn p0)), .val (.int (gk p0)), .val (.int (gs p0)), .val (.ref b1), .val (.ref b59), .val (.ref b102), .val (.int (1 : Int32)), .val (.int (0 : Int32))] [(.ref b102)])) _
                  refine XS.aload X117.here hx rfl (hb hby at_354) rfl rfl ?_
                  show Steps p.tables e below (T117.setTop (mkF m 356 #[.val (.int p0), .val (.long q1), .second, .val (.long q2), .second, .val (.long q3), .second, .val (.int p4), .val (.int (gn p0)), .val (.int (gk p0)), .val (.int (gs p0)), .val (.ref b1), .val (.ref b59), .val (.ref b102), .val (.int (1 : Int32)), .val (.int (0 : Int32))] [(.ref b1), (.ref b102)])) _
                  refine XS.iload X117.here hx rfl (hb hby at_356) rfl ?_
                  show Steps p.tables e below (T117.setTop (mkF m 358 #[.val (.int p0), .val (.long q1), .second, .val (.long q2), .second, .val (.long q3), .second, .val (.int p4), .val (.int (gn p0)), .val (.int (gk p0)), .val (.int (gs p0)), .val (.ref b1), .val (.ref b59), .val (.ref b102), .val (.int (1 : Int32)), .val (.int (0 : Int32))] [(.int (gs p0)), (.ref b1), (.ref b102)])) _
                  refine st151.trans ?_
                  show Steps p.tables e below (T151.setTop (mkF m 361 #[.val (.int p0), .val (.long q1), .second, .val (.long q2), .second, .val (.long q3), .second, .val (.int p4), .val (.int (gn p0)), .val (.int (gk p0)), .val (.int (gs p0)), .val (.ref b1), .val (.ref b59), .val (.ref b102), .val (.int (1 : Int32)), .val (.int (0 : Int32))] [(.int r151)])) _
                  refine XS.iload X151.here hx rfl (hb hby at_361) rfl ?_
                  show Steps p.tables e below (T151.setTop (mkF m 363 #[.val (.int p0), .val (.long q1), .second, .val (.long q2), .second, .val (.long q3), .second, .val (.int p4), .val (.int (gn p0)), .val (.int (gk p0)), .val (.int (gs p0)), .val (.ref b1), .val (.ref b59), .val (.ref b102), .val (.int (1 : Int32)), .val (.int (0 : Int32))] [(.int (0 : Int32)), (.int r151)])) _
                  refine XS.icmpNo X151.here hx rfl (hb hby at_363) rfl (teq (show r151 = (0 : Int32) from (hr01.resolve_left fun z => hc148 ((hriff.mp z).2 2 (by omega))))).2 ?_
                  show Steps p.tables e below (T151.setTop (mkF m 366 #[.val (.int p0), .val (.long q1), .second, .val (.long q2), .second, .val (.long q3), .second, .val (.int p4), .val (.int (gn p0)), .val (.int (gk p0)), .val (.int (gs p0)), .val (.ref b1), .val (.ref b59), .val (.ref b102), .val (.int (1 : Int32)), .val (.int (0 : Int32))] [])) _
                  refine XS.iconst X151.here hx rfl (hb hby at_366) ?_
                  show Steps p.tables e below (T151.setTop (mkF m 367 #[.val (.int p0), .val (.long q1), .second, .val (.long q2), .second, .val (.long q3), .second, .val (.int p4), .val (.int (gn p0)), .val (.int (gk p0)), .val (.int (gs p0)), .val (.ref b1), .val (.ref b59), .val (.ref b102), .val (.int (1 : Int32)), .val (.int (0 : Int32))] [(.int (1 : Int32))])) _
                  refine XS.goto X151.here hx rfl (pc0 := 367) (pc' := 371) rfl (hb hby at_367) (by decide) (by decide) ?_
                  exact kt
                obtain ⟨fsQ, hr, hrun, hended, hRW⟩ := X151.leaveW (s := s) hS107 (by rw [e151]; exact KS117) (v := some (.int (1 : Int32))) (fun h => by rw [Bd.returns] at h; cases h)
                refine ⟨_, _, pre0 _ (K152 _ ?_), hrun, hended, _, _, rfl, ?_, hRW.1, hRW.2.1, hRW.2.2.1, hRW.2.2.2.mono (by decide) (by decide)⟩
                · show Steps p.tables e below (T151.setTop (mkF m 371 #[.val (.int p0), .val (.long q1), .second, .val (.long q2), .second, .val (.long q3), .second, .val (.int p4), .val (.int (gn p0)), .val (.int (gk p0)), .val (.int (gs p0)), .val (.ref b1), .val (.ref b59), .val (.ref b102), .val (.int (1 : Int32)), .val (.int (0 : Int32))] [(.int (1 : Int32))])) _
                  exact retN X151 hx (t := .boolean) Bd.returns (by simp) (hb hby at_371) hr
                · show Q0 Z p0 q1 q2 q3 p4  h0 n0 _ T151.heap _
                  rw [e151]
                  exact ⟨rfl, N117⟩
          · skip
            obtain ⟨cq153, kq153, q153a, q153b, q153c⟩ := isOf hZ rfl G120
            obtain ⟨_, _, ⟨T153, L153, k153, n153⟩, -, X153, ⟨Lc153, hQ153, l153, y153, z153⟩, st153⟩ := X117.virtualBack hx (y := (⟨"operand/Spelling", "isAt", "([CI)Z"⟩ : MethodName)) (z := (⟨"operand/Spelling", "isAt", "([CI)Z"⟩ : MethodName)) hown (mvT hZ (hw _ (List.mem_of_getElem? (i := 35) rfl))) (mvT hZ (hw _ (List.mem_of_getElem? (i := 36) rfl))) (notFace_of_selects (args := #[]) (mvT hZ (hw _ (List.mem_of_getElem? (i := 38) rfl)))) (mvT hZ (hw _ (List.mem_of_getElem? (i := 38) rfl))) (mvT hZ (hw _ (List.mem_of_getElem? (i := 37) rfl))) (by decide) (backOf (W := 0) (rm4 l Z a0 hw [] b102 b1 (gs p0) b59 fv52 fv90 N K S T117.heap n0 Z117 F117q G118 G119 hS hS7 hN7 hK3) hZ (hw _ (List.mem_of_getElem? (i := 39) rfl)) (hw _ (List.mem_of_getElem? (i := 3) rfl)) (by decide) (by decide)) q153a q153c (g := (mkF m 358 #[.val (.int p0), .val (.long q1), .second, .val (.long q2), .second, .val (.long q3), .second, .val (.int p4), .val (.int (gn p0)), .val (.int (gk p0)), .val (.int (gs p0)), .val (.ref b1), .val (.ref b59), .val (.ref b102), .val (.int (1 : Int32)), .val (.int (0 : Int32))] [(.int (gs p0)), (.ref b1), (.ref b102)])) rfl (by rw [hml]; rfl) (Steps.refl _) (argsL := [(.ref b1), (.int (gs p0))]) (rest := []) (lenOf pd_3 rfl) rfl (by show 2 * 0 + _ ≤ _; exact Nat.le_of_eq rfl) (hb hby at_358) (fun _ _ => ⟨rfl, rfl, (by decide : 5 + 0 ≤ _), (by decide : 20 + 0 ≤ _)⟩)
            dsimp only [Pt.U, Pt.locs, Pt.cells, Pt.slots] at X153 l153 y153 z153 st153 hQ153
            subst l153 y153 z153
            obtain ⟨r153, rfl, hr01, hriff, rfl, e153⟩ := hQ153
            try rw [List.append_nil] at X153
            have K154 : ∀ t, Steps p.tables e below (T153.setTop (mkF m 371 #[.val (.int p0), .val (.long q1), .second, .val (.long q2), .second, .val (.long q3), .second, .val (.int p4), .val (.int (gn p0)), .val (.int (gk p0)), .val (.int (gs p0)), .val (.ref b1), .val (.ref b59), .val (.ref b102), .val (.int (1 : Int32)), .val (.int (0 : Int32))] [(.int (1 : Int32))])) t → Steps p.tables e below (s₁.setTop (mkF m 0 #[.val (.int p0), .val (.long q1), .second, .val (.long q2), .second, .val (.long q3), .second, .val (.int p4), .unset, .unset, .unset, .unset, .unset, .unset, .unset, .unset] [])) t := by
              intro t kt
              refine K141 _ ?_
              show Steps p.tables e below (T117.setTop (mkF m 322 #[.val (.int p0), .val (.long q1), .second, .val (.long q2), .second, .val (.long q3), .second, .val (.int p4), .val (.int (gn p0)), .val (.int (gk p0)), .val (.int (gs p0)), .val (.ref b1), .val (.ref b59), .val (.ref b102), .val (.int (1 : Int32)), .unset] [(.int (fv90 1)), (.int (fv52 (S + 1)))])) _
              refine XS.icmpYes X117.here hx rfl (pc0 := 322) (pc' := 349) rfl (hb hby at_322) rfl (feq hc142).2 (by decide) (by decide) ?_
              show Steps p.tables e below (T117.setTop (mkF m 349 #[.val (.int p0), .val (.long q1), .second, .val (.long q2), .second, .val (.long q3), .second, .val (.int p4), .val (.int (gn p0)), .val (.int (gk p0)), .val (.int (gs p0)), .val (.ref b1), .val (.ref b59), .val (.ref b102), .val (.int (1 : Int32)), .unset] [])) _
              refine XS.iconst X117.here hx rfl (hb hby at_349) ?_
              show Steps p.tables e below (T117.setTop (mkF m 350 #[.val (.int p0), .val (.long q1), .second, .val (.long q2), .second, .val (.long q3), .second, .val (.int p4), .val (.int (gn p0)), .val (.int (gk p0)), .val (.int (gs p0)), .val (.ref b1), .val (.ref b59), .val (.ref b102), .val (.int (1 : Int32)), .unset] [(.int (0 : Int32))])) _
              refine XS.istore X117.here hx rfl (hb hby at_350) rfl (l' := #[.val (.int p0), .val (.long q1), .second, .val (.long q2), .second, .val (.long q3), .second, .val (.int p4), .val (.int (gn p0)), .val (.int (gk p0)), .val (.int (gs p0)), .val (.ref b1), .val (.ref b59), .val (.ref b102), .val (.int (1 : Int32)), .val (.int (0 : Int32))]) rfl ?_
              show Steps p.tables e below (T117.setTop (mkF m 352 #[.val (.int p0), .val (.long q1), .second, .val (.long q2), .second, .val (.long q3), .second, .val (.int p4), .val (.int (gn p0)), .val (.int (gk p0)), .val (.int (gs p0)), .val (.ref b1), .val (.ref b59), .val (.ref b102), .val (.int (1 : Int32)), .val (.int (0 : Int32))] [])) _
              refine XS.aload X117.here hx rfl (hb hby at_352) rfl rfl ?_
              show Steps p.tables e below (T117.setTop (mkF m 354 #[.val (.int p0), .val (.long q1), .second, .val (.long q2), .second, .val (.long q3), .second, .val (.int p4), .val (.int (gn p0)), .val (.int (gk p0)), .val (.int (gs p0)), .val (.ref b1), .val (.ref b59), .val (.ref b102), .val (.int (1 : Int32)), .val (.int (0 : Int32))] [(.ref b102)])) _
              refine XS.aload X117.here hx rfl (hb hby at_354) rfl rfl ?_
              show Steps p.tables e below (T117.setTop (mkF m 356 #[.val (.int p0), .val (.long q1), .second, .val (.long q2), .second, .val (.long q3), .second, .val (.int p4), .val (.int (gn p0)), .val (.int (gk p0)), .val (.int (gs p0)), .val (.ref b1), .val (.ref b59), .val (.ref b102), .val (.int (1 : Int32)), .val (.int (0 : Int32))] [(.ref b1), (.ref b102)])) _
              refine XS.iload X117.here hx rfl (hb hby at_356) rfl ?_
              show Steps p.tables e below (T117.setTop (mkF m 358 #[.val (.int p0), .val (.long q1), .second, .val (.long q2), .second, .val (.long q3), .second, .val (.int p4), .val (.int (gn p0)), .val (.int (gk p0)), .val (.int (gs p0)), .val (.ref b1), .val (.ref b59), .val (.ref b102), .val (.int (1 : Int32)), .val (.int (0 : Int32))] [(.int (gs p0)), (.ref b1), (.ref b102)])) _
              refine st153.trans ?_
              show Steps p.tables e below (T153.setTop (mkF m 361 #[.val (.int p0), .val (.long q1), .second, .val (.long q2), .second, .val (.long q3), .second, .val (.int p4), .val (.int (gn p0)), .val (.int (gk p0)), .val (.int (gs p0)), .val (.ref b1), .val (.ref b59), .val (.ref b102), .val (.int (1 : Int32)), .val (.int (0 : Int32))] [(.int r153)])) _
              refine XS.iload X153.here hx rfl (hb hby at_361) rfl ?_
              show Steps p.tables e below (T153.setTop (mkF m 363 #[.val (.int p0), .val (.long q1), .second, .val (.long q2), .second, .val (.long q3), .second, .val (.int p4), .val (.int (gn p0)), .val (.int (gk p0)), .val (.int (gs p0)), .val (.ref b1), .val (.ref b59), .val (.ref b102), .val (.int (1 : Int32)), .val (.int (0 : Int32))] [(.int (0 : Int32)), (.int r153)])) _
              refine XS.icmpNo X153.here hx rfl (hb hby at_363) rfl (teq (show r153 = (0 : Int32) from (hr01.resolve_left fun z => hc142 ((hriff.mp z).2 1 (by omega))))).2 ?_
              show Steps p.tables e below (T153.setTop (mkF m 366 #[.val (.int p0), .val (.long q1), .second, .val (.long q2), .second, .val (.long q3), .second, .val (.int p4), .val (.int (gn p0)), .val (.int (gk p0)), .val (.int (gs p0)), .val (.ref b1), .val (.ref b59), .val (.ref b102), .val (.int (1 : Int32)), .val (.int (0 : Int32))] [])) _
              refine XS.iconst X153.here hx rfl (hb hby at_366) ?_
              show Steps p.tables e below (T153.setTop (mkF m 367 #[.val (.int p0), .val (.long q1), .second, .val (.long q2), .second, .val (.long q3), .second, .val (.int p4), .val (.int (gn p0)), .val (.int (gk p0)), .val (.int (gs p0)), .val (.ref b1), .val (.ref b59), .val (.ref b102), .val (.int (1 : Int32)), .val (.int (0 : Int32))] [(.int (1 : Int32))])) _
              refine XS.goto X153.here hx rfl (pc0 := 367) (pc' := 371) rfl (hb hby at_367) (by decide) (by decide) ?_
              exact kt
            obtain ⟨fsQ, hr, hrun, hended, hRW⟩ := X153.leaveW (s := s) hS107 (by rw [e153]; exact KS117) (v := some (.int (1 : Int32))) (fun h => by rw [Bd.returns] at h; cases h)
            refine ⟨_, _, pre0 _ (K154 _ ?_), hrun, hended, _, _, rfl, ?_, hRW.1, hRW.2.1, hRW.2.2.1, hRW.2.2.2.mono (by decide) (by decide)⟩
            · show Steps p.tables e below (T153.setTop (mkF m 371 #[.val (.int p0), .val (.long q1), .second, .val (.long q2), .second, .val (.long q3), .second, .val (.int p4), .val (.int (gn p0)), .val (.int (gk p0)), .val (.int (gs p0)), .val (.ref b1), .val (.ref b59), .val (.ref b102), .val (.int (1 : Int32)), .val (.int (0 : Int32))] [(.int (1 : Int32))])) _
              exact retN X153 hx (t := .boolean) Bd.returns (by simp) (hb hby at_371) hr
            · show Q0 Z p0 q1 q2 q3 p4  h0 n0 _ T153.heap _
              rw [e153]
              exact ⟨rfl, N117⟩
      · skip
        obtain ⟨cq155, kq155, q155a, q155b, q155c⟩ := isOf hZ rfl G120
        obtain ⟨_, _, ⟨T155, L155, k155, n155⟩, -, X155, ⟨Lc155, hQ155, l155, y155, z155⟩, st155⟩ := X117.virtualBack hx (y := (⟨"operand/Spelling", "isAt", "([CI)Z"⟩ : MethodName)) (z := (⟨"operand/Spelling", "isAt", "([CI)Z"⟩ : MethodName)) hown (mvT hZ (hw _ (List.mem_of_getElem? (i := 35) rfl))) (mvT hZ (hw _ (List.mem_of_getElem? (i := 36) rfl))) (notFace_of_selects (args := #[]) (mvT hZ (hw _ (List.mem_of_getElem? (i := 38) rfl)))) (mvT hZ (hw _ (List.mem_of_getElem? (i := 38) rfl))) (mvT hZ (hw _ (List.mem_of_getElem? (i := 37) rfl))) (by decide) (backOf (W := 0) (rm4 l Z a0 hw [] b102 b1 (gs p0) b59 fv52 fv90 N K S T117.heap n0 Z117 F117q G118 G119 hS hS7 hN7 hK3) hZ (hw _ (List.mem_of_getElem? (i := 39) rfl)) (hw _ (List.mem_of_getElem? (i := 3) rfl)) (by decide) (by decide)) q155a q155c (g := (mkF m 358 #[.val (.int p0), .val (.long q1), .second, .val (.long q2), .second, .val (.long q3), .second, .val (.int p4), .val (.int (gn p0)), .val (.int (gk p0)), .val (.int (gs p0)), .val (.ref b1), .val (.ref b59), .val (.ref b102), .val (.int (1 : Int32)), .val (.int (0 : Int32))] [(.int (gs p0)), (.ref b1), (.ref b102)])) rfl (by rw [hml]; rfl) (Steps.refl _) (argsL := [(.ref b1), (.int (gs p0))]) (rest := []) (lenOf pd_3 rfl) rfl (by show 2 * 0 + _ ≤ _; exact Nat.le_of_eq rfl) (hb hby at_358) (fun _ _ => ⟨rfl, rfl, (by decide : 5 + 0 ≤ _), (by decide : 20 + 0 ≤ _)⟩)
        dsimp only [Pt.U, Pt.locs, Pt.cells, Pt.slots] at X155 l155 y155 z155 st155 hQ155
        subst l155 y155 z155
        obtain ⟨r155, rfl, hr01, hriff, rfl, e155⟩ := hQ155
        try rw [List.append_nil] at X155
        have K156 : ∀ t, Steps p.tables e below (T155.setTop (mkF m 371 #[.val (.int p0), .val (.long q1), .second, .val (.long q2), .second, .val (.long q3), .second, .val (.int p4), .val (.int (gn p0)), .val (.int (gk p0)), .val (.int (gs p0)), .val (.ref b1), .val (.ref b59), .val (.ref b102), .val (.int (1 : Int32)), .val (.int (0 : Int32))] [(.int (1 : Int32))])) t → Steps p.tables e below (s₁.setTop (mkF m 0 #[.val (.int p0), .val (.long q1), .second, .val (.long q2), .second, .val (.long q3), .second, .val (.int p4), .unset, .unset, .unset, .unset, .unset, .unset, .unset, .unset] [])) t := by
          intro t kt
          refine K133 _ ?_
          show Steps p.tables e below (T117.setTop (mkF m 302 #[.val (.int p0), .val (.long q1), .second, .val (.long q2), .second, .val (.long q3), .second, .val (.int p4), .val (.int (gn p0)), .val (.int (gk p0)), .val (.int (gs p0)), .val (.ref b1), .val (.ref b59), .val (.ref b102), .val (.int (1 : Int32)), .unset] [(.int (fv90 0)), (.int (fv52 S))])) _
          refine XS.icmpYes X117.here hx rfl (pc0 := 302) (pc' := 349) rfl (hb hby at_302) rfl (feq hc134).2 (by decide) (by decide) ?_
          show Steps p.tables e below (T117.setTop (mkF m 349 #[.val (.int p0), .val (.long q1), .second, .val (.long q2), .second, .val (.long q3), .second, .val (.int p4), .val (.int (gn p0)), .val (.int (gk p0)), .val (.int (gs p0)), .val (.ref b1), .val (.ref b59), .val (.ref b102), .val (.int (1 : Int32)), .unset] [])) _
          refine XS.iconst X117.here hx rfl (hb hby at_349) ?_
          show Steps p.tables e below (T117.setTop (mkF m 350 #[.val (.int p0), .val (.long q1), .second, .val (.long q2), .second, .val (.long q3), .second, .val (.int p4), .val (.int (gn p0)), .val (.int (gk p0)), .val (.int (gs p0)), .val (.ref b1), .val (.ref b59), .val (.ref b102), .val (.int (1 : Int32)), .unset] [(.int (0 : Int32))])) _
          refine XS.istore X117.here hx rfl (hb hby at_350) rfl (l' := #[.val (.int p0), .val (.long q1), .second, .val (.long q2), .second, .val (.long q3), .second, .val (.int p4), .val (.int (gn p0)), .val (.int (gk p0)), .val (.int (gs p0)), .val (.ref b1), .val (.ref b59), .val (.ref b102), .val (.int (1 : Int32)), .val (.int (0 : Int32))]) rfl ?_
          show Steps p.tables e below (T117.setTop (mkF m 352 #[.val (.int p0), .val (.long q1), .second, .val (.long q2), .second, .val (.long q3), .second, .val (.int p4), .val (.int (gn p0)), .val (.int (gk p0)), .val (.int (gs p0)), .val (.ref b1), .val (.ref b59), .val (.ref b102), .val (.int (1 : Int32)), .val (.int (0 : Int32))] [])) _
          refine XS.aload X117.here hx rfl (hb hby at_352) rfl rfl ?_
          show Steps p.tables e below (T117.setTop (mkF m 354 #[.val (.int p0), .val (.long q1), .second, .val (.long q2), .second, .val (.long q3), .second, .val (.int p4), .val (.int (gn p0)), .val (.int (gk p0)), .val (.int (gs p0)), .val (.ref b1), .val (.ref b59), .val (.ref b102), .val (.int (1 : Int32)), .val (.int (0 : Int32))] [(.ref b102)])) _
          refine XS.aload X117.here hx rfl (hb hby at_354) rfl rfl ?_
          show Steps p.tables e below (T117.setTop (mkF m 356 #[.val (.int p0), .val (.long q1), .second, .val (.long q2), .second, .val (.long q3), .second, .val (.int p4), .val (.int (gn p0)), .val (.int (gk p0)), .val (.int (gs p0)), .val (.ref b1), .val (.ref b59), .val (.ref b102), .val (.int (1 : Int32)), .val (.int (0 : Int32))] [(.ref b1), (.ref b102)])) _
          refine XS.iload X117.here hx rfl (hb hby at_356) rfl ?_
          show Steps p.tables e below (T117.setTop (mkF m 358 #[.val (.int p0), .val (.long q1), .second, .val (.long q2), .second, .val (.long q3), .second, .val (.int p4), .val (.int (gn p0)), .val (.int (gk p0)), .val (.int (gs p0)), .val (.ref b1), .val (.ref b59), .val (.ref b102), .val (.int (1 : Int32)), .val (.int (0 : Int32))] [(.int (gs p0)), (.ref b1), (.ref b102)])) _
          refine st155.trans ?_
          show Steps p.tables e below (T155.setTop (mkF m 361 #[.val (.int p0), .val (.long q1), .second, .val (.long q2), .second, .val (.long q3), .second, .val (.int p4), .val (.int (gn p0)), .val (.int (gk p0)), .val (.int (gs p0)), .val (.ref b1), .val (.ref b59), .val (.ref b102), .val (.int (1 : Int32)), .val (.int (0 : Int32))] [(.int r155)])) _
          refine XS.iload X155.here hx rfl (hb hby at_361) rfl ?_
          show Steps p.tables e below (T155.setTop (mkF m 363 #[.val (.int p0), .val (.long q1), .second, .val (.long q2), .second, .val (.long q3), .second, .val (.int p4), .val (.int (gn p0)), .val (.int (gk p0)), .val (.int (gs p0)), .val (.ref b1), .val (.ref b59), .val (.ref b102), .val (.int (1 : Int32)), .val (.int (0 : Int32))] [(.int (0 : Int32)), (.int r155)])) _
          refine XS.icmpNo X155.here hx rfl (hb hby at_363) rfl (teq (show r155 = (0 : Int32) from (hr01.resolve_left fun z => hc134 ((hriff.mp z).2 0 (by omega))))).2 ?_
          show Steps p.tables e below (T155.setTop (mkF m 366 #[.val (.int p0), .val (.long q1), .second, .val (.long q2), .second, .val (.long q3), .second, .val (.int p4), .val (.int (gn p0)), .val (.int (gk p0)), .val (.int (gs p0)), .val (.ref b1), .val (.ref b59), .val (.ref b102), .val (.int (1 : Int32)), .val (.int (0 : Int32))] [])) _
          refine XS.iconst X155.here hx rfl (hb hby at_366) ?_
          show Steps p.tables e below (T155.setTop (mkF m 367 #[.val (.int p0), .val (.long q1), .second, .val (.long q2), .second, .val (.long q3), .second, .val (.int p4), .val (.int (gn p0)), .val (.int (gk p0)), .val (.int (gs p0)), .val (.ref b1), .val (.ref b59), .val (.ref b102), .val (.int (1 : Int32)), .val (.int (0 : Int32))] [(.int (1 : Int32))])) _
          refine XS.goto X155.here hx rfl (pc0 := 367) (pc' := 371) rfl (hb hby at_367) (by decide) (by decide) ?_
          exact kt
        obtain ⟨fsQ, hr, hrun, hended, hRW⟩ := X155.leaveW (s := s) hS107 (by rw [e155]; exact KS117) (v := some (.int (1 : Int32))) (fun h => by rw [Bd.returns] at h; cases h)
        refine ⟨_, _, pre0 _ (K156 _ ?_), hrun, hended, _, _, rfl, ?_, hRW.1, hRW.2.1, hRW.2.2.1, hRW.2.2.2.mono (by decide) (by decide)⟩
        · show Steps p.tables e below (T155.setTop (mkF m 371 #[.val (.int p0), .val (.long q1), .second, .val (.long q2), .second, .val (.long q3), .second, .val (.int p4), .val (.int (gn p0)), .val (.int (gk p0)), .val (.int (gs p0)), .val (.ref b1), .val (.ref b59), .val (.ref b102), .val (.int (1 : Int32)), .val (.int (0 : Int32))] [(.int (1 : Int32))])) _
          exact retN X155 hx (t := .boolean) Bd.returns (by simp) (hb hby at_371) hr
        · show Q0 Z p0 q1 q2 q3 p4  h0 n0 _ T155.heap _
          rw [e155]
          exact ⟨rfl, N117⟩
set_option maxRecDepth 65536 in
set_option maxHeartbeats 40000000 in
theorem comes_1 {Post : Tables → Env → Array Value → State → Outcome → State → Prop} (hpost : ∀ tb e args s v u, (limb_1_1.after args s (.returned v) u = true ∧ limb_1_2.after args s (.returned v) u = true ∧ True) → ReturnedEndW s (.returned v) u (Jvm.fieldLocs frame_1_writes args s ++ Jvm.arrayLocs frame_1_arrays args s ++ Jvm.staticLocs frame_1_statics s) 16 1152 → Post tb e args s (.returned v) u) :
    ArmFor flags0 classFile x code maxLocals ret World_1 tables_1 room_1 Calls_1 rest_1 Pre_1 Post := by
  intro l hfl _ _ p e ha hc hk s m args below hf hA hF happ hP
  obtain ⟨hcalls, hrest, hpre⟩ := hP
  obtain ⟨-, -, -, hnamed, -, -, -, hat⟩ := (Spec.applies_iff hf).mp happ
  obtain ⟨hg, hn⟩ := and_e (Cond.before_iff.mp (show (Jvm.Cond.and given_1 narrow_1).before args s = true from hpre))
  obtain ⟨hcount, hk0⟩ := and_e hg
  obtain ⟨hi0, hk1⟩ := and_e hk0
  obtain ⟨hi1, hk2⟩ := and_e hk1
  obtain ⟨hi2, hk3⟩ := and_e hk2
  obtain ⟨hi3, hk4⟩ := and_e hk3
  have hi4 := hk4
  obtain ⟨w0, w1, w2, w3, w4, rfl⟩ : ∃ w0 w1 w2 w3 w4 : Value, args = #[w0, w1, w2, w3, w4] := by
    have hs : args.size = 5 := by simpa [Cond.value, given_1] using hcount
    obtain ⟨L⟩ := args
    match L, hs with
    | [w0, w1, w2, w3, w4], _ => exact ⟨w0, w1, w2, w3, w4, rfl⟩
  have hw := fun d (hd : d ∈ tables_1) => atoms_spec (ws := Jvm.Cond.code x code maxLocals ret :: tables_1) hat d (List.mem_cons_of_mem _ hd)
  obtain ⟨i0, ei0⟩ := is_v hi0
  obtain rfl : w0 = (.int i0) := Option.some.inj ei0
  obtain ⟨i1, ei1⟩ := isL_v hi1
  obtain rfl : w1 = (.long i1) := Option.some.inj ei1
  obtain ⟨i2, ei2⟩ := isL_v hi2
  obtain rfl : w2 = (.long i2) := Option.some.inj ei2
  obtain ⟨i3, ei3⟩ := isL_v hi3
  obtain rfl : w3 = (.long i3) := Option.some.inj ei3
  obtain ⟨i4, ei4⟩ := is_v hi4
  obtain rfl : w4 = (.int i4) := Option.some.inj ei4
  obtain ⟨n, o, h1, h2, h3, v, L, rfl, hQ, hq⟩ := rm0 l s _ hw tables_1 i0 i1 i2 i3 i4 s.heap s.heap.size (Nat.le_refl _) p e ha hc hk s m _ below hf ((Spec.applies_iff_loose hf).mp happ).1 ⟨rfl, State.Warmed39.refl s, rfl⟩ trivial
  obtain ⟨rfl, N⟩ : v = some (.int 1) ∧ Fr s.heap.size L := by
    exact ⟨hQ.1, hQ.2⟩
  refine ⟨n, _, h1, h2, h3, hpost _ _ _ _ _ _ ⟨Cond.after_iff.mpr rfl, Cond.after_iff.mpr (eq_i res_at (Term.int_eval (1)) rfl), trivial⟩ ⟨hq.1, hq.2.1, hq.2.2.1, (hq.2.2.2.sift fun y hy => Or.inr (N y hy)).mono (by decide) (by decide)⟩⟩
theorem main_1_1 : Claimed_1_1 := comes_1 fun _ _ _ _ _ _ h hF => ⟨h.1, hF⟩
theorem main_1_2 : Claimed_1_2 := comes_1 fun _ _ _ _ _ _ h hF => ⟨h.2.1, hF⟩
end Jvm.Pilot.@@N@@
namespace Jvm.Pilot.@@N@@
open Jvm Jvm.ClassFile Sem Op Lib Jvm.Free Jvm.Stand Jvm.Pilot.@@N@@.Jvm.D
/-! MADE BY PROGRAM (witnessworld.py) out of the Statement's table words and the real class files: 17 classes; the members and pool entries that the words name. The judged class is class 1, her method 1. -/
namespace start1
open Jvm.ClassFile
def u (s : String) : CpInfo := .utf8 (stringToUtf16 s)
/-- a pool by its gaps: so many unusable entries, then the entry; so many at the end -/
def gap : Nat → List CpInfo → List CpInfo
  | 0, r => r
  | n + 1, r => .unusable :: gap n r
def poolList (es : List (Nat × CpInfo)) (last : Nat) : List CpInfo := es.foldr (fun e r => gap e.1 (e.2 :: r)) (gap last [])
def pool (es : List (Nat × CpInfo)) (last : Nat) : Array CpInfo := ⟨poolList es last⟩
def fileOf (pool : Array CpInfo) (this : Nat) (attrs : Array Attribute := #[]) (ms : Array MethodInfo := #[]) (fl : Nat := 33) (sup : Nat := 0) (ifs : Array Nat := #[]) (fds : Array FieldInfo := #[]) : ClassFile where
  minorVersion := 0
  majorVersion := 65
  constantPool := pool
  accessFlags := fl
  thisClass := this
  superClass := sup
  interfaces := ifs
  fields := fds
  methods := ms
  attributes := attrs
def plain (name : String) (sup : Option ClassId) : Class where
  name := name
  kind := .ordinary
  loader := none
  accessFlags := 33
  super := sup
  interfaces := #[]
  cf := none
  fields := #[]
  methods := #[]
  instanceTypes := #[]
  staticTypes := #[]
  resolved := #[]
  callSites := []
  init := .initialized
  statics := none
  mirror := none

def pool0 : Array CpInfo := pool [(5, u "<init>"), (0, u "()V"), (1, .class_ 10), (1, u "java/lang/Object")] 113

def k0c0 : Code := { maxStack := 0, maxLocals := 1, code := object_method_1_code, exceptionTable := #[], attributes := #[] }
def k0m0 : Method := { name := "<init>", desc := "()V", sig := { parameters := [], returnType := none }, accessFlags := 1, code := some k0c0 }
/-- java/lang/Object -/
def k0 : Class := { plain "java/lang/Object" none with
  accessFlags := 33
  interfaces := #[]
  cf := some (fileOf pool0 8 #[] #[{ accessFlags := 1, nameIndex := 5, descriptorIndex := 6, attributes := #[] }] 33 0 #[] #[])
  fields := #[]
  methods := #[k0m0]
  instanceTypes := #[]
  staticTypes := #[]
  resolved := Array.replicate 124 none
  statics := none }

def pool1 : Array CpInfo := pool [(2, .class_ 4), (1, u "java/lang/Object"), (0, u "<init>"), (0, u "()V"), (0, .methodref 8 9), (0, .class_ 10), (0, .nameAndType 11 12), (0, u "operand/SpellingIsAtPinLaw"), (0, u "pick"), (0, u "([CICZ)C"), (0, .class_ 14), (0, u "operand/Spelling"), (0, .string 16), (0, u ""), (0, .methodref 13 18), (0, .nameAndType 5 19), (0, u "(Ljava/lang/String;[CJLoperand/Operator;Loperand/PrefixOperator;Z)V"), (0, .methodref 13 21), (0, .nameAndType 22 23), (0, u "isAt"), (0, u "([CI)Z"), (2, u "law"), (0, u "(IJJJI)Z")] 5

def k1m0 : Method := { name := "<init>", desc := "()V", sig := { parameters := [], returnType := none }, accessFlags := 1, code := none }
def k1c1 : Code := { maxStack := 9, maxLocals := 16, code := code, exceptionTable := #[], attributes := #[] }
def k1m1 : Method := { name := "law", desc := "(IJJJI)Z", sig := { parameters := [.int, .long, .long, .long, .int], returnType := some .boolean }, accessFlags := 9, code := some k1c1 }
def k1c2 : Code := { maxStack := 2, maxLocals := 4, code := method_3_code, exceptionTable := #[], attributes := #[] }
def k1m2 : Method := { name := "pick", desc := "([CICZ)C", sig := { parameters := [(.array .char), .int, .char, .boolean], returnType := some .char }, accessFlags := 10, code := some k1c2 }
/-- operand/SpellingIsAtPinLaw -/
def k1 : Class := { plain "operand/SpellingIsAtPinLaw" (some 0) with
  accessFlags := 49
  interfaces := #[]
  cf := some (fileOf pool1 8 #[] #[{ accessFlags := 1, nameIndex := 5, descriptorIndex := 6, attributes := #[] }, { accessFlags := 9, nameIndex := 26, descriptorIndex := 27, attributes := #[] }, { accessFlags := 10, nameIndex := 11, descriptorIndex := 12, attributes := #[] }] 49 2 #[] #[])
  fields := #[]
  methods := #[k1m0, k1m1, k1m2]
  instanceTypes := #[]
  staticTypes := #[]
  resolved := Array.replicate 33 none
  statics := none }

def pool2 : Array CpInfo := pool [(1, .methodref 2 3), (0, .class_ 4), (0, .nameAndType 5 6), (0, u "java/lang/Object"), (0, u "<init>"), (0, u "()V"), (0, .class_ 8), (0, u "java/lang/Record")] 13

def k2c0 : Code := { maxStack := 1, maxLocals := 1, code := jdk_30_method_1_code, exceptionTable := #[], attributes := #[] }
def k2m0 : Method := { name := "<init>", desc := "()V", sig := { parameters := [], returnType := none }, accessFlags := 4, code := some k2c0 }
/-- java/lang/Record -/
def k2 : Class := { plain "java/lang/Record" (some 0) with
  accessFlags := 1057
  interfaces := #[]
  cf := some (fileOf pool2 7 #[] #[{ accessFlags := 4, nameIndex := 5, descriptorIndex := 6, attributes := #[] }] 1057 2 #[] #[])
  fields := #[]
  methods := #[k2m0]
  instanceTypes := #[]
  staticTypes := #[]
  resolved := Array.replicate 22 none
  statics := none }

def pool3 : Array CpInfo := pool [(3, .methodref 4 5), (0, .class_ 6), (0, .nameAndType 7 8), (0, u "java/lang/Record"), (0, u "<init>"), (0, u "()V"), (0, .fieldref 10 11), (0, .class_ 12), (0, .nameAndType 13 14), (0, u "operand/Spelling"), (0, u "text"), (0, u "Ljava/lang/String;"), (0, .fieldref 10 16), (0, .nameAndType 17 18), (0, u "characters"), (0, u "[C"), (0, .fieldref 10 20), (0, .nameAndType 21 22), (0, u "key"), (0, u "J"), (0, .fieldref 10 24), (0, .nameAndType 25 26), (0, u "binary"), (0, u "Loperand/Operator;"), (0, .fieldref 10 28), (0, .nameAndType 29 30), (0, u "prefix"), (0, u "Loperand/PrefixOperator;"), (0, .fieldref 10 32), (0, .nameAndType 33 34), (0, u "reserved"), (0, u "Z"), (34, u "RESERVED"), (0, u "Ljava/util/Set;"), (8, u "(Ljava/lang/String;[CJLoperand/Operator;Loperand/PrefixOperator;Z)V"), (8, u "WORDS"), (0, u "[Loperand/Spelling;"), (2, u "isAt"), (0, u "([CI)Z"), (60, u "KEYED_LENGTH"), (0, u "I"), (2, u "INEXACT"), (0, u "SLOT_BITS"), (1, u "SPREAD")] 36

def k3c0 : Code := { maxStack := 3, maxLocals := 8, code := prog_66_method_1_code, exceptionTable := #[], attributes := #[] }
def k3m0 : Method := { name := "<init>", desc := "(Ljava/lang/String;[CJLoperand/Operator;Loperand/PrefixOperator;Z)V", sig := { parameters := [(.object "java/lang/String"), (.array .char), .long, (.object "operand/Operator"), (.object "operand/PrefixOperator"), .boolean], returnType := none }, accessFlags := 0, code := some k3c0 }
def k3c1 : Code := { maxStack := 3, maxLocals := 4, code := prog_66_method_6_code, exceptionTable := #[], attributes := #[] }
def k3m1 : Method := { name := "isAt", desc := "([CI)Z", sig := { parameters := [(.array .char), .int], returnType := some .boolean }, accessFlags := 0, code := some k3c1 }
/-- operand/Spelling -/
def k3 : Class := { plain "operand/Spelling" (some 2) with
  accessFlags := 48
  interfaces := #[]
  cf := some (fileOf pool3 10 #[] #[{ accessFlags := 0, nameIndex := 7, descriptorIndex := 79, attributes := #[] }, { accessFlags := 0, nameIndex := 92, descriptorIndex := 93, attributes := #[] }] 48 4 #[] #[{ accessFlags := 18, nameIndex := 13, descriptorIndex := 14, attributes := #[] }, { accessFlags := 18, nameIndex := 17, descriptorIndex := 18, attributes := #[] }, { accessFlags := 18, nameIndex := 21, descriptorIndex := 22, attributes := #[] }, { accessFlags := 18, nameIndex := 25, descriptorIndex := 26, attributes := #[] }, { accessFlags := 18, nameIndex := 29, descriptorIndex := 30, attributes := #[] }, { accessFlags := 18, nameIndex := 33, descriptorIndex := 34, attributes := #[] }, { accessFlags := 24, nameIndex := 69, descriptorIndex := 70, attributes := #[] }, { accessFlags := 24, nameIndex := 154, descriptorIndex := 155, attributes := #[] }, { accessFlags := 26, nameIndex := 158, descriptorIndex := 22, attributes := #[] }, { accessFlags := 26, nameIndex := 159, descriptorIndex := 155, attributes := #[] }, { accessFlags := 26, nameIndex := 161, descriptorIndex := 22, attributes := #[] }, { accessFlags := 26, nameIndex := 88, descriptorIndex := 89, attributes := #[] }])
  fields := #[{ name := "text", type := (.object "java/lang/String"), accessFlags := 18, slot := 0, constantValue := 0 }, { name := "characters", type := (.array .char), accessFlags := 18, slot := 1, constantValue := 0 }, { name := "key", type := .long, accessFlags := 18, slot := 2, constantValue := 0 }, { name := "binary", type := (.object "operand/Operator"), accessFlags := 18, slot := 3, constantValue := 0 }, { name := "prefix", type := (.object "operand/PrefixOperator"), accessFlags := 18, slot := 4, constantValue := 0 }, { name := "reserved", type := .boolean, accessFlags := 18, slot := 5, constantValue := 0 }, { name := "RESERVED", type := (.object "java/util/Set"), accessFlags := 24, slot := 0, constantValue := 0 }, { name := "KEYED_LENGTH", type := .int, accessFlags := 24, slot := 1, constantValue := 0 }, { name := "INEXACT", type := .long, accessFlags := 26, slot := 2, constantValue := 0 }, { name := "SLOT_BITS", type := .int, accessFlags := 26, slot := 3, constantValue := 0 }, { name := "SPREAD", type := .long, accessFlags := 26, slot := 4, constantValue := 0 }, { name := "WORDS", type := (.array (.object "operand/Spelling")), accessFlags := 26, slot := 5, constantValue := 0 }]
  methods := #[k3m0, k3m1]
  instanceTypes := #[(.object "java/lang/String"), (.array .char), .long, (.object "operand/Operator"), (.object "operand/PrefixOperator"), .boolean]
  staticTypes := #[(.object "java/util/Set"), .int, .long, .int, .long, (.array (.object "operand/Spelling"))]
  resolved := Array.replicate 198 none
  statics := none }

def pool4 : Array CpInfo := pool [(1, .class_ 2), (0, u "java/io/Serializable"), (0, .class_ 4), (0, u "java/lang/Object")] 2

/-- java/io/Serializable -/
def k4 : Class := { plain "java/io/Serializable" (some 0) with
  accessFlags := 1537
  interfaces := #[]
  cf := some (fileOf pool4 1 #[] #[] 1537 3 #[] #[])
  fields := #[]
  methods := #[]
  instanceTypes := #[]
  staticTypes := #[]
  resolved := Array.replicate 7 none
  statics := none }

def pool5 : Array CpInfo := pool [(1, .class_ 2), (0, u "java/lang/Comparable"), (0, .class_ 4), (0, u "java/lang/Object")] 7

/-- java/lang/Comparable -/
def k5 : Class := { plain "java/lang/Comparable" (some 0) with
  accessFlags := 1537
  interfaces := #[]
  cf := some (fileOf pool5 1 #[] #[] 1537 3 #[] #[])
  fields := #[]
  methods := #[]
  instanceTypes := #[]
  staticTypes := #[]
  resolved := Array.replicate 12 none
  statics := none }

def pool6 : Array CpInfo := pool [(2, .class_ 4), (1, u "java/lang/CharSequence"), (42, .class_ 48), (0, u "java/lang/CharSequence$1CodePointIterator"), (10, .class_ 60), (0, u "java/lang/CharSequence$1CharIterator"), (5, .class_ 67), (0, u "java/lang/Object")] 63

/-- java/lang/CharSequence -/
def k6 : Class := { plain "java/lang/CharSequence" (some 0) with
  accessFlags := 1537
  interfaces := #[]
  cf := some (fileOf pool6 2 #[.nestMembers #[47, 59]] #[] 1537 66 #[] #[])
  fields := #[]
  methods := #[]
  instanceTypes := #[]
  staticTypes := #[]
  resolved := Array.replicate 131 none
  statics := none }

def pool7 : Array CpInfo := pool [(1, .class_ 2), (0, u "java/lang/constant/Constable"), (0, .class_ 4), (0, u "java/lang/Object")] 6

/-- java/lang/constant/Constable -/
def k7 : Class := { plain "java/lang/constant/Constable" (some 0) with
  accessFlags := 1537
  interfaces := #[]
  cf := some (fileOf pool7 1 #[] #[] 1537 3 #[] #[])
  fields := #[]
  methods := #[]
  instanceTypes := #[]
  staticTypes := #[]
  resolved := Array.replicate 11 none
  statics := none }

def pool8 : Array CpInfo := pool [(1, .class_ 2), (0, u "java/lang/constant/ConstantDesc"), (0, .class_ 4), (0, u "java/lang/Object")] 32

/-- java/lang/constant/ConstantDesc -/
def k8 : Class := { plain "java/lang/constant/ConstantDesc" (some 0) with
  accessFlags := 1537
  interfaces := #[]
  cf := some (fileOf pool8 1 #[] #[] 1537 3 #[] #[])
  fields := #[]
  methods := #[]
  instanceTypes := #[]
  staticTypes := #[]
  resolved := Array.replicate 37 none
  statics := none }

def pool9 : Array CpInfo := pool [(2, .class_ 4), (1, u "java/lang/Object"), (0, u "<init>"), (0, u "()V"), (3, .class_ 12), (1, u "java/lang/String"), (0, u "value"), (0, u "[B"), (2, u "coder"), (0, u "B"), (2, u "hash"), (0, u "I"), (2, u "hashIsZero"), (0, u "Z"), (13, u "COMPACT_STRINGS"), (534, .class_ 576), (0, u "java/lang/CharSequence"), (22, u "CASE_INSENSITIVE_ORDER"), (0, u "Ljava/util/Comparator;"), (500, u "serialPersistentFields"), (0, u "[Ljava/io/ObjectStreamField;"), (0, .class_ 1104), (0, u "java/lang/String$CaseInsensitiveComparator"), (1, .class_ 1107), (0, u "java/io/Serializable"), (0, .class_ 1109), (0, u "java/lang/Comparable"), (0, .class_ 1111), (0, u "java/lang/constant/Constable"), (0, .class_ 1113), (0, u "java/lang/constant/ConstantDesc"), (2, u "serialVersionUID"), (0, u "J"), (3, u "REPL"), (0, u "C"), (2, u "LATIN1"), (1, u "UTF16")] 323

def k9m0 : Method := { name := "<init>", desc := "()V", sig := { parameters := [], returnType := none }, accessFlags := 1, code := none }
/-- java/lang/String -/
def k9 : Class := { plain "java/lang/String" (some 0) with
  accessFlags := 49
  interfaces := #[4, 5, 6, 7, 8]
  cf := some (fileOf pool9 10 #[.nestMembers #[1103]] #[{ accessFlags := 1, nameIndex := 5, descriptorIndex := 6, attributes := #[] }] 49 2 #[1106, 1108, 575, 1110, 1112] #[{ accessFlags := 18, nameIndex := 13, descriptorIndex := 14, attributes := #[] }, { accessFlags := 18, nameIndex := 17, descriptorIndex := 18, attributes := #[] }, { accessFlags := 2, nameIndex := 21, descriptorIndex := 22, attributes := #[] }, { accessFlags := 2, nameIndex := 25, descriptorIndex := 26, attributes := #[] }, { accessFlags := 26, nameIndex := 1116, descriptorIndex := 1117, attributes := #[] }, { accessFlags := 24, nameIndex := 40, descriptorIndex := 26, attributes := #[] }, { accessFlags := 26, nameIndex := 1101, descriptorIndex := 1102, attributes := #[] }, { accessFlags := 26, nameIndex := 1121, descriptorIndex := 1122, attributes := #[] }, { accessFlags := 25, nameIndex := 599, descriptorIndex := 600, attributes := #[] }, { accessFlags := 24, nameIndex := 1125, descriptorIndex := 18, attributes := #[] }, { accessFlags := 24, nameIndex := 1127, descriptorIndex := 18, attributes := #[] }])
  fields := #[{ name := "value", type := (.array .byte), accessFlags := 18, slot := 0, constantValue := 0 }, { name := "coder", type := .byte, accessFlags := 18, slot := 1, constantValue := 0 }, { name := "hash", type := .int, accessFlags := 2, slot := 2, constantValue := 0 }, { name := "hashIsZero", type := .boolean, accessFlags := 2, slot := 3, constantValue := 0 }, { name := "serialVersionUID", type := .long, accessFlags := 26, slot := 0, constantValue := 0 }, { name := "COMPACT_STRINGS", type := .boolean, accessFlags := 24, slot := 1, constantValue := 0 }, { name := "serialPersistentFields", type := (.array (.object "java/io/ObjectStreamField")), accessFlags := 26, slot := 2, constantValue := 0 }, { name := "REPL", type := .char, accessFlags := 26, slot := 3, constantValue := 0 }, { name := "CASE_INSENSITIVE_ORDER", type := (.object "java/util/Comparator"), accessFlags := 25, slot := 4, constantValue := 0 }, { name := "LATIN1", type := .byte, accessFlags := 24, slot := 5, constantValue := 0 }, { name := "UTF16", type := .byte, accessFlags := 24, slot := 6, constantValue := 0 }]
  methods := #[k9m0]
  instanceTypes := #[(.array .byte), .byte, .int, .boolean]
  staticTypes := #[.long, .boolean, (.array (.object "java/io/ObjectStreamField")), .char, (.object "java/util/Comparator"), .byte, .byte]
  resolved := Array.replicate 1451 none
  statics := none }

def pool10 : Array CpInfo := pool [(1, u "java/lang/Cloneable"), (0, .class_ 1), (0, u "java/lang/Object"), (0, .class_ 3)] 3

/-- java/lang/Cloneable -/
def k10 : Class := { plain "java/lang/Cloneable" (some 0) with
  accessFlags := 1537
  interfaces := #[]
  cf := some (fileOf pool10 2 #[] #[] 1537 4 #[] #[])
  fields := #[]
  methods := #[]
  instanceTypes := #[]
  staticTypes := #[]
  resolved := Array.replicate 8 none
  statics := none }

/-- the primitive byte -/
def k11 : Class := { plain "byte" none with kind := .primitive 'B', accessFlags := 0x411 }
/-- [B -/
def k12 : Class := { plain "[B" (some 0) with kind := .array 11 .byte, interfaces := #[10, 4], accessFlags := 1041 }

/-- the primitive char -/
def k13 : Class := { plain "char" none with kind := .primitive 'C', accessFlags := 0x411 }
/-- [C -/
def k14 : Class := { plain "[C" (some 0) with kind := .array 13 .char, interfaces := #[10, 4], accessFlags := 1041 }

/-- the primitive int -/
def k15 : Class := { plain "int" none with kind := .primitive 'I', accessFlags := 0x411 }
/-- [I -/
def k16 : Class := { plain "[I" (some 0) with kind := .array 15 .int, interfaces := #[10, 4], accessFlags := 1041 }

def heap : Heap := #[]
def classes : Array Class := #[k0, k1, k2, k3, k4, k5, k6, k7, k8, k9, k10, k11, k12, k13, k14, k15, k16]
def interned : List (Array UInt16 × Addr) := []
def slotsUsed : Nat := 0
def theMethod : MethodId := ⟨1, 1⟩
def args0 : Array Value := #[.int 5, .long 5, .long 5, .long 5, .int 5]
def aboutOver (below : List Frame) : State where
  vm := { classes := classes, interned := interned.toArray }
  heap := heap
  slotsUsed := slotsUsed
  threads := #[{ frames := .invoking theMethod args0 :: below }]
def below0 : List Frame := [.native { method := ⟨0, 0⟩, args := #[] }]
def about1 : State := aboutOver below0
def p0 : Program := .bare "" "" ""
def e0 : Env := launch0.env 0 0 0
theorem w_frames : about1.frames = Frame.invoking theMethod args0 :: below0 := rfl
set_option maxRecDepth 65536 in
theorem w_args : argsFit about1.vm theMethod args0 = true := by decide +kernel
set_option maxRecDepth 65536 in
theorem w_heap : heapFits about1 = true := by decide +kernel
set_option maxRecDepth 65536 in
theorem w_runnable : about1.curStatus? = some .runnable := by decide +kernel
set_option maxRecDepth 65536 in
theorem w_alone : about1.alone = true := by decide +kernel
set_option maxRecDepth 65536 in
theorem w_named : about1.methodNamed? x = some theMethod := by decide +kernel
set_option maxRecDepth 65536 in
theorem w_hears : about1.hears theMethod below0 = true := by decide +kernel
set_option maxRecDepth 65536 in
theorem w_ripe : about1.ripe theMethod args0 below0 = true := by decide +kernel
theorem w_running : about1.status = .running := rfl
set_option maxRecDepth 65536 in
theorem w_room : about1.hasRoom e0.platform room_1 = true :=
  launch0.hasRoom_least _ room_1 (by decide +kernel) (by decide +kernel) (by decide +kernel) (by decide +kernel) (by decide +kernel) (by decide +kernel)
theorem allAtoms_all (ts : List Jvm.Cond) (a : Array Jvm.Value) (st : Jvm.State) : (allAtoms ts).before a st = ts.all (fun c => c.before a st) := by
  induction ts with
  | nil => rfl
  | cons c t ih =>
    show (Jvm.Cond.and c (allAtoms t)).before a st = _
    rw [Jvm.Cond.before_and, ih, List.all_cons]
def words1 : List Jvm.Cond := Jvm.Cond.code x code maxLocals ret :: tables_1
/-- a 'code' word, met by the world's own term for the bytes: nothing is compared byte by byte -/
theorem code_word {y : MethodName} {bytes : ByteArray} {mx : Nat} {rt : Option FieldType} {a : Array Value} {s : State} {m : MethodId} {meth : Method} {c : Code} (h1 : s.methodNamed? y = some m) (h2 : s.vm.method? m = some meth) (h3 : meth.code = some c) (h4 : c.code = bytes)
    (h5 : (c.maxLocals == mx && c.exceptionTable.isEmpty && decide (c.maxStack ≤ mostOperands) && decide (meth.sig.returnType = rt) && !meth.locks && decide (parseMethodDescriptor y.desc = some meth.sig)) = true) : (Jvm.Cond.code y bytes mx rt).before a s = true := by
  simp only [Bool.and_eq_true, beq_iff_eq, Bool.not_eq_true', decide_eq_true_eq] at h5
  obtain ⟨⟨⟨⟨⟨g1, g2⟩, g3⟩, g4⟩, g5⟩, g6⟩ := h5
  simp [Cond.before, Cond.holds, Cond.value, h1, h2, h3, h4, g1, g2, g3, g4, g5, g6]
def isCode : Jvm.Cond → Bool
  | .code _ _ _ _ => true
  | _ => false
theorem all_split {L : List Jvm.Cond} {P : Jvm.Cond → Bool} (h1 : L.all (fun c => isCode c || P c) = true) (h2 : ∀ c ∈ L.filter isCode, P c = true) : L.all P = true := by
  refine List.all_eq_true.mpr fun c hc => ?_
  have h := List.all_eq_true.mp h1 c hc
  rcases Bool.eq_false_or_eq_true (isCode c) with hi | hi
  · exact h2 c (List.mem_filter.mpr ⟨hc, hi⟩)
  · simpa [hi] using h
set_option maxRecDepth 65536 in
theorem w_c0 : (Jvm.Cond.code x code maxLocals ret).before args0 about1 = true := code_word (m := ⟨1, 1⟩) (meth := k1m1) (c := k1c1) (by decide +kernel) rfl rfl rfl (by decide +kernel)
set_option maxRecDepth 65536 in
theorem w_c1 : (Jvm.Cond.code ({ cls := "operand/Spelling", name := "<init>", desc := "(Ljava/lang/String;[CJLoperand/Operator;Loperand/PrefixOperator;Z)V" } : Jvm.MethodName) prog_66_method_1_code (8 : Nat) (Option.none : Option Jvm.ClassFile.FieldType)).before args0 about1 = true := code_word (m := ⟨3, 0⟩) (meth := k3m0) (c := k3c0) (by decide +kernel) rfl rfl rfl (by decide +kernel)
set_option maxRecDepth 65536 in
theorem w_c2 : (Jvm.Cond.code ({ cls := "java/lang/Record", name := "<init>", desc := "()V" } : Jvm.MethodName) jdk_30_method_1_code (1 : Nat) (Option.none : Option Jvm.ClassFile.FieldType)).before args0 about1 = true := code_word (m := ⟨2, 0⟩) (meth := k2m0) (c := k2c0) (by decide +kernel) rfl rfl rfl (by decide +kernel)
set_option maxRecDepth 65536 in
theorem w_c3 : (Jvm.Cond.code ({ cls := "java/lang/Object", name := "<init>", desc := "()V" } : Jvm.MethodName) object_method_1_code (1 : Nat) (Option.none : Option Jvm.ClassFile.FieldType)).before args0 about1 = true := code_word (m := ⟨0, 0⟩) (meth := k0m0) (c := k0c0) (by decide +kernel) rfl rfl rfl (by decide +kernel)
set_option maxRecDepth 65536 in
theorem w_c4 : (Jvm.Cond.code ({ cls := "operand/Spelling", name := "isAt", desc := "([CI)Z" } : Jvm.MethodName) prog_66_method_6_code (4 : Nat) (Option.some Jvm.ClassFile.FieldType.boolean)).before args0 about1 = true := code_word (m := ⟨3, 1⟩) (meth := k3m1) (c := k3c1) (by decide +kernel) rfl rfl rfl (by decide +kernel)
set_option maxRecDepth 65536 in
theorem w_c5 : (Jvm.Cond.code ({ cls := "operand/SpellingIsAtPinLaw", name := "pick", desc := "([CICZ)C" } : Jvm.MethodName) method_3_code (4 : Nat) (Option.some Jvm.ClassFile.FieldType.char)).before args0 about1 = true := code_word (m := ⟨1, 2⟩) (meth := k1m2) (c := k1c2) (by decide +kernel) rfl rfl rfl (by decide +kernel)
def codes1 : List Jvm.Cond := [Jvm.Cond.code x code maxLocals ret, Jvm.Cond.code ({ cls := "operand/Spelling", name := "<init>", desc := "(Ljava/lang/String;[CJLoperand/Operator;Loperand/PrefixOperator;Z)V" } : Jvm.MethodName) prog_66_method_1_code (8 : Nat) (Option.none : Option Jvm.ClassFile.FieldType), Jvm.Cond.code ({ cls := "java/lang/Record", name := "<init>", desc := "()V" } : Jvm.MethodName) jdk_30_method_1_code (1 : Nat) (Option.none : Option Jvm.ClassFile.FieldType), Jvm.Cond.code ({ cls := "java/lang/Object", name := "<init>", desc := "()V" } : Jvm.MethodName) object_method_1_code (1 : Nat) (Option.none : Option Jvm.ClassFile.FieldType), Jvm.Cond.code ({ cls := "operand/Spelling", name := "isAt", desc := "([CI)Z" } : Jvm.MethodName) prog_66_method_6_code (4 : Nat) (Option.some Jvm.ClassFile.FieldType.boolean), Jvm.Cond.code ({ cls := "operand/SpellingIsAtPinLaw", name := "pick", desc := "([CICZ)C" } : Jvm.MethodName) method_3_code (4 : Nat) (Option.some Jvm.ClassFile.FieldType.char)]
set_option maxRecDepth 65536 in
theorem codes_eq : words1.filter isCode = codes1 := rfl
theorem w_codes : ∀ c ∈ words1.filter isCode, c.before args0 about1 = true := by
  rw [codes_eq]
  intro c hc
  simp only [codes1, List.mem_cons, List.not_mem_nil, or_false] at hc
  rcases hc with rfl | rfl | rfl | rfl | rfl | rfl
  · exact w_c0
  · exact w_c1
  · exact w_c2
  · exact w_c3
  · exact w_c4
  · exact w_c5
set_option maxRecDepth 65536 in
theorem w_t1 : (words1.take 24).all (fun c => isCode c || c.before args0 about1) = true := by decide +kernel
set_option maxRecDepth 65536 in
theorem w_t2 : (words1.drop 24).all (fun c => isCode c || c.before args0 about1) = true := by decide +kernel
theorem w_tables : (allAtoms (Jvm.Cond.code x code maxLocals ret :: tables_1)).before args0 about1 = true := by
  rw [allAtoms_all]
  show words1.all (fun c => c.before args0 about1) = true
  refine all_split ?_ w_codes
  rw [← List.take_append_drop 24 words1, List.all_append, w_t1, w_t2]
  rfl
set_option maxRecDepth 65536 in
theorem w_case : (Jvm.Cond.and given_1 narrow_1).before args0 about1 = true := by decide +kernel
theorem w_applies : (headSpec (Jvm.Cond.code x code maxLocals ret :: tables_1) room_1).applies x e0.platform about1 = true :=
  (Spec.applies_iff w_frames).mpr ⟨w_running, w_runnable, w_alone, w_named, w_hears, w_ripe, w_room, w_tables⟩
theorem atStart : AtStart classFile x code maxLocals ret World_1 tables_1 room_1 Calls_1 rest_1 Pre_1 launch0 p0 e0 about1 theMethod args0 below0 :=
  ⟨lists_1, trivial, launch0.admits_env _ _ _, launch0.least_env, fairChoices_fair.cas, fairChoices_fair.clock, w_frames, w_args, w_heap, w_applies, trivial, trivial, w_case⟩
end start1
theorem witness_1 : WitnessClaimed_1 := ⟨start1.p0, start1.e0, start1.about1, start1.theMethod, start1.args0, start1.below0, start1.atStart⟩
end Jvm.Pilot.@@N@@
