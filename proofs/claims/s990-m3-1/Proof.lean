import JvmDerived
import JvmDerived.Pilot.@@N@@Statement
import JvmDerived.Pilot.@@N@@Code
set_option linter.unusedVariables false
set_option linter.unusedSimpArgs false
namespace Jvm.Pilot.@@N@@
open Jvm Jvm.ClassFile Sem Op Lib Jvm.Free Jvm.Stand Jvm.LawKit Jvm.RoadKit Bundle Jvm.Pilot.@@N@@.Jvm.D
-- BY HAND: an array of ints, bytes or chars, by the function that says what lies in each place
def up (f : Nat → Int32) (i : Nat) (v : Int32) : Nat → Int32 := fun j => if j = i then v else f j
theorem up_at (f : Nat → Int32) (i : Nat) (v : Int32) : up f i v i = v := if_pos rfl
theorem up_ne (f : Nat → Int32) {i j : Nat} (v : Int32) (h : j ≠ i) : up f i v j = f j := if_neg h
def Ia (Z : State) (h : Heap) (a : Addr) (ty : FieldType) (n : Nat) (f : Nat → Int32) : Prop :=
  ∃ c : Cell, Arr Z h a c ty ∧ c.slots.size = n ∧ n < 2147483648 ∧ ∀ j, j < n → c.slots[j]? = some (.int (f j)) ∧ fits ty (.int (f j)) = true
theorem clamp_of {j : Int32} {i : Nat} (h : j.toInt = (i : Int)) : j.toNatClampNeg = i := by
  rw [Int32.toNatClampNeg, h]; rfl
theorem inb {j : Int32} {i n : Nat} {c : Cell} (h : j.toInt = (i : Int)) (hn : i < n) (S : c.slots.size = n) : ¬ (j < 0 ∨ c.slots.size ≤ j.toNatClampNeg) := by
  rw [clamp_of h, Int32.lt_iff_toInt_lt, h, S, show (0 : Int32).toInt = 0 from rfl]
  omega
section OwnArr
variable {Z : State} {h h' : Heap} {a b : Addr} {ty : FieldType} {n : Nat} {f : Nat → Int32} {ws : List Addr} {sl : Nat} {v : Value}
theorem Ia.lt (F : Ia Z h a ty n f) : a < h.size := by obtain ⟨c, A, -⟩ := F; exact A.lt
theorem Ia.ext (F : Ia Z h a ty n f) (E : Ext h h') : Ia Z h' a ty n f := by obtain ⟨c, A, r⟩ := F; exact ⟨c, A.ext E, r⟩
theorem Ia.other (F : Ia Z h b ty n f) (W : Wr h h' a sl v) (q : b ≠ a) : Ia Z h' b ty n f := by obtain ⟨c, A, r⟩ := F; exact ⟨c, A.other W q, r⟩
theorem Ia.keep (F : Ia Z h a ty n f) (K : Keep h h' ws) (q : a ∉ ws) : Ia Z h' a ty n f := by obtain ⟨c, A, r⟩ := F; exact ⟨c, ⟨K.2.1 a c A.1 q, A.2⟩, r⟩
theorem Ia.fun {g : Nat → Int32} (F : Ia Z h a ty n f) (e : ∀ j, j < n → f j = g j) : Ia Z h a ty n g := by
  obtain ⟨c, A, S, q, H⟩ := F; exact ⟨c, A, S, q, fun j hj => by rw [← e j hj]; exact H j hj⟩
theorem Ia.set {c : Cell} (A : Arr Z h a c ty) (S : c.slots.size = n) (q : n < 2147483648) (H : ∀ j, j < n → c.slots[j]? = some (.int (f j)) ∧ fits ty (.int (f j)) = true) {i : Nat} {x : Int32} (W : Wr h h' a i (.int x)) (hf : fits ty (.int x) = true) : Ia Z h' a ty n (up f i x) := by
  refine ⟨c.setSlot i (.int x), A.same W, by rw [sz_set]; exact S, q, fun j hj => ?_⟩
  by_cases e : j = i
  · subst e
    rw [up_at]
    refine ⟨?_, hf⟩
    have : j < c.slots.size := by omega
    simp [Cell.setSlot, this]
  · rw [up_ne _ _ e]
    refine ⟨?_, (H j hj).2⟩
    have : ¬ i = j := fun z => e z.symm
    rw [← (H j hj).1]
    simp [Cell.setSlot, this]
theorem Ia.mk0 {k : ClassId} {z : Int32} (A : Arr Z h a (newA k ty z) ty) (hz : z.toInt = (n : Int)) (hd : defaultValue ty = .int 0) (hf : fits ty (.int 0) = true) : Ia Z h a ty n (fun _ => 0) := by
  have e := clamp_of hz
  have := rng32 z
  refine ⟨_, A, by rw [sz_new, e], by omega, fun j hj => ⟨?_, hf⟩⟩
  show (Array.replicate z.toNatClampNeg (defaultValue ty))[j]? = _
  rw [e, hd]
  simp [hj]
end OwnArr
section OwnSteps
variable {p : Program} {l : Launch} {e : Env} {R : Room} {s : State} {m : MethodId} {args : Array Value} {below : List Frame} {meth : Method} {c : Code} {T : State} {locs : List Loc} {cells slots : Nat} {Z : State} {a0 : Array Value} {h : Heap} {a : Addr} {n : Nat} {f : Nat → Int32} {ty : FieldType}
theorem iaI (X : Stand p l e R s m args below meth c T locs cells slots) (hx : p.tables.exec = Jvm.exec) (hZ : Z.Warmed39 s.vm) (eT : T.heap = h) (A : Ia Z h a .int n f) {j x : Int32} (i : Nat) (hi : j.toInt = (i : Int)) (hn : i < n) {g : JFrame} (hg : g.method = m) {rest : List Value} (hs : g.stack = .int x :: .int j :: .ref a :: rest) (hd : decode c.code g.pc = .ok (.iastore, 1)) :
    ∃ T' h', Stand p l e R s m args below meth c T' (locs ++ [⟨a, i⟩]) cells slots ∧ T'.heap = h' ∧ Wr h h' a i (.int x) ∧ Ia Z h' a .int n (up f i x) ∧ ∀ target, Steps p.tables e below (T'.setTop { g with pc := g.pc + 1, stack := rest }) target → Steps p.tables e below (T.setTop g) target := by
  obtain ⟨cl, A1, S, q, H⟩ := A
  obtain ⟨T', h', X', e', W, st⟩ := stI X hx hZ eT A1 (j := j) (inb hi hn S) hg hs hd
  rw [clamp_of hi] at X' W
  exact ⟨T', h', X', e', W, Ia.set A1 S q H W rfl, st⟩
theorem iaB (X : Stand p l e R s m args below meth c T locs cells slots) (hx : p.tables.exec = Jvm.exec) (hZ : Z.Warmed39 s.vm) (eT : T.heap = h) (A : Ia Z h a .byte n f) {j x : Int32} (i : Nat) (hi : j.toInt = (i : Int)) (hn : i < n) {g : JFrame} (hg : g.method = m) {rest : List Value} (hs : g.stack = .int x :: .int j :: .ref a :: rest) (hd : decode c.code g.pc = .ok (.bastore, 1)) :
    ∃ T' h', Stand p l e R s m args below meth c T' (locs ++ [⟨a, i⟩]) cells slots ∧ T'.heap = h' ∧ Wr h h' a i (.int (nar .byte x)) ∧ Ia Z h' a .byte n (up f i (nar .byte x)) ∧ ∀ target, Steps p.tables e below (T'.setTop { g with pc := g.pc + 1, stack := rest }) target → Steps p.tables e below (T.setTop g) target := by
  obtain ⟨cl, A1, S, q, H⟩ := A
  obtain ⟨T', h', X', e', W, st⟩ := stB X hx hZ eT A1 (j := j) (inb hi hn S) hg hs hd
  rw [clamp_of hi] at X' W
  exact ⟨T', h', X', e', W, Ia.set A1 S q H W (fits_nar_byte _), st⟩
theorem iaC (X : Stand p l e R s m args below meth c T locs cells slots) (hx : p.tables.exec = Jvm.exec) (hZ : Z.Warmed39 s.vm) (eT : T.heap = h) (A : Ia Z h a .char n f) {j x : Int32} (i : Nat) (hi : j.toInt = (i : Int)) (hn : i < n) {g : JFrame} (hg : g.method = m) {rest : List Value} (hs : g.stack = .int x :: .int j :: .ref a :: rest) (hd : decode c.code g.pc = .ok (.castore, 1)) :
    ∃ T' h', Stand p l e R s m args below meth c T' (locs ++ [⟨a, i⟩]) cells slots ∧ T'.heap = h' ∧ Wr h h' a i (.int (nar .char x)) ∧ Ia Z h' a .char n (up f i (nar .char x)) ∧ ∀ target, Steps p.tables e below (T'.setTop { g with pc := g.pc + 1, stack := rest }) target → Steps p.tables e below (T.setTop g) target := by
  obtain ⟨cl, A1, S, q, H⟩ := A
  obtain ⟨T', h', X', e', W, st⟩ := stC X hx hZ eT A1 (j := j) (inb hi hn S) hg hs hd
  rw [clamp_of hi] at X' W
  exact ⟨T', h', X', e', W, Ia.set A1 S q H W (fits_nar_char _), st⟩
theorem iaLI (X : Stand p l e R s m args below meth c T locs cells slots) (hx : p.tables.exec = Jvm.exec) (hZ : Z.Warmed39 s.vm) (eT : T.heap = h) (A : Ia Z h a .int n f) {j : Int32} (i : Nat) (hi : j.toInt = (i : Int)) (hn : i < n) {g : JFrame} (hg : g.method = m) {rest : List Value} (hs : g.stack = .int j :: .ref a :: rest) (hd : decode c.code g.pc = .ok (.iaload, 1)) (target : State)
    (k : Steps p.tables e below (T.setTop { g with pc := g.pc + 1, stack := .int (f i) :: rest }) target) : Steps p.tables e below (T.setTop g) target := by
  obtain ⟨cl, A1, S, q, H⟩ := A
  exact X.iaload hx (j := j) (v := .int (f i)) (by rw [eT]; exact A1.1) (State.isArrayOf_alike hZ.alike A1.2.1) A1.2.2 (inb hi hn S) (by rw [clamp_of hi]; exact (H i hn).1) hg hs hd target k
theorem iaLB (X : Stand p l e R s m args below meth c T locs cells slots) (hx : p.tables.exec = Jvm.exec) (hZ : Z.Warmed39 s.vm) (eT : T.heap = h) (A : Ia Z h a .byte n f) {j : Int32} (i : Nat) (hi : j.toInt = (i : Int)) (hn : i < n) {g : JFrame} (hg : g.method = m) {rest : List Value} (hs : g.stack = .int j :: .ref a :: rest) (hd : decode c.code g.pc = .ok (.baload, 1)) (target : State)
    (k : Steps p.tables e below (T.setTop { g with pc := g.pc + 1, stack := .int (f i) :: rest }) target) : Steps p.tables e below (T.setTop g) target := by
  obtain ⟨cl, A1, S, q, H⟩ := A
  exact X.baloadBytes hx (j := j) (v := .int (f i)) (by rw [eT]; exact A1.1) (State.isArrayOf_alike hZ.alike A1.2.1) A1.2.2 (inb hi hn S) (by rw [clamp_of hi]; exact (H i hn).1) hg hs hd target k
theorem iaLC (X : Stand p l e R s m args below meth c T locs cells slots) (hx : p.tables.exec = Jvm.exec) (hZ : Z.Warmed39 s.vm) (eT : T.heap = h) (A : Ia Z h a .char n f) {j : Int32} (i : Nat) (hi : j.toInt = (i : Int)) (hn : i < n) {g : JFrame} (hg : g.method = m) {rest : List Value} (hs : g.stack = .int j :: .ref a :: rest) (hd : decode c.code g.pc = .ok (.caload, 1)) (target : State)
    (k : Steps p.tables e below (T.setTop { g with pc := g.pc + 1, stack := .int (f i) :: rest }) target) : Steps p.tables e below (T.setTop g) target := by
  obtain ⟨cl, A1, S, q, H⟩ := A
  exact X.caload hx (j := j) (v := .int (f i)) (by rw [eT]; exact A1.1) (State.isArrayOf_alike hZ.alike A1.2.1) A1.2.2 (inb hi hn S) (by rw [clamp_of hi]; exact (H i hn).1) hg hs hd target k
theorem iaLen (X : Stand p l e R s m args below meth c T locs cells slots) (hx : p.tables.exec = Jvm.exec) (hZ : Z.Warmed39 s.vm) (eT : T.heap = h) (A : Ia Z h a ty n f) {g : JFrame} (hg : g.method = m) {rest : List Value} (hs : g.stack = .ref a :: rest) (hd : decode c.code g.pc = .ok (.arraylength, 1)) (target : State)
    (k : Steps p.tables e below (T.setTop { g with pc := g.pc + 1, stack := .int (Int32.ofNat n) :: rest }) target) : Steps p.tables e below (T.setTop g) target := by
  obtain ⟨cl, A1, S, q, H⟩ := A
  refine X.arraylength hx (by rw [eT]; exact A1.1) (State.isArrayOf_alike hZ.alike A1.2.1) hg hs hd target ?_
  rw [S]
  exact k
theorem iaNew (X : Stand p l e R s m args below meth c T locs cells slots) (hx : p.tables.exec = Jvm.exec) (hZ : Z.Warmed39 s.vm) {aty : ArrayType} (w : (Cond.arrayClass (newarray.typeOf aty)).before a0 Z = true) (eT : T.heap = h) {g : JFrame} (hg : g.method = m) (hd : decode c.code g.pc = .ok (.newarray aty, 2)) {z : Int32} {rest : List Value} (hs : g.stack = .int z :: rest)
    (n : Nat) (hz : z.toInt = (n : Int)) (cap : Nat) (hcap : n ≤ cap) (hb : cap * 8 ≤ 536870912) (hc : cells + 1 ≤ R.cells) (hl : slots + cap ≤ R.slots) (h1 : defaultValue (newarray.typeOf aty) = .int 0) (h2 : fits (newarray.typeOf aty) (.int 0) = true) :
    ∃ T' h', Stand p l e R s m args below meth c T' locs (cells + 1) (slots + cap) ∧ T'.heap = h' ∧ Ext h h' ∧ Ia Z h' h.size (newarray.typeOf aty) n (fun _ => 0) ∧
      ∀ target, Steps p.tables e below (T'.setTop { g with pc := g.pc + 2, stack := .ref h.size :: rest }) target → Steps p.tables e below (T.setTop g) target := by
  obtain ⟨T', h', cA, X', e', E, A, st⟩ := newP X hx hZ w eT hg hd hs (by rw [Int32.lt_iff_toInt_lt, hz, show (0 : Int32).toInt = 0 from rfl]; omega) (cap := cap) (by rw [clamp_of hz]; exact hcap) hb hc hl
  exact ⟨T', h', X', e', E, Ia.mk0 A hz h1 h2, st⟩
end OwnSteps
-- BY HAND: wide iinc; places counted from one
theorem own_iincW {tb : Tables} [Ours tb] {e : Env} {below : List Frame} {T target : State} {m : MethodId} {c : Code} {g : JFrame} (h : At T m c below) (hx : tb.exec = Jvm.exec) (hg : g.method = m) {k : Nat} {cst : Int} {x : Int32} {l' : Array Slot} (hd : decode c.code g.pc = .ok (.iinc k cst, 6)) (hl : g.locals[k]? = some (.val (.int x))) (hl' : storeLocals g.locals k (.int (x + Int32.ofInt cst)) = some l')
    (hr : Steps tb e below (T.setTop { g with pc := g.pc + 6, locals := l' }) target) : Steps tb e below (T.setTop g) target := by
  subst hg
  jvm_step h [h.top, hx, hd, hl, hl']
  exact hr
theorem own_in {i L x n : Nat} (e : x = L) (h : i + x ≤ 8) (hj : n < L) : i + n < 8 := by omega
theorem own_in0 {i L x : Nat} (e : x = L) (h : i + x ≤ 8) (hj : 0 < L) : i < 8 := by omega
theorem own_plus {p : Int32} {i : Nat} (h : p.toInt = (i : Int)) (k : Int32) (n : Nat) (hk : k.toInt = (n : Int)) (hb : i + n < 8) : (p + k).toInt = ((i + n : Nat) : Int) := by
  have h1 := c_iadd p k
  have h2 := rng32 (p + k)
  omega
theorem ef_1 (m : MethodId) (x0 : Int32) : entryFrame m #[(.int x0)] 2 = mkF m 0 #[.val (.int x0), .unset] [] := by first | (simp [entryFrame, mkF, argsToLocals, Value.category]; done) | rfl
theorem pn_0 : plainName "com/example/seriestrace/seriestrace/marc/Utf8IsUtf8InsidePinLaw" = true := by first | (simp [plainName, overriddenIn]; done) | decide +kernel
theorem d1_0 : decode method_2_code 0 = .ok (.iload_n 0, 1) := by decide +kernel
theorem d1_1 : decode method_2_code 1 = .ok (.ldc 7, 2) := by decide +kernel
theorem d1_3 : decode method_2_code 3 = .ok (.iand, 1) := by decide +kernel
theorem d1_4 : decode method_2_code 4 = .ok (.ldc 8, 2) := by decide +kernel
theorem d1_6 : decode method_2_code 6 = .ok (.irem, 1) := by decide +kernel
theorem d1_7 : decode method_2_code 7 = .ok (.istore_n 1, 1) := by decide +kernel
def gs (p0 : Int32) : Int32 := ((p0 &&& (2097151 : Int32)) % (1114112 : Int32))
theorem d1_8 : decode method_2_code 8 = .ok (.iload_n 1, 1) := by decide +kernel
theorem d1_9 : decode method_2_code 9 = .ok (.ldc 9, 2) := by decide +kernel
theorem d1_11 : decode method_2_code 11 = .ok (.if_icmp .lt 15, 3) := by decide +kernel
theorem d1_26 : decode method_2_code 26 = .ok (.iload_n 1, 1) := by decide +kernel
theorem d1_27 : decode method_2_code 27 = .ok (.ireturn, 1) := by decide +kernel
theorem d1_14 : decode method_2_code 14 = .ok (.iload_n 1, 1) := by decide +kernel
theorem d1_15 : decode method_2_code 15 = .ok (.ldc 10, 2) := by decide +kernel
theorem d1_17 : decode method_2_code 17 = .ok (.if_icmp .gt 9, 3) := by decide +kernel
theorem d1_20 : decode method_2_code 20 = .ok (.iinc 1 (-2048), 6) := by decide +kernel
def f1 (p0 : Int32) : Int32 := if (gs p0) < (55296 : Int32) then (gs p0)
  else if (57343 : Int32) < (gs p0) then (gs p0)
  else ((gs p0) + (-2048 : Int32))
def Q1 (Z : State) (p0 : Int32)  (h0 : Heap) (v : Option Value) (h : Heap) (L : List Loc) : Prop := v = some (.int (f1 p0)) ∧ L = [] ∧ h = h0
set_option maxRecDepth 65536 in
set_option maxHeartbeats 40000000 in
theorem rm1 (l : Launch) (Z : State) (a0 : Array Value) (hw : ∀ d ∈ tables_1, d.before a0 Z = true) (ws : List Jvm.Cond) (p0 : Int32)  (h0 : Heap)  :
    MetFree l (⟨"com/example/seriestrace/seriestrace/marc/Utf8IsUtf8InsidePinLaw", "scalar", "(I)I"⟩ : MethodName) (head1 (Jvm.Cond.code (⟨"com/example/seriestrace/seriestrace/marc/Utf8IsUtf8InsidePinLaw", "scalar", "(I)I"⟩ : MethodName) method_2_code 2 (some .int) :: ws) ({ frames := 0, cells := 0, slots := 0, locals := 0 } : Room)) (fun a U => a = #[(.int p0)] ∧ Z.Warmed39 U.vm ∧ U.heap = h0) (fun _ _ _ _ _ => True) (fun _ U o U' => ∃ v L, o = .returned v ∧ Q1 Z p0  h0 v U'.heap L ∧ FrameEnd U o U' L ({ frames := 0, cells := 0, slots := 0, locals := 0 } : Room).cells ({ frames := 0, cells := 0, slots := 0, locals := 0 } : Room).slots) := by
  refine MetFree.of_bodySF (plainFor_of_name pn_0) hisR ?_
  intro p e s m args below meth c s₁ Bd hml0 hP hK
  obtain ⟨rfl, hZ, hh⟩ := hP
  have hx := Bd.exec
  have hby := Bd.bytes
  have hml : c.maxLocals = 2 := hml0
  have hown : s.vm.findClass "com/example/seriestrace/seriestrace/marc/Utf8IsUtf8InsidePinLaw" = some m.cls := findClass_of_methodNamed Bd.named
  have hnm := (name_of_methodNamed Bd.named Bd.method).1
  have X0 : Stand p l e ({ frames := 0, cells := 0, slots := 0, locals := 0 } : Room) s m #[(.int p0)] below meth c s₁ [] 0 0 := Stand.of_body Bd
  have e0 : s₁.heap = h0 := by rw [← hh, Bd.state]; rfl
  have pre0 : ∀ t, Steps p.tables e below (s₁.setTop (mkF m 0 #[.val (.int p0), .unset] [])) t → Steps p.tables e below (s₁.setTop (entryFrame m #[(.int p0)] 2)) t := fun t k => castTop (ef_1 m p0) k
  have K1 : ∀ t, Steps p.tables e below (s₁.setTop (mkF m 11 #[.val (.int p0), .val (.int (gs p0))] [(.int (55296 : Int32)), (.int (gs p0))])) t → Steps p.tables e below (s₁.setTop (mkF m 0 #[.val (.int p0), .unset] [])) t := by
    intro t kt
    show Steps p.tables e below (s₁.setTop (mkF m 0 #[.val (.int p0), .unset] [])) _
    refine XS.iloadN X0.here hx rfl (hb hby d1_0) rfl ?_
    show Steps p.tables e below (s₁.setTop (mkF m 1 #[.val (.int p0), .unset] [(.int p0)])) _
    refine X0.ldcInt hx hown (mvT hZ (hw _ (List.mem_of_getElem? (i := 4) rfl))) (g := (mkF m 1 #[.val (.int p0), .unset] [(.int p0)])) rfl (hb hby d1_1) _ ?_
    show Steps p.tables e below (s₁.setTop (mkF m 3 #[.val (.int p0), .unset] [(.int (2097151 : Int32)), (.int p0)])) _
    refine XS.iand X0.here hx rfl (hb hby d1_3) rfl ?_
    show Steps p.tables e below (s₁.setTop (mkF m 4 #[.val (.int p0), .unset] [(.int (p0 &&& (2097151 : Int32)))])) _
    refine X0.ldcInt hx hown (mvT hZ (hw _ (List.mem_of_getElem? (i := 5) rfl))) (g := (mkF m 4 #[.val (.int p0), .unset] [(.int (p0 &&& (2097151 : Int32)))])) rfl (hb hby d1_4) _ ?_
    show Steps p.tables e below (s₁.setTop (mkF m 6 #[.val (.int p0), .unset] [(.int (1114112 : Int32)), (.int (p0 &&& (2097151 : Int32)))])) _
    refine iremM X0 hx rfl (hb hby d1_6) rfl (by decide) ?_
    show Steps p.tables e below (s₁.setTop (mkF m 7 #[.val (.int p0), .unset] [(.int ((p0 &&& (2097151 : Int32)) % (1114112 : Int32)))])) _
    refine XS.istoreN X0.here hx rfl (hb hby d1_7) rfl (l' := #[.val (.int p0), .val (.int (gs p0))]) rfl ?_
    show Steps p.tables e below (s₁.setTop (mkF m 8 #[.val (.int p0), .val (.int (gs p0))] [])) _
    refine XS.iloadN X0.here hx rfl (hb hby d1_8) rfl ?_
    show Steps p.tables e below (s₁.setTop (mkF m 9 #[.val (.int p0), .val (.int (gs p0))] [(.int (gs p0))])) _
    refine X0.ldcInt hx hown (mvT hZ (hw _ (List.mem_of_getElem? (i := 6) rfl))) (g := (mkF m 9 #[.val (.int p0), .val (.int (gs p0))] [(.int (gs p0))])) rfl (hb hby d1_9) _ ?_
    exact kt
  by_cases hc2 : (gs p0) < (55296 : Int32)
  · skip
    have K3 : ∀ t, Steps p.tables e below (s₁.setTop (mkF m 27 #[.val (.int p0), .val (.int (gs p0))] [(.int (gs p0))])) t → Steps p.tables e below (s₁.setTop (mkF m 0 #[.val (.int p0), .unset] [])) t := by
      intro t kt
      refine K1 _ ?_
      show Steps p.tables e below (s₁.setTop (mkF m 11 #[.val (.int p0), .val (.int (gs p0))] [(.int (55296 : Int32)), (.int (gs p0))])) _
      refine XS.icmpYes X0.here hx rfl (pc0 := 11) (pc' := 26) rfl (hb hby d1_11) rfl (tlt hc2).1 (by decide) (by decide) ?_
      show Steps p.tables e below (s₁.setTop (mkF m 26 #[.val (.int p0), .val (.int (gs p0))] [])) _
      refine XS.iloadN X0.here hx rfl (hb hby d1_26) rfl ?_
      exact kt
    have hv : f1 p0 = (gs p0) := by simp only [f1, if_pos hc2]
    obtain ⟨fs, hr, hrun, hended, hW, hsame⟩ := X0.leave (v := some (.int (gs p0))) (fun h => by rw [Bd.returns] at h; cases h)
    refine ⟨_, _, pre0 _ (K3 _ ?_), hrun, hended, _, _, rfl, ?_, ⟨_, rfl⟩, hW, hsame.mono (by decide) (by decide)⟩
    · show Steps p.tables e below (s₁.setTop (mkF m 27 #[.val (.int p0), .val (.int (gs p0))] [(.int (gs p0))])) _
      exact retOut X0 hx Bd.returns rfl (Or.inl ⟨rfl, Or.inl rfl, _, rfl⟩) (hb hby d1_27) hr
    · show Q1 Z p0  h0 _ s₁.heap _
      rw [e0]
      exact ⟨by rw [hv], rfl, rfl⟩
  · skip
    have K4 : ∀ t, Steps p.tables e below (s₁.setTop (mkF m 17 #[.val (.int p0), .val (.int (gs p0))] [(.int (57343 : Int32)), (.int (gs p0))])) t → Steps p.tables e below (s₁.setTop (mkF m 0 #[.val (.int p0), .unset] [])) t := by
      intro t kt
      refine K1 _ ?_
      show Steps p.tables e below (s₁.setTop (mkF m 11 #[.val (.int p0), .val (.int (gs p0))] [(.int (55296 : Int32)), (.int (gs p0))])) _
      refine XS.icmpNo X0.here hx rfl (hb hby d1_11) rfl (flt hc2).1 ?_
      show Steps p.tables e below (s₁.setTop (mkF m 14 #[.val (.int p0), .val (.int (gs p0))] [])) _
      refine XS.iloadN X0.here hx rfl (hb hby d1_14) rfl ?_
      show Steps p.tables e below (s₁.setTop (mkF m 15 #[.val (.int p0), .val (.int (gs p0))] [(.int (gs p0))])) _
      refine X0.ldcInt hx hown (mvT hZ (hw _ (List.mem_of_getElem? (i := 19) rfl))) (g := (mkF m 15 #[.val (.int p0), .val (.int (gs p0))] [(.int (gs p0))])) rfl (hb hby d1_15) _ ?_
      exact kt
    by_cases hc5 : (57343 : Int32) < (gs p0)
    · skip
      have K6 : ∀ t, Steps p.tables e below (s₁.setTop (mkF m 27 #[.val (.int p0), .val (.int (gs p0))] [(.int (gs p0))])) t → Steps p.tables e below (s₁.setTop (mkF m 0 #[.val (.int p0), .unset] [])) t := by
        intro t kt
        refine K4 _ ?_
        show Steps p.tables e below (s₁.setTop (mkF m 17 #[.val (.int p0), .val (.int (gs p0))] [(.int (57343 : Int32)), (.int (gs p0))])) _
        refine XS.icmpYes X0.here hx rfl (pc0 := 17) (pc' := 26) rfl (hb hby d1_17) rfl (tlt hc5).2.2.1 (by decide) (by decide) ?_
        show Steps p.tables e below (s₁.setTop (mkF m 26 #[.val (.int p0), .val (.int (gs p0))] [])) _
        refine XS.iloadN X0.here hx rfl (hb hby d1_26) rfl ?_
        exact kt
      have hv : f1 p0 = (gs p0) := by simp only [f1, if_neg hc2, if_pos hc5]
      obtain ⟨fs, hr, hrun, hended, hW, hsame⟩ := X0.leave (v := some (.int (gs p0))) (fun h => by rw [Bd.returns] at h; cases h)
      refine ⟨_, _, pre0 _ (K6 _ ?_), hrun, hended, _, _, rfl, ?_, ⟨_, rfl⟩, hW, hsame.mono (by decide) (by decide)⟩
      · show Steps p.tables e below (s₁.setTop (mkF m 27 #[.val (.int p0), .val (.int (gs p0))] [(.int (gs p0))])) _
        exact retOut X0 hx Bd.returns rfl (Or.inl ⟨rfl, Or.inl rfl, _, rfl⟩) (hb hby d1_27) hr
      · show Q1 Z p0  h0 _ s₁.heap _
        rw [e0]
        exact ⟨by rw [hv], rfl, rfl⟩
    · skip
      have K7 : ∀ t, Steps p.tables e below (s₁.setTop (mkF m 27 #[.val (.int p0), .val (.int ((gs p0) + (-2048 : Int32)))] [(.int ((gs p0) + (-2048 : Int32)))])) t → Steps p.tables e below (s₁.setTop (mkF m 0 #[.val (.int p0), .unset] [])) t := by
        intro t kt
        refine K4 _ ?_
        show Steps p.tables e below (s₁.setTop (mkF m 17 #[.val (.int p0), .val (.int (gs p0))] [(.int (57343 : Int32)), (.int (gs p0))])) _
        refine XS.icmpNo X0.here hx rfl (hb hby d1_17) rfl (flt hc5).2.2.1 ?_
        show Steps p.tables e below (s₁.setTop (mkF m 20 #[.val (.int p0), .val (.int (gs p0))] [])) _
        refine own_iincW X0.here hx rfl (hb hby d1_20) rfl (l' := #[.val (.int p0), .val (.int ((gs p0) + (-2048 : Int32)))]) rfl ?_
        show Steps p.tables e below (s₁.setTop (mkF m 26 #[.val (.int p0), .val (.int ((gs p0) + (-2048 : Int32)))] [])) _
        refine XS.iloadN X0.here hx rfl (hb hby d1_26) rfl ?_
        exact kt
      have hv : f1 p0 = ((gs p0) + (-2048 : Int32)) := by simp only [f1, if_neg hc2, if_neg hc5]
      obtain ⟨fs, hr, hrun, hended, hW, hsame⟩ := X0.leave (v := some (.int ((gs p0) + (-2048 : Int32)))) (fun h => by rw [Bd.returns] at h; cases h)
      refine ⟨_, _, pre0 _ (K7 _ ?_), hrun, hended, _, _, rfl, ?_, ⟨_, rfl⟩, hW, hsame.mono (by decide) (by decide)⟩
      · show Steps p.tables e below (s₁.setTop (mkF m 27 #[.val (.int p0), .val (.int ((gs p0) + (-2048 : Int32)))] [(.int ((gs p0) + (-2048 : Int32)))])) _
        exact retOut X0 hx Bd.returns rfl (Or.inl ⟨rfl, Or.inl rfl, _, rfl⟩) (hb hby d1_27) hr
      · show Q1 Z p0  h0 _ s₁.heap _
        rw [e0]
        exact ⟨by rw [hv], rfl, rfl⟩
theorem ef_2 (m : MethodId) (x0 : Int32) : entryFrame m #[(.int x0)] 1 = mkF m 0 #[.val (.int x0)] [] := by first | (simp [entryFrame, mkF, argsToLocals, Value.category]; done) | rfl
theorem d2_0 : decode method_3_code 0 = .ok (.iload_n 0, 1) := by decide +kernel
theorem d2_1 : decode method_3_code 1 = .ok (.sipush 128, 3) := by decide +kernel
theorem d2_4 : decode method_3_code 4 = .ok (.if_icmp .ge 5, 3) := by decide +kernel
theorem d2_7 : decode method_3_code 7 = .ok (.iconst 1, 1) := by decide +kernel
theorem d2_8 : decode method_3_code 8 = .ok (.ireturn, 1) := by decide +kernel
theorem d2_9 : decode method_3_code 9 = .ok (.iload_n 0, 1) := by decide +kernel
theorem d2_10 : decode method_3_code 10 = .ok (.sipush 2048, 3) := by decide +kernel
theorem d2_13 : decode method_3_code 13 = .ok (.if_icmp .ge 5, 3) := by decide +kernel
theorem d2_16 : decode method_3_code 16 = .ok (.iconst 2, 1) := by decide +kernel
theorem d2_17 : decode method_3_code 17 = .ok (.ireturn, 1) := by decide +kernel
theorem d2_18 : decode method_3_code 18 = .ok (.iload_n 0, 1) := by decide +kernel
theorem d2_19 : decode method_3_code 19 = .ok (.ldc 11, 2) := by decide +kernel
theorem d2_21 : decode method_3_code 21 = .ok (.if_icmp .ge 5, 3) := by decide +kernel
theorem d2_24 : decode method_3_code 24 = .ok (.iconst 3, 1) := by decide +kernel
theorem d2_25 : decode method_3_code 25 = .ok (.ireturn, 1) := by decide +kernel
theorem d2_26 : decode method_3_code 26 = .ok (.iconst 4, 1) := by decide +kernel
theorem d2_27 : decode method_3_code 27 = .ok (.ireturn, 1) := by decide +kernel
def f2 (p0 : Int32) : Int32 := if p0 < (128 : Int32) then (1 : Int32)
  else if p0 < (2048 : Int32) then (2 : Int32)
  else if p0 < (65536 : Int32) then (3 : Int32)
  else (4 : Int32)
def Q2 (Z : State) (p0 : Int32)  (h0 : Heap) (v : Option Value) (h : Heap) (L : List Loc) : Prop := v = some (.int (f2 p0)) ∧ L = [] ∧ h = h0
set_option maxRecDepth 65536 in
set_option maxHeartbeats 40000000 in
theorem rm2 (l : Launch) (Z : State) (a0 : Array Value) (hw : ∀ d ∈ tables_1, d.before a0 Z = true) (ws : List Jvm.Cond) (p0 : Int32)  (h0 : Heap)  :
    MetFree l (⟨"com/example/seriestrace/seriestrace/marc/Utf8IsUtf8InsidePinLaw", "len", "(I)I"⟩ : MethodName) (head1 (Jvm.Cond.code (⟨"com/example/seriestrace/seriestrace/marc/Utf8IsUtf8InsidePinLaw", "len", "(I)I"⟩ : MethodName) method_3_code 1 (some .int) :: ws) ({ frames := 0, cells := 0, slots := 0, locals := 0 } : Room)) (fun a U => a = #[(.int p0)] ∧ Z.Warmed39 U.vm ∧ U.heap = h0) (fun _ _ _ _ _ => True) (fun _ U o U' => ∃ v L, o = .returned v ∧ Q2 Z p0  h0 v U'.heap L ∧ FrameEnd U o U' L ({ frames := 0, cells := 0, slots := 0, locals := 0 } : Room).cells ({ frames := 0, cells := 0, slots := 0, locals := 0 } : Room).slots) := by
  refine MetFree.of_bodySF (plainFor_of_name pn_0) hisR ?_
  intro p e s m args below meth c s₁ Bd hml0 hP hK
  obtain ⟨rfl, hZ, hh⟩ := hP
  have hx := Bd.exec
  have hby := Bd.bytes
  have hml : c.maxLocals = 1 := hml0
  have hown : s.vm.findClass "com/example/seriestrace/seriestrace/marc/Utf8IsUtf8InsidePinLaw" = some m.cls := findClass_of_methodNamed Bd.named
  have hnm := (name_of_methodNamed Bd.named Bd.method).1
  have X0 : Stand p l e ({ frames := 0, cells := 0, slots := 0, locals := 0 } : Room) s m #[(.int p0)] below meth c s₁ [] 0 0 := Stand.of_body Bd
  have e0 : s₁.heap = h0 := by rw [← hh, Bd.state]; rfl
  have pre0 : ∀ t, Steps p.tables e below (s₁.setTop (mkF m 0 #[.val (.int p0)] [])) t → Steps p.tables e below (s₁.setTop (entryFrame m #[(.int p0)] 1)) t := fun t k => castTop (ef_2 m p0) k
  have K1 : ∀ t, Steps p.tables e below (s₁.setTop (mkF m 4 #[.val (.int p0)] [(.int (128 : Int32)), (.int p0)])) t → Steps p.tables e below (s₁.setTop (mkF m 0 #[.val (.int p0)] [])) t := by
    intro t kt
    show Steps p.tables e below (s₁.setTop (mkF m 0 #[.val (.int p0)] [])) _
    refine XS.iloadN X0.here hx rfl (hb hby d2_0) rfl ?_
    show Steps p.tables e below (s₁.setTop (mkF m 1 #[.val (.int p0)] [(.int p0)])) _
    refine XS.sipush X0.here hx rfl (hb hby d2_1) ?_
    exact kt
  by_cases hc2 : p0 < (128 : Int32)
  · skip
    have K3 : ∀ t, Steps p.tables e below (s₁.setTop (mkF m 8 #[.val (.int p0)] [(.int (1 : Int32))])) t → Steps p.tables e below (s₁.setTop (mkF m 0 #[.val (.int p0)] [])) t := by
      intro t kt
      refine K1 _ ?_
      show Steps p.tables e below (s₁.setTop (mkF m 4 #[.val (.int p0)] [(.int (128 : Int32)), (.int p0)])) _
      refine XS.icmpNo X0.here hx rfl (hb hby d2_4) rfl (tlt hc2).2.1 ?_
      show Steps p.tables e below (s₁.setTop (mkF m 7 #[.val (.int p0)] [])) _
      refine XS.iconst X0.here hx rfl (hb hby d2_7) ?_
      exact kt
    have hv : f2 p0 = (1 : Int32) := by simp only [f2, if_pos hc2]
    obtain ⟨fs, hr, hrun, hended, hW, hsame⟩ := X0.leave (v := some (.int (1 : Int32))) (fun h => by rw [Bd.returns] at h; cases h)
    refine ⟨_, _, pre0 _ (K3 _ ?_), hrun, hended, _, _, rfl, ?_, ⟨_, rfl⟩, hW, hsame.mono (by decide) (by decide)⟩
    · show Steps p.tables e below (s₁.setTop (mkF m 8 #[.val (.int p0)] [(.int (1 : Int32))])) _
      exact retOut X0 hx Bd.returns rfl (Or.inl ⟨rfl, Or.inl rfl, _, rfl⟩) (hb hby d2_8) hr
    · show Q2 Z p0  h0 _ s₁.heap _
      rw [e0]
      exact ⟨by rw [hv], rfl, rfl⟩
  · skip
    have K4 : ∀ t, Steps p.tables e below (s₁.setTop (mkF m 13 #[.val (.int p0)] [(.int (2048 : Int32)), (.int p0)])) t → Steps p.tables e below (s₁.setTop (mkF m 0 #[.val (.int p0)] [])) t := by
      intro t kt
      refine K1 _ ?_
      show Steps p.tables e below (s₁.setTop (mkF m 4 #[.val (.int p0)] [(.int (128 : Int32)), (.int p0)])) _
      refine XS.icmpYes X0.here hx rfl (pc0 := 4) (pc' := 9) rfl (hb hby d2_4) rfl (flt hc2).2.1 (by decide) (by decide) ?_
      show Steps p.tables e below (s₁.setTop (mkF m 9 #[.val (.int p0)] [])) _
      refine XS.iloadN X0.here hx rfl (hb hby d2_9) rfl ?_
      show Steps p.tables e below (s₁.setTop (mkF m 10 #[.val (.int p0)] [(.int p0)])) _
      refine XS.sipush X0.here hx rfl (hb hby d2_10) ?_
      exact kt
    by_cases hc5 : p0 < (2048 : Int32)
    · skip
      have K6 : ∀ t, Steps p.tables e below (s₁.setTop (mkF m 17 #[.val (.int p0)] [(.int (2 : Int32))])) t → Steps p.tables e below (s₁.setTop (mkF m 0 #[.val (.int p0)] [])) t := by
        intro t kt
        refine K4 _ ?_
        show Steps p.tables e below (s₁.setTop (mkF m 13 #[.val (.int p0)] [(.int (2048 : Int32)), (.int p0)])) _
        refine XS.icmpNo X0.here hx rfl (hb hby d2_13) rfl (tlt hc5).2.1 ?_
        show Steps p.tables e below (s₁.setTop (mkF m 16 #[.val (.int p0)] [])) _
        refine XS.iconst X0.here hx rfl (hb hby d2_16) ?_
        exact kt
      have hv : f2 p0 = (2 : Int32) := by simp only [f2, if_neg hc2, if_pos hc5]
      obtain ⟨fs, hr, hrun, hended, hW, hsame⟩ := X0.leave (v := some (.int (2 : Int32))) (fun h => by rw [Bd.returns] at h; cases h)
      refine ⟨_, _, pre0 _ (K6 _ ?_), hrun, hended, _, _, rfl, ?_, ⟨_, rfl⟩, hW, hsame.mono (by decide) (by decide)⟩
      · show Steps p.tables e below (s₁.setTop (mkF m 17 #[.val (.int p0)] [(.int (2 : Int32))])) _
        exact retOut X0 hx Bd.returns rfl (Or.inl ⟨rfl, Or.inl rfl, _, rfl⟩) (hb hby d2_17) hr
      · show Q2 Z p0  h0 _ s₁.heap _
        rw [e0]
        exact ⟨by rw [hv], rfl, rfl⟩
    · skip
      have K7 : ∀ t, Steps p.tables e below (s₁.setTop (mkF m 21 #[.val (.int p0)] [(.int (65536 : Int32)), (.int p0)])) t → Steps p.tables e below (s₁.setTop (mkF m 0 #[.val (.int p0)] [])) t := by
        intro t kt
        refine K4 _ ?_
        show Steps p.tables e below (s₁.setTop (mkF m 13 #[.val (.int p0)] [(.int (2048 : Int32)), (.int p0)])) _
        refine XS.icmpYes X0.here hx rfl (pc0 := 13) (pc' := 18) rfl (hb hby d2_13) rfl (flt hc5).2.1 (by decide) (by decide) ?_
        show Steps p.tables e below (s₁.setTop (mkF m 18 #[.val (.int p0)] [])) _
        refine XS.iloadN X0.here hx rfl (hb hby d2_18) rfl ?_
        show Steps p.tables e below (s₁.setTop (mkF m 19 #[.val (.int p0)] [(.int p0)])) _
        refine X0.ldcInt hx hown (mvT hZ (hw _ (List.mem_of_getElem? (i := 20) rfl))) (g := (mkF m 19 #[.val (.int p0)] [(.int p0)])) rfl (hb hby d2_19) _ ?_
        exact kt
      by_cases hc8 : p0 < (65536 : Int32)
      · skip
        have K9 : ∀ t, Steps p.tables e below (s₁.setTop (mkF m 25 #[.val (.int p0)] [(.int (3 : Int32))])) t → Steps p.tables e below (s₁.setTop (mkF m 0 #[.val (.int p0)] [])) t := by
          intro t kt
          refine K7 _ ?_
          show Steps p.tables e below (s₁.setTop (mkF m 21 #[.val (.int p0)] [(.int (65536 : Int32)), (.int p0)])) _
          refine XS.icmpNo X0.here hx rfl (hb hby d2_21) rfl (tlt hc8).2.1 ?_
          show Steps p.tables e below (s₁.setTop (mkF m 24 #[.val (.int p0)] [])) _
          refine XS.iconst X0.here hx rfl (hb hby d2_24) ?_
          exact kt
        have hv : f2 p0 = (3 : Int32) := by simp only [f2, if_neg hc2, if_neg hc5, if_pos hc8]
        obtain ⟨fs, hr, hrun, hended, hW, hsame⟩ := X0.leave (v := some (.int (3 : Int32))) (fun h => by rw [Bd.returns] at h; cases h)
        refine ⟨_, _, pre0 _ (K9 _ ?_), hrun, hended, _, _, rfl, ?_, ⟨_, rfl⟩, hW, hsame.mono (by decide) (by decide)⟩
        · show Steps p.tables e below (s₁.setTop (mkF m 25 #[.val (.int p0)] [(.int (3 : Int32))])) _
          exact retOut X0 hx Bd.returns rfl (Or.inl ⟨rfl, Or.inl rfl, _, rfl⟩) (hb hby d2_25) hr
        · show Q2 Z p0  h0 _ s₁.heap _
          rw [e0]
          exact ⟨by rw [hv], rfl, rfl⟩
      · skip
        have K10 : ∀ t, Steps p.tables e below (s₁.setTop (mkF m 27 #[.val (.int p0)] [(.int (4 : Int32))])) t → Steps p.tables e below (s₁.setTop (mkF m 0 #[.val (.int p0)] [])) t := by
          intro t kt
          refine K7 _ ?_
          show Steps p.tables e below (s₁.setTop (mkF m 21 #[.val (.int p0)] [(.int (65536 : Int32)), (.int p0)])) _
          refine XS.icmpYes X0.here hx rfl (pc0 := 21) (pc' := 26) rfl (hb hby d2_21) rfl (flt hc8).2.1 (by decide) (by decide) ?_
          show Steps p.tables e below (s₁.setTop (mkF m 26 #[.val (.int p0)] [])) _
          refine XS.iconst X0.here hx rfl (hb hby d2_26) ?_
          exact kt
        have hv : f2 p0 = (4 : Int32) := by simp only [f2, if_neg hc2, if_neg hc5, if_neg hc8]
        obtain ⟨fs, hr, hrun, hended, hW, hsame⟩ := X0.leave (v := some (.int (4 : Int32))) (fun h => by rw [Bd.returns] at h; cases h)
        refine ⟨_, _, pre0 _ (K10 _ ?_), hrun, hended, _, _, rfl, ?_, ⟨_, rfl⟩, hW, hsame.mono (by decide) (by decide)⟩
        · show Steps p.tables e below (s₁.setTop (mkF m 27 #[.val (.int p0)] [(.int (4 : Int32))])) _
          exact retOut X0 hx Bd.returns rfl (Or.inl ⟨rfl, Or.inl rfl, _, rfl⟩) (hb hby d2_27) hr
        · show Q2 Z p0  h0 _ s₁.heap _
          rw [e0]
          exact ⟨by rw [hv], rfl, rfl⟩
theorem own_len {c : Int32} {k : Int32} {n : Nat} (h : f2 c = k) (hk : k.toInt.toNat = n) : (f2 c).toInt.toNat = n := by rw [h]; exact hk
theorem own_lens (c : Int32) : f2 c = 1 ∨ f2 c = 2 ∨ f2 c = 3 ∨ f2 c = 4 := by
  unfold f2
  split
  · exact Or.inl rfl
  · split
    · exact Or.inr (Or.inl rfl)
    · split
      · exact Or.inr (Or.inr (Or.inl rfl))
      · exact Or.inr (Or.inr (Or.inr rfl))
theorem own_len4 {c : Int32} (h1 : ¬ f2 c = 1) (h2 : ¬ f2 c = 2) (h3 : ¬ f2 c = 3) : (f2 c).toInt.toNat = 4 := by
  rcases own_lens c with h | h | h | h
  · exact absurd h h1
  · exact absurd h h2
  · exact absurd h h3
  · rw [h]; rfl
theorem ef_3 (m : MethodId) (x0 : Addr) (x1 : Int32) (x2 : Int32) : entryFrame m #[(.ref x0), (.int x1), (.int x2)] 4 = mkF m 0 #[.val (.ref x0), .val (.int x1), .val (.int x2), .unset] [] := by first | (simp [entryFrame, mkF, argsToLocals, Value.category]; done) | rfl
theorem d3_0 : decode method_4_code 0 = .ok (.iload_n 2, 1) := by decide +kernel
theorem d3_1 : decode method_4_code 1 = .ok (.invokestatic 12, 3) := by decide +kernel
theorem pd_0 : parseMethodDescriptor "(I)I" = some ⟨[.int], some .int⟩ := by decide +kernel
theorem d3_4 : decode method_4_code 4 = .ok (.istore_n 3, 1) := by decide +kernel
theorem d3_5 : decode method_4_code 5 = .ok (.iload_n 3, 1) := by decide +kernel
theorem d3_6 : decode method_4_code 6 = .ok (.iconst 1, 1) := by decide +kernel
theorem d3_7 : decode method_4_code 7 = .ok (.if_icmp .ne 11, 3) := by decide +kernel
theorem d3_10 : decode method_4_code 10 = .ok (.aload_n 0, 1) := by decide +kernel
theorem d3_11 : decode method_4_code 11 = .ok (.iload_n 1, 1) := by decide +kernel
theorem d3_12 : decode method_4_code 12 = .ok (.iload_n 2, 1) := by decide +kernel
theorem d3_13 : decode method_4_code 13 = .ok (.i2b, 1) := by decide +kernel
theorem d3_14 : decode method_4_code 14 = .ok (.bastore, 1) := by decide +kernel
theorem d3_15 : decode method_4_code 15 = .ok (.goto 148, 3) := by decide +kernel
theorem d3_163 : decode method_4_code 163 = .ok (.return_, 1) := by decide +kernel
theorem d3_18 : decode method_4_code 18 = .ok (.iload_n 3, 1) := by decide +kernel
theorem d3_19 : decode method_4_code 19 = .ok (.iconst 2, 1) := by decide +kernel
theorem d3_20 : decode method_4_code 20 = .ok (.if_icmp .ne 32, 3) := by decide +kernel
theorem d3_23 : decode method_4_code 23 = .ok (.aload_n 0, 1) := by decide +kernel
theorem d3_24 : decode method_4_code 24 = .ok (.iload_n 1, 1) := by decide +kernel
theorem d3_25 : decode method_4_code 25 = .ok (.sipush 192, 3) := by decide +kernel
theorem d3_28 : decode method_4_code 28 = .ok (.iload_n 2, 1) := by decide +kernel
theorem d3_29 : decode method_4_code 29 = .ok (.bipush 6, 2) := by decide +kernel
theorem d3_31 : decode method_4_code 31 = .ok (.ishr, 1) := by decide +kernel
theorem d3_32 : decode method_4_code 32 = .ok (.ior, 1) := by decide +kernel
theorem d3_33 : decode method_4_code 33 = .ok (.i2b, 1) := by decide +kernel
theorem d3_34 : decode method_4_code 34 = .ok (.bastore, 1) := by decide +kernel
theorem d3_35 : decode method_4_code 35 = .ok (.aload_n 0, 1) := by decide +kernel
theorem d3_36 : decode method_4_code 36 = .ok (.iload_n 1, 1) := by decide +kernel
theorem d3_37 : decode method_4_code 37 = .ok (.iconst 1, 1) := by decide +kernel
theorem d3_38 : decode method_4_code 38 = .ok (.iadd, 1) := by decide +kernel
theorem d3_39 : decode method_4_code 39 = .ok (.sipush 128, 3) := by decide +kernel
theorem d3_42 : decode method_4_code 42 = .ok (.iload_n 2, 1) := by decide +kernel
theorem d3_43 : decode method_4_code 43 = .ok (.bipush 63, 2) := by decide +kernel
theorem d3_45 : decode method_4_code 45 = .ok (.iand, 1) := by decide +kernel
theorem d3_46 : decode method_4_code 46 = .ok (.ior, 1) := by decide +kernel
theorem d3_47 : decode method_4_code 47 = .ok (.i2b, 1) := by decide +kernel
theorem d3_48 : decode method_4_code 48 = .ok (.bastore, 1) := by decide +kernel
theorem d3_49 : decode method_4_code 49 = .ok (.goto 114, 3) := by decide +kernel
theorem d3_52 : decode method_4_code 52 = .ok (.iload_n 3, 1) := by decide +kernel
theorem d3_53 : decode method_4_code 53 = .ok (.iconst 3, 1) := by decide +kernel
theorem d3_54 : decode method_4_code 54 = .ok (.if_icmp .ne 49, 3) := by decide +kernel
theorem d3_57 : decode method_4_code 57 = .ok (.aload_n 0, 1) := by decide +kernel
theorem d3_58 : decode method_4_code 58 = .ok (.iload_n 1, 1) := by decide +kernel
theorem d3_59 : decode method_4_code 59 = .ok (.sipush 224, 3) := by decide +kernel
theorem d3_62 : decode method_4_code 62 = .ok (.iload_n 2, 1) := by decide +kernel
theorem d3_63 : decode method_4_code 63 = .ok (.bipush 12, 2) := by decide +kernel
theorem d3_65 : decode method_4_code 65 = .ok (.ishr, 1) := by decide +kernel
theorem d3_66 : decode method_4_code 66 = .ok (.ior, 1) := by decide +kernel
theorem d3_67 : decode method_4_code 67 = .ok (.i2b, 1) := by decide +kernel
theorem d3_68 : decode method_4_code 68 = .ok (.bastore, 1) := by decide +kernel
theorem d3_69 : decode method_4_code 69 = .ok (.aload_n 0, 1) := by decide +kernel
theorem d3_70 : decode method_4_code 70 = .ok (.iload_n 1, 1) := by decide +kernel
theorem d3_71 : decode method_4_code 71 = .ok (.iconst 1, 1) := by decide +kernel
theorem d3_72 : decode method_4_code 72 = .ok (.iadd, 1) := by decide +kernel
theorem d3_73 : decode method_4_code 73 = .ok (.sipush 128, 3) := by decide +kernel
theorem d3_76 : decode method_4_code 76 = .ok (.iload_n 2, 1) := by decide +kernel
theorem d3_77 : decode method_4_code 77 = .ok (.bipush 6, 2) := by decide +kernel
theorem d3_79 : decode method_4_code 79 = .ok (.ishr, 1) := by decide +kernel
theorem d3_80 : decode method_4_code 80 = .ok (.bipush 63, 2) := by decide +kernel
theorem d3_82 : decode method_4_code 82 = .ok (.iand, 1) := by decide +kernel
theorem d3_83 : decode method_4_code 83 = .ok (.ior, 1) := by decide +kernel
theorem d3_84 : decode method_4_code 84 = .ok (.i2b, 1) := by decide +kernel
theorem d3_85 : decode method_4_code 85 = .ok (.bastore, 1) := by decide +kernel
theorem d3_86 : decode method_4_code 86 = .ok (.aload_n 0, 1) := by decide +kernel
theorem d3_87 : decode method_4_code 87 = .ok (.iload_n 1, 1) := by decide +kernel
theorem d3_88 : decode method_4_code 88 = .ok (.iconst 2, 1) := by decide +kernel
theorem d3_89 : decode method_4_code 89 = .ok (.iadd, 1) := by decide +kernel
theorem d3_90 : decode method_4_code 90 = .ok (.sipush 128, 3) := by decide +kernel
theorem d3_93 : decode method_4_code 93 = .ok (.iload_n 2, 1) := by decide +kernel
theorem d3_94 : decode method_4_code 94 = .ok (.bipush 63, 2) := by decide +kernel
theorem d3_96 : decode method_4_code 96 = .ok (.iand, 1) := by decide +kernel
theorem d3_97 : decode method_4_code 97 = .ok (.ior, 1) := by decide +kernel
theorem d3_98 : decode method_4_code 98 = .ok (.i2b, 1) := by decide +kernel
theorem d3_99 : decode method_4_code 99 = .ok (.bastore, 1) := by decide +kernel
theorem d3_100 : decode method_4_code 100 = .ok (.goto 63, 3) := by decide +kernel
theorem d3_103 : decode method_4_code 103 = .ok (.aload_n 0, 1) := by decide +kernel
theorem d3_104 : decode method_4_code 104 = .ok (.iload_n 1, 1) := by decide +kernel
theorem d3_105 : decode method_4_code 105 = .ok (.sipush 240, 3) := by decide +kernel
theorem d3_108 : decode method_4_code 108 = .ok (.iload_n 2, 1) := by decide +kernel
theorem d3_109 : decode method_4_code 109 = .ok (.bipush 18, 2) := by decide +kernel
theorem d3_111 : decode method_4_code 111 = .ok (.ishr, 1) := by decide +kernel
theorem d3_112 : decode method_4_code 112 = .ok (.ior, 1) := by decide +kernel
theorem d3_113 : decode method_4_code 113 = .ok (.i2b, 1) := by decide +kernel
theorem d3_114 : decode method_4_code 114 = .ok (.bastore, 1) := by decide +kernel
theorem d3_115 : decode method_4_code 115 = .ok (.aload_n 0, 1) := by decide +kernel
theorem d3_116 : decode method_4_code 116 = .ok (.iload_n 1, 1) := by decide +kernel
theorem d3_117 : decode method_4_code 117 = .ok (.iconst 1, 1) := by decide +kernel
theorem d3_118 : decode method_4_code 118 = .ok (.iadd, 1) := by decide +kernel
theorem d3_119 : decode method_4_code 119 = .ok (.sipush 128, 3) := by decide +kernel
theorem d3_122 : decode method_4_code 122 = .ok (.iload_n 2, 1) := by decide +kernel
theorem d3_123 : decode method_4_code 123 = .ok (.bipush 12, 2) := by decide +kernel
theorem d3_125 : decode method_4_code 125 = .ok (.ishr, 1) := by decide +kernel
theorem d3_126 : decode method_4_code 126 = .ok (.bipush 63, 2) := by decide +kernel
theorem d3_128 : decode method_4_code 128 = .ok (.iand, 1) := by decide +kernel
theorem d3_129 : decode method_4_code 129 = .ok (.ior, 1) := by decide +kernel
theorem d3_130 : decode method_4_code 130 = .ok (.i2b, 1) := by decide +kernel
theorem d3_131 : decode method_4_code 131 = .ok (.bastore, 1) := by decide +kernel
theorem d3_132 : decode method_4_code 132 = .ok (.aload_n 0, 1) := by decide +kernel
theorem d3_133 : decode method_4_code 133 = .ok (.iload_n 1, 1) := by decide +kernel
theorem d3_134 : decode method_4_code 134 = .ok (.iconst 2, 1) := by decide +kernel
theorem d3_135 : decode method_4_code 135 = .ok (.iadd, 1) := by decide +kernel
theorem d3_136 : decode method_4_code 136 = .ok (.sipush 128, 3) := by decide +kernel
theorem d3_139 : decode method_4_code 139 = .ok (.iload_n 2, 1) := by decide +kernel
theorem d3_140 : decode method_4_code 140 = .ok (.bipush 6, 2) := by decide +kernel
theorem d3_142 : decode method_4_code 142 = .ok (.ishr, 1) := by decide +kernel
theorem d3_143 : decode method_4_code 143 = .ok (.bipush 63, 2) := by decide +kernel
theorem d3_145 : decode method_4_code 145 = .ok (.iand, 1) := by decide +kernel
theorem d3_146 : decode method_4_code 146 = .ok (.ior, 1) := by decide +kernel
theorem d3_147 : decode method_4_code 147 = .ok (.i2b, 1) := by decide +kernel
theorem d3_148 : decode method_4_code 148 = .ok (.bastore, 1) := by decide +kernel
theorem d3_149 : decode method_4_code 149 = .ok (.aload_n 0, 1) := by decide +kernel
theorem d3_150 : decode method_4_code 150 = .ok (.iload_n 1, 1) := by decide +kernel
theorem d3_151 : decode method_4_code 151 = .ok (.iconst 3, 1) := by decide +kernel
theorem d3_152 : decode method_4_code 152 = .ok (.iadd, 1) := by decide +kernel
theorem d3_153 : decode method_4_code 153 = .ok (.sipush 128, 3) := by decide +kernel
theorem d3_156 : decode method_4_code 156 = .ok (.iload_n 2, 1) := by decide +kernel
theorem d3_157 : decode method_4_code 157 = .ok (.bipush 63, 2) := by decide +kernel
theorem d3_159 : decode method_4_code 159 = .ok (.iand, 1) := by decide +kernel
theorem d3_160 : decode method_4_code 160 = .ok (.ior, 1) := by decide +kernel
theorem d3_161 : decode method_4_code 161 = .ok (.i2b, 1) := by decide +kernel
theorem d3_162 : decode method_4_code 162 = .ok (.bastore, 1) := by decide +kernel
def putF (f : Nat → Int32) (i : Nat) (p2 : Int32) : Nat → Int32 := if f2 p2 = (1 : Int32) then (up f i (nar .byte (p2.toInt8.toInt32))) else if f2 p2 = (2 : Int32) then (up (up f i (nar .byte (((192 : Int32) ||| (p2 >>> ((6 : Int32) &&& 31))).toInt8.toInt32))) (i + 1) (nar .byte (((128 : Int32) ||| (p2 &&& (63 : Int32))).toInt8.toInt32))) else if f2 p2 = (3 : Int32) then (up (up (up f i (nar .byte (((224 : Int32) ||| (p2 >>> ((12 : Int32) &&& 31))).toInt8.toInt32))) (i + 1) (nar .byte (((128 : Int32) ||| ((p2 >>> ((6 : Int32) &&& 31)) &&& (63 : Int32))).toInt8.toInt32))) (i + 2) (nar .byte (((128 : Int32) ||| (p2 &&& (63 : Int32))).toInt8.toInt32))) else (up (up (up (up f i (nar .byte (((240 : Int32) ||| (p2 >>> ((18 : Int32) &&& 31))).toInt8.toInt32))) (i + 1) (nar .byte (((128 : Int32) ||| ((p2 >>> ((12 : Int32) &&& 31)) &&& (63 : Int32))).toInt8.toInt32))) (i + 2) (nar .byte (((128 : Int32) ||| ((p2 >>> ((6 : Int32) &&& 31)) &&& (63 : Int32))).toInt8.toInt32))) (i + 3) (nar .byte (((128 : Int32) ||| (p2 &&& (63 : Int32))).toInt8.toInt32)))
def Q3 (Z : State) (o0 : Addr) (p1 : Int32) (p2 : Int32) (f : Nat → Int32) (i : Nat) (h0 : Heap) (n0 : Nat) (v : Option Value) (h : Heap) (L : List Loc) : Prop := v = none ∧ Fr n0 L ∧ Keep h0 h [o0] ∧ Ia Z h o0 .byte 8 (putF f i p2)
set_option maxRecDepth 65536 in
set_option maxHeartbeats 40000000 in
theorem rm3 (l : Launch) (Z : State) (a0 : Array Value) (hw : ∀ d ∈ tables_1, d.before a0 Z = true) (ws : List Jvm.Cond) (o0 : Addr) (p1 : Int32) (p2 : Int32) (f : Nat → Int32) (i : Nat) (h0 : Heap) (n0 : Nat) (Z0 : n0 ≤ h0.size) (A1 : Ia Z h0 o0 .byte 8 f) (g1 : n0 ≤ o0) (hi : p1.toInt = (i : Int)) (hle : i + (f2 p2).toInt.toNat ≤ 8) :
    MetFree l (⟨"com/example/seriestrace/seriestrace/marc/Utf8IsUtf8InsidePinLaw", "put", "([BII)V"⟩ : MethodName) (head1 (Jvm.Cond.code (⟨"com/example/seriestrace/seriestrace/marc/Utf8IsUtf8InsidePinLaw", "put", "([BII)V"⟩ : MethodName) method_4_code 4 none :: ws) ({ frames := 1, cells := 0, slots := 0, locals := 12 } : Room)) (fun a U => a = #[(.ref o0), (.int p1), (.int p2)] ∧ Z.Warmed39 U.vm ∧ U.heap = h0) (fun _ _ _ _ _ => True) (fun _ U o U' => ∃ v L, o = .returned v ∧ Q3 Z o0 p1 p2 f i h0 n0 v U'.heap L ∧ FrameEnd U o U' L ({ frames := 1, cells := 0, slots := 0, locals := 12 } : Room).cells ({ frames := 1, cells := 0, slots := 0, locals := 12 } : Room).slots) := by
  refine MetFree.of_bodySF (plainFor_of_name pn_0) hisR ?_
  intro p e s m args below meth c s₁ Bd hml0 hP hK
  obtain ⟨rfl, hZ, hh⟩ := hP
  have hx := Bd.exec
  have hby := Bd.bytes
  have hml : c.maxLocals = 4 := hml0
  have hown : s.vm.findClass "com/example/seriestrace/seriestrace/marc/Utf8IsUtf8InsidePinLaw" = some m.cls := findClass_of_methodNamed Bd.named
  have hnm := (name_of_methodNamed Bd.named Bd.method).1
  have X0 : Stand p l e ({ frames := 1, cells := 0, slots := 0, locals := 12 } : Room) s m #[(.ref o0), (.int p1), (.int p2)] below meth c s₁ [] 0 0 := Stand.of_body Bd
  have e0 : s₁.heap = h0 := by rw [← hh, Bd.state]; rfl
  have pre0 : ∀ t, Steps p.tables e below (s₁.setTop (mkF m 0 #[.val (.ref o0), .val (.int p1), .val (.int p2), .unset] [])) t → Steps p.tables e below (s₁.setTop (entryFrame m #[(.ref o0), (.int p1), (.int p2)] 4)) t := fun t k => castTop (ef_3 m o0 p1 p2) k
  have N0 := Fr.nil n0
  have KP0 : Keep h0 h0 [o0] := Keep.refl _ _
  obtain ⟨_, _, ⟨T1, L1, k1, n1⟩, -, X1, ⟨Lc1, hQ1, l1, y1, z1⟩, st1⟩ := Jvm.LawKit.callS X0 hx (y := (⟨"com/example/seriestrace/seriestrace/marc/Utf8IsUtf8InsidePinLaw", "len", "(I)I"⟩ : MethodName)) hown (mvT hZ (hw _ (List.mem_of_getElem? (i := 7) rfl))) (mvT hZ (hw _ (List.mem_of_getElem? (i := 8) rfl))) (mvT hZ (hw _ (List.mem_of_getElem? (i := 2) rfl))) (mvT hZ (hw _ (List.mem_of_getElem? (i := 9) rfl))) (by decide) (backOf (W := 0) (rm2 l Z a0 hw [] p2  h0 ) hZ (hw _ (List.mem_of_getElem? (i := 9) rfl)) (hw _ (List.mem_of_getElem? (i := 2) rfl)) (by decide) (by decide)) (g := (mkF m 1 #[.val (.ref o0), .val (.int p1), .val (.int p2), .unset] [(.int p2)])) rfl (by rw [hml]; rfl) (argsL := [(.int p2)]) (rest := []) (lenOf pd_0 rfl) rfl (by show 2 * 0 + _ ≤ _; exact Nat.le_of_eq rfl) (hb hby d3_1) (fun _ _ => ⟨rfl, e0, (by decide : 0 + 0 ≤ _), (by decide : 0 + 0 ≤ _)⟩)
  dsimp only [Pt.U, Pt.locs, Pt.cells, Pt.slots] at X1 l1 y1 z1 st1 hQ1
  subst l1 y1 z1
  obtain ⟨rfl, rfl, e1⟩ := hQ1
  try rw [List.append_nil] at X1
  have K2 : ∀ t, Steps p.tables e below (T1.setTop (mkF m 7 #[.val (.ref o0), .val (.int p1), .val (.int p2), .val (.int (f2 p2))] [(.int (1 : Int32)), (.int (f2 p2))])) t → Steps p.tables e below (s₁.setTop (mkF m 0 #[.val (.ref o0), .val (.int p1), .val (.int p2), .unset] [])) t := by
    intro t kt
    show Steps p.tables e below (s₁.setTop (mkF m 0 #[.val (.ref o0), .val (.int p1), .val (.int p2), .unset] [])) _
    refine XS.iloadN X0.here hx rfl (hb hby d3_0) rfl ?_
    show Steps p.tables e below (s₁.setTop (mkF m 1 #[.val (.ref o0), .val (.int p1), .val (.int p2), .unset] [(.int p2)])) _
    refine st1 _ ?_
    show Steps p.tables e below (T1.setTop (mkF m 4 #[.val (.ref o0), .val (.int p1), .val (.int p2), .unset] [(.int (f2 p2))])) _
    refine XS.istoreN X1.here hx rfl (hb hby d3_4) rfl (l' := #[.val (.ref o0), .val (.int p1), .val (.int p2), .val (.int (f2 p2))]) rfl ?_
    show Steps p.tables e below (T1.setTop (mkF m 5 #[.val (.ref o0), .val (.int p1), .val (.int p2), .val (.int (f2 p2))] [])) _
    refine XS.iloadN X1.here hx rfl (hb hby d3_5) rfl ?_
    show Steps p.tables e below (T1.setTop (mkF m 6 #[.val (.ref o0), .val (.int p1), .val (.int p2), .val (.int (f2 p2))] [(.int (f2 p2))])) _
    refine XS.iconst X1.here hx rfl (hb hby d3_6) ?_
    exact kt
  by_cases hc3 : (f2 p2) = (1 : Int32)
  · skip
    obtain ⟨T4, h4, X4, e4, W4, A4, st4⟩ := iaB X1 hx hZ e1 A1 (j := p1) i hi (own_in0 (own_len hc3 rfl) hle (by decide)) (g := (mkF m 14 #[.val (.ref o0), .val (.int p1), .val (.int p2), .val (.int (f2 p2))] [(.int (p2.toInt8.toInt32)), (.int p1), (.ref o0)])) rfl rfl (hb hby d3_14)
    have G5 : Ia Z h4 o0 .byte 8 (up f i (nar .byte (p2.toInt8.toInt32))) := A4
    have Z4 : n0 ≤ h4.size := Nat.le_trans Z0 (Keep.of_wr W4).1
    have N4 := Fr.snoc X4 N0 g1
    have KP4 : Keep h0 h4 [o0] := KP0.wr W4 (Or.inl (List.mem_of_getElem? (i := 0) rfl))
    have K6 : ∀ t, Steps p.tables e below (T4.setTop (mkF m 163 #[.val (.ref o0), .val (.int p1), .val (.int p2), .val (.int (f2 p2))] [])) t → Steps p.tables e below (s₁.setTop (mkF m 0 #[.val (.ref o0), .val (.int p1), .val (.int p2), .unset] [])) t := by
      intro t kt
      refine K2 _ ?_
      show Steps p.tables e below (T1.setTop (mkF m 7 #[.val (.ref o0), .val (.int p1), .val (.int p2), .val (.int (f2 p2))] [(.int (1 : Int32)), (.int (f2 p2))])) _
      refine XS.icmpNo X1.here hx rfl (hb hby d3_7) rfl (teq hc3).2 ?_
      show Steps p.tables e below (T1.setTop (mkF m 10 #[.val (.ref o0), .val (.int p1), .val (.int p2), .val (.int (f2 p2))] [])) _
      refine XS.aloadN X1.here hx rfl (hb hby d3_10) rfl rfl ?_
      show Steps p.tables e below (T1.setTop (mkF m 11 #[.val (.ref o0), .val (.int p1), .val (.int p2), .val (.int (f2 p2))] [(.ref o0)])) _
      refine XS.iloadN X1.here hx rfl (hb hby d3_11) rfl ?_
      show Steps p.tables e below (T1.setTop (mkF m 12 #[.val (.ref o0), .val (.int p1), .val (.int p2), .val (.int (f2 p2))] [(.int p1), (.ref o0)])) _
      refine XS.iloadN X1.here hx rfl (hb hby d3_12) rfl ?_
      show Steps p.tables e below (T1.setTop (mkF m 13 #[.val (.ref o0), .val (.int p1), .val (.int p2), .val (.int (f2 p2))] [(.int p2), (.int p1), (.ref o0)])) _
      refine XS.i2b X1.here hx rfl (hb hby d3_13) rfl ?_
      show Steps p.tables e below (T1.setTop (mkF m 14 #[.val (.ref o0), .val (.int p1), .val (.int p2), .val (.int (f2 p2))] [(.int (p2.toInt8.toInt32)), (.int p1), (.ref o0)])) _
      refine st4 _ ?_
      show Steps p.tables e below (T4.setTop (mkF m 15 #[.val (.ref o0), .val (.int p1), .val (.int p2), .val (.int (f2 p2))] [])) _
      refine XS.goto X4.here hx rfl (pc0 := 15) (pc' := 163) rfl (hb hby d3_15) (by decide) (by decide) ?_
      exact kt
    obtain ⟨fs, hr, hrun, hended, hW, hsame⟩ := X4.leave (v := none) (fun _ => rfl)
    refine ⟨_, _, pre0 _ (K6 _ ?_), hrun, hended, _, _, rfl, ?_, ⟨_, rfl⟩, hW, hsame.mono (by decide) (by decide)⟩
    · show Steps p.tables e below (T4.setTop (mkF m 163 #[.val (.ref o0), .val (.int p1), .val (.int p2), .val (.int (f2 p2))] [])) _
      exact X4.returnOut hx Bd.returns (hb hby d3_163) hr
    · show Q3 Z o0 p1 p2 f i h0 n0 _ T4.heap _
      rw [e4]
      exact ⟨rfl, N4, KP4, by rw [putF, if_pos hc3]; exact G5⟩
  · skip
    have K7 : ∀ t, Steps p.tables e below (T1.setTop (mkF m 20 #[.val (.ref o0), .val (.int p1), .val (.int p2), .val (.int (f2 p2))] [(.int (2 : Int32)), (.int (f2 p2))])) t → Steps p.tables e below (s₁.setTop (mkF m 0 #[.val (.ref o0), .val (.int p1), .val (.int p2), .unset] [])) t := by
      intro t kt
      refine K2 _ ?_
      show Steps p.tables e below (T1.setTop (mkF m 7 #[.val (.ref o0), .val (.int p1), .val (.int p2), .val (.int (f2 p2))] [(.int (1 : Int32)), (.int (f2 p2))])) _
      refine XS.icmpYes X1.here hx rfl (pc0 := 7) (pc' := 18) rfl (hb hby d3_7) rfl (feq hc3).2 (by decide) (by decide) ?_
      show Steps p.tables e below (T1.setTop (mkF m 18 #[.val (.ref o0), .val (.int p1), .val (.int p2), .val (.int (f2 p2))] [])) _
      refine XS.iloadN X1.here hx rfl (hb hby d3_18) rfl ?_
      show Steps p.tables e below (T1.setTop (mkF m 19 #[.val (.ref o0), .val (.int p1), .val (.int p2), .val (.int (f2 p2))] [(.int (f2 p2))])) _
      refine XS.iconst X1.here hx rfl (hb hby d3_19) ?_
      exact kt
    by_cases hc8 : (f2 p2) = (2 : Int32)
    · skip
      obtain ⟨T9, h9, X9, e9, W9, A9, st9⟩ := iaB X1 hx hZ e1 A1 (j := p1) i hi (own_in0 (own_len hc8 rfl) hle (by decide)) (g := (mkF m 34 #[.val (.ref o0), .val (.int p1), .val (.int p2), .val (.int (f2 p2))] [(.int (((192 : Int32) ||| (p2 >>> ((6 : Int32) &&& 31))).toInt8.toInt32)), (.int p1), (.ref o0)])) rfl rfl (hb hby d3_34)
      have G10 : Ia Z h9 o0 .byte 8 (up f i (nar .byte (((192 : Int32) ||| (p2 >>> ((6 : Int32) &&& 31))).toInt8.toInt32))) := A9
      have Z9 : n0 ≤ h9.size := Nat.le_trans Z0 (Keep.of_wr W9).1
      have N9 := Fr.snoc X9 N0 g1
      have KP9 : Keep h0 h9 [o0] := KP0.wr W9 (Or.inl (List.mem_of_getElem? (i := 0) rfl))
      obtain ⟨T11, h11, X11, e11, W11, A11, st11⟩ := iaB X9 hx hZ e9 G10 (j := (p1 + (1 : Int32))) (i + 1) (own_plus hi _ 1 rfl (own_in (own_len hc8 rfl) hle (by decide))) (own_in (own_len hc8 rfl) hle (by decide)) (g := (mkF m 48 #[.val (.ref o0), .val (.int p1), .val (.int p2), .val (.int (f2 p2))] [(.int (((128 : Int32) ||| (p2 &&& (63 : Int32))).toInt8.toInt32)), (.int (p1 + (1 : Int32))), (.ref o0)])) rfl rfl (hb hby d3_48)
      have G12 : Ia Z h11 o0 .byte 8 (up (up f i (nar .byte (((192 : Int32) ||| (p2 >>> ((6 : Int32) &&& 31))).toInt8.toInt32))) (i + 1) (nar .byte (((128 : Int32) ||| (p2 &&& (63 : Int32))).toInt8.toInt32))) := A11
      have Z11 : n0 ≤ h11.size := Nat.le_trans Z9 (Keep.of_wr W11).1
      have N11 := Fr.snoc X11 N9 g1
      have KP11 : Keep h0 h11 [o0] := KP9.wr W11 (Or.inl (List.mem_of_getElem? (i := 0) rfl))
      have K13 : ∀ t, Steps p.tables e below (T11.setTop (mkF m 163 #[.val (.ref o0), .val (.int p1), .val (.int p2), .val (.int (f2 p2))] [])) t → Steps p.tables e below (s₁.setTop (mkF m 0 #[.val (.ref o0), .val (.int p1), .val (.int p2), .unset] [])) t := by
        intro t kt
        refine K7 _ ?_
        show Steps p.tables e below (T1.setTop (mkF m 20 #[.val (.ref o0), .val (.int p1), .val (.int p2), .val (.int (f2 p2))] [(.int (2 : Int32)), (.int (f2 p2))])) _
        refine XS.icmpNo X1.here hx rfl (hb hby d3_20) rfl (teq hc8).2 ?_
        show Steps p.tables e below (T1.setTop (mkF m 23 #[.val (.ref o0), .val (.int p1), .val (.int p2), .val (.int (f2 p2))] [])) _
        refine XS.aloadN X1.here hx rfl (hb hby d3_23) rfl rfl ?_
        show Steps p.tables e below (T1.setTop (mkF m 24 #[.val (.ref o0), .val (.int p1), .val (.int p2), .val (.int (f2 p2))] [(.ref o0)])) _
        refine XS.iloadN X1.here hx rfl (hb hby d3_24) rfl ?_
        show Steps p.tables e below (T1.setTop (mkF m 25 #[.val (.ref o0), .val (.int p1), .val (.int p2), .val (.int (f2 p2))] [(.int p1), (.ref o0)])) _
        refine XS.sipush X1.here hx rfl (hb hby d3_25) ?_
        show Steps p.tables e below (T1.setTop (mkF m 28 #[.val (.ref o0), .val (.int p1), .val (.int p2), .val (.int (f2 p2))] [(.int (192 : Int32)), (.int p1), (.ref o0)])) _
        refine XS.iloadN X1.here hx rfl (hb hby d3_28) rfl ?_
        show Steps p.tables e below (T1.setTop (mkF m 29 #[.val (.ref o0), .val (.int p1), .val (.int p2), .val (.int (f2 p2))] [(.int p2), (.int (192 : Int32)), (.int p1), (.ref o0)])) _
        refine XS.bipush X1.here hx rfl (hb hby d3_29) ?_
        show Steps p.tables e below (T1.setTop (mkF m 31 #[.val (.ref o0), .val (.int p1), .val (.int p2), .val (.int (f2 p2))] [(.int (6 : Int32)), (.int p2), (.int (192 : Int32)), (.int p1), (.ref o0)])) _
        refine XS.ishr X1.here hx rfl (hb hby d3_31) rfl ?_
        show Steps p.tables e below (T1.setTop (mkF m 32 #[.val (.ref o0), .val (.int p1), .val (.int p2), .val (.int (f2 p2))] [(.int (p2 >>> ((6 : Int32) &&& 31))), (.int (192 : Int32)), (.int p1), (.ref o0)])) _
        refine XS.ior X1.here hx rfl (hb hby d3_32) rfl ?_
        show Steps p.tables e below (T1.setTop (mkF m 33 #[.val (.ref o0), .val (.int p1), .val (.int p2), .val (.int (f2 p2))] [(.int ((192 : Int32) ||| (p2 >>> ((6 : Int32) &&& 31)))), (.int p1), (.ref o0)])) _
        refine XS.i2b X1.here hx rfl (hb hby d3_33) rfl ?_
        show Steps p.tables e below (T1.setTop (mkF m 34 #[.val (.ref o0), .val (.int p1), .val (.int p2), .val (.int (f2 p2))] [(.int (((192 : Int32) ||| (p2 >>> ((6 : Int32) &&& 31))).toInt8.toInt32)), (.int p1), (.ref o0)])) _
        refine st9 _ ?_
        show Steps p.tables e below (T9.setTop (mkF m 35 #[.val (.ref o0), .val (.int p1), .val (.int p2), .val (.int (f2 p2))] [])) _
        refine XS.aloadN X9.here hx rfl (hb hby d3_35) rfl rfl ?_
        show Steps p.tables e below (T9.setTop (mkF m 36 #[.val (.ref o0), .val (.int p1), .val (.int p2), .val (.int (f2 p2))] [(.ref o0)])) _
        refine XS.iloadN X9.here hx rfl (hb hby d3_36) rfl ?_
        show Steps p.tables e below (T9.setTop (mkF m 37 #[.val (.ref o0), .val (.int p1), .val (.int p2), .val (.int (f2 p2))] [(.int p1), (.ref o0)])) _
        refine XS.iconst X9.here hx rfl (hb hby d3_37) ?_
        show Steps p.tables e below (T9.setTop (mkF m 38 #[.val (.ref o0), .val (.int p1), .val (.int p2), .val (.int (f2 p2))] [(.int (1 : Int32)), (.int p1), (.ref o0)])) _
        refine XS.iadd X9.here hx rfl (hb hby d3_38) rfl ?_
        show Steps p.tables e below (T9.setTop (mkF m 39 #[.val (.ref o0), .val (.int p1), .val (.int p2), .val (.int (f2 p2))] [(.int (p1 + (1 : Int32))), (.ref o0)])) _
        refine XS.sipush X9.here hx rfl (hb hby d3_39) ?_
        show Steps p.tables e below (T9.setTop (mkF m 42 #[.val (.ref o0), .val (.int p1), .val (.int p2), .val (.int (f2 p2))] [(.int (128 : Int32)), (.int (p1 + (1 : Int32))), (.ref o0)])) _
        refine XS.iloadN X9.here hx rfl (hb hby d3_42) rfl ?_
        show Steps p.tables e below (T9.setTop (mkF m 43 #[.val (.ref o0), .val (.int p1), .val (.int p2), .val (.int (f2 p2))] [(.int p2), (.int (128 : Int32)), (.int (p1 + (1 : Int32))), (.ref o0)])) _
        refine XS.bipush X9.here hx rfl (hb hby d3_43) ?_
        show Steps p.tables e below (T9.setTop (mkF m 45 #[.val (.ref o0), .val (.int p1), .val (.int p2), .val (.int (f2 p2))] [(.int (63 : Int32)), (.int p2), (.int (128 : Int32)), (.int (p1 + (1 : Int32))), (.ref o0)])) _
        refine XS.iand X9.here hx rfl (hb hby d3_45) rfl ?_
        show Steps p.tables e below (T9.setTop (mkF m 46 #[.val (.ref o0), .val (.int p1), .val (.int p2), .val (.int (f2 p2))] [(.int (p2 &&& (63 : Int32))), (.int (128 : Int32)), (.int (p1 + (1 : Int32))), (.ref o0)])) _
        refine XS.ior X9.here hx rfl (hb hby d3_46) rfl ?_
        show Steps p.tables e below (T9.setTop (mkF m 47 #[.val (.ref o0), .val (.int p1), .val (.int p2), .val (.int (f2 p2))] [(.int ((128 : Int32) ||| (p2 &&& (63 : Int32)))), (.int (p1 + (1 : Int32))), (.ref o0)])) _
        refine XS.i2b X9.here hx rfl (hb hby d3_47) rfl ?_
        show Steps p.tables e below (T9.setTop (mkF m 48 #[.val (.ref o0), .val (.int p1), .val (.int p2), .val (.int (f2 p2))] [(.int (((128 : Int32) ||| (p2 &&& (63 : Int32))).toInt8.toInt32)), (.int (p1 + (1 : Int32))), (.ref o0)])) _
        refine st11 _ ?_
        show Steps p.tables e below (T11.setTop (mkF m 49 #[.val (.ref o0), .val (.int p1), .val (.int p2), .val (.int (f2 p2))] [])) _
        refine XS.goto X11.here hx rfl (pc0 := 49) (pc' := 163) rfl (hb hby d3_49) (by decide) (by decide) ?_
        exact kt
      obtain ⟨fs, hr, hrun, hended, hW, hsame⟩ := X11.leave (v := none) (fun _ => rfl)
      refine ⟨_, _, pre0 _ (K13 _ ?_), hrun, hended, _, _, rfl, ?_, ⟨_, rfl⟩, hW, hsame.mono (by decide) (by decide)⟩
      · show Steps p.tables e below (T11.setTop (mkF m 163 #[.val (.ref o0), .val (.int p1), .val (.int p2), .val (.int (f2 p2))] [])) _
        exact X11.returnOut hx Bd.returns (hb hby d3_163) hr
      · show Q3 Z o0 p1 p2 f i h0 n0 _ T11.heap _
        rw [e11]
        exact ⟨rfl, N11, KP11, by rw [putF, if_neg hc3, if_pos hc8]; exact G12⟩
    · skip
      have K14 : ∀ t, Steps p.tables e below (T1.setTop (mkF m 54 #[.val (.ref o0), .val (.int p1), .val (.int p2), .val (.int (f2 p2))] [(.int (3 : Int32)), (.int (f2 p2))])) t → Steps p.tables e below (s₁.setTop (mkF m 0 #[.val (.ref o0), .val (.int p1), .val (.int p2), .unset] [])) t := by
        intro t kt
        refine K7 _ ?_
        show Steps p.tables e below (T1.setTop (mkF m 20 #[.val (.ref o0), .val (.int p1), .val (.int p2), .val (.int (f2 p2))] [(.int (2 : Int32)), (.int (f2 p2))])) _
        refine XS.icmpYes X1.here hx rfl (pc0 := 20) (pc' := 52) rfl (hb hby d3_20) rfl (feq hc8).2 (by decide) (by decide) ?_
        show Steps p.tables e below (T1.setTop (mkF m 52 #[.val (.ref o0), .val (.int p1), .val (.int p2), .val (.int (f2 p2))] [])) _
        refine XS.iloadN X1.here hx rfl (hb hby d3_52) rfl ?_
        show Steps p.tables e below (T1.setTop (mkF m 53 #[.val (.ref o0), .val (.int p1), .val (.int p2), .val (.int (f2 p2))] [(.int (f2 p2))])) _
        refine XS.iconst X1.here hx rfl (hb hby d3_53) ?_
        exact kt
      by_cases hc15 : (f2 p2) = (3 : Int32)
      · skip
        obtain ⟨T16, h16, X16, e16, W16, A16, st16⟩ := iaB X1 hx hZ e1 A1 (j := p1) i hi (own_in0 (own_len hc15 rfl) hle (by decide)) (g := (mkF m 68 #[.val (.ref o0), .val (.int p1), .val (.int p2), .val (.int (f2 p2))] [(.int (((224 : Int32) ||| (p2 >>> ((12 : Int32) &&& 31))).toInt8.toInt32)), (.int p1), (.ref o0)])) rfl rfl (hb hby d3_68)
        have G17 : Ia Z h16 o0 .byte 8 (up f i (nar .byte (((224 : Int32) ||| (p2 >>> ((12 : Int32) &&& 31))).toInt8.toInt32))) := A16
        have Z16 : n0 ≤ h16.size := Nat.le_trans Z0 (Keep.of_wr W16).1
        have N16 := Fr.snoc X16 N0 g1
        have KP16 : Keep h0 h16 [o0] := KP0.wr W16 (Or.inl (List.mem_of_getElem? (i := 0) rfl))
        obtain ⟨T18, h18, X18, e18, W18, A18, st18⟩ := iaB X16 hx hZ e16 G17 (j := (p1 + (1 : Int32))) (i + 1) (own_plus hi _ 1 rfl (own_in (own_len hc15 rfl) hle (by decide))) (own_in (own_len hc15 rfl) hle (by decide)) (g := (mkF m 85 #[.val (.ref o0), .val (.int p1), .val (.int p2), .val (.int (f2 p2))] [(.int (((128 : Int32) ||| ((p2 >>> ((6 : Int32) &&& 31)) &&& (63 : Int32))).toInt8.toInt32)), (.int (p1 + (1 : Int32))), (.ref o0)])) rfl rfl (hb hby d3_85)
        have G19 : Ia Z h18 o0 .byte 8 (up (up f i (nar .byte (((224 : Int32) ||| (p2 >>> ((12 : Int32) &&& 31))).toInt8.toInt32))) (i + 1) (nar .byte (((128 : Int32) ||| ((p2 >>> ((6 : Int32) &&& 31)) &&& (63 : Int32))).toInt8.toInt32))) := A18
        have Z18 : n0 ≤ h18.size := Nat.le_trans Z16 (Keep.of_wr W18).1
        have N18 := Fr.snoc X18 N16 g1
        have KP18 : Keep h0 h18 [o0] := KP16.wr W18 (Or.inl (List.mem_of_getElem? (i := 0) rfl))
        obtain ⟨T20, h20, X20, e20, W20, A20, st20⟩ := iaB X18 hx hZ e18 G19 (j := (p1 + (2 : Int32))) (i + 2) (own_plus hi _ 2 rfl (own_in (own_len hc15 rfl) hle (by decide))) (own_in (own_len hc15 rfl) hle (by decide)) (g := (mkF m 99 #[.val (.ref o0), .val (.int p1), .val (.int p2), .val (.int (f2 p2))] [(.int (((128 : Int32) ||| (p2 &&& (63 : Int32))).toInt8.toInt32)), (.int (p1 + (2 : Int32))), (.ref o0)])) rfl rfl (hb hby d3_99)
        have G21 : Ia Z h20 o0 .byte 8 (up (up (up f i (nar .byte (((224 : Int32) ||| (p2 >>> ((12 : Int32) &&& 31))).toInt8.toInt32))) (i + 1) (nar .byte (((128 : Int32) ||| ((p2 >>> ((6 : Int32) &&& 31)) &&& (63 : Int32))).toInt8.toInt32))) (i + 2) (nar .byte (((128 : Int32) ||| (p2 &&& (63 : Int32))).toInt8.toInt32))) := A20
        have Z20 : n0 ≤ h20.size := Nat.le_trans Z18 (Keep.of_wr W20).1
        have N20 := Fr.snoc X20 N18 g1
        have KP20 : Keep h0 h20 [o0] := KP18.wr W20 (Or.inl (List.mem_of_getElem? (i := 0) rfl))
        have K22 : ∀ t, Steps p.tables e below (T20.setTop (mkF m 163 #[.val (.ref o0), .val (.int p1), .val (.int p2), .val (.int (f2 p2))] [])) t → Steps p.tables e below (s₁.setTop (mkF m 0 #[.val (.ref o0), .val (.int p1), .val (.int p2), .unset] [])) t := by
          intro t kt
          refine K14 _ ?_
          show Steps p.tables e below (T1.setTop (mkF m 54 #[.val (.ref o0), .val (.int p1), .val (.int p2), .val (.int (f2 p2))] [(.int (3 : Int32)), (.int (f2 p2))])) _
          refine XS.icmpNo X1.here hx rfl (hb hby d3_54) rfl (teq hc15).2 ?_
          show Steps p.tables e below (T1.setTop (mkF m 57 #[.val (.ref o0), .val (.int p1), .val (.int p2), .val (.int (f2 p2))] [])) _
          refine XS.aloadN X1.here hx rfl (hb hby d3_57) rfl rfl ?_
          show Steps p.tables e below (T1.setTop (mkF m 58 #[.val (.ref o0), .val (.int p1), .val (.int p2), .val (.int (f2 p2))] [(.ref o0)])) _
          refine XS.iloadN X1.here hx rfl (hb hby d3_58) rfl ?_
          show Steps p.tables e below (T1.setTop (mkF m 59 #[.val (.ref o0), .val (.int p1), .val (.int p2), .val (.int (f2 p2))] [(.int p1), (.ref o0)])) _
          refine XS.sipush X1.here hx rfl (hb hby d3_59) ?_
          show Steps p.tables e below (T1.setTop (mkF m 62 #[.val (.ref o0), .val (.int p1), .val (.int p2), .val (.int (f2 p2))] [(.int (224 : Int32)), (.int p1), (.ref o0)])) _
          refine XS.iloadN X1.here hx rfl (hb hby d3_62) rfl ?_
          show Steps p.tables e below (T1.setTop (mkF m 63 #[.val (.ref o0), .val (.int p1), .val (.int p2), .val (.int (f2 p2))] [(.int p2), (.int (224 : Int32)), (.int p1), (.ref o0)])) _
          refine XS.bipush X1.here hx rfl (hb hby d3_63) ?_
          show Steps p.tables e below (T1.setTop (mkF m 65 #[.val (.ref o0), .val (.int p1), .val (.int p2), .val (.int (f2 p2))] [(.int (12 : Int32)), (.int p2), (.int (224 : Int32)), (.int p1), (.ref o0)])) _
          refine XS.ishr X1.here hx rfl (hb hby d3_65) rfl ?_
          show Steps p.tables e below (T1.setTop (mkF m 66 #[.val (.ref o0), .val (.int p1), .val (.int p2), .val (.int (f2 p2))] [(.int (p2 >>> ((12 : Int32) &&& 31))), (.int (224 : Int32)), (.int p1), (.ref o0)])) _
          refine XS.ior X1.here hx rfl (hb hby d3_66) rfl ?_
          show Steps p.tables e below (T1.setTop (mkF m 67 #[.val (.ref o0), .val (.int p1), .val (.int p2), .val (.int (f2 p2))] [(.int ((224 : Int32) ||| (p2 >>> ((12 : Int32) &&& 31)))), (.int p1), (.ref o0)])) _
          refine XS.i2b X1.here hx rfl (hb hby d3_67) rfl ?_
          show Steps p.tables e below (T1.setTop (mkF m 68 #[.val (.ref o0), .val (.int p1), .val (.int p2), .val (.int (f2 p2))] [(.int (((224 : Int32) ||| (p2 >>> ((12 : Int32) &&& 31))).toInt8.toInt32)), (.int p1), (.ref o0)])) _
          refine st16 _ ?_
          show Steps p.tables e below (T16.setTop (mkF m 69 #[.val (.ref o0), .val (.int p1), .val (.int p2), .val (.int (f2 p2))] [])) _
          refine XS.aloadN X16.here hx rfl (hb hby d3_69) rfl rfl ?_
          show Steps p.tables e below (T16.setTop (mkF m 70 #[.val (.ref o0), .val (.int p1), .val (.int p2), .val (.int (f2 p2))] [(.ref o0)])) _
          refine XS.iloadN X16.here hx rfl (hb hby d3_70) rfl ?_
          show Steps p.tables e below (T16.setTop (mkF m 71 #[.val (.ref o0), .val (.int p1), .val (.int p2), .val (.int (f2 p2))] [(.int p1), (.ref o0)])) _
          refine XS.iconst X16.here hx rfl (hb hby d3_71) ?_
          show Steps p.tables e below (T16.setTop (mkF m 72 #[.val (.ref o0), .val (.int p1), .val (.int p2), .val (.int (f2 p2))] [(.int (1 : Int32)), (.int p1), (.ref o0)])) _
          refine XS.iadd X16.here hx rfl (hb hby d3_72) rfl ?_
          show Steps p.tables e below (T16.setTop (mkF m 73 #[.val (.ref o0), .val (.int p1), .val (.int p2), .val (.int (f2 p2))] [(.int (p1 + (1 : Int32))), (.ref o0)])) _
          refine XS.sipush X16.here hx rfl (hb hby d3_73) ?_
          show Steps p.tables e below (T16.setTop (mkF m 76 #[.val (.ref o0), .val (.int p1), .val (.int p2), .val (.int (f2 p2))] [(.int (128 : Int32)), (.int (p1 + (1 : Int32))), (.ref o0)])) _
          refine XS.iloadN X16.here hx rfl (hb hby d3_76) rfl ?_
          show Steps p.tables e below (T16.setTop (mkF m 77 #[.val (.ref o0), .val (.int p1), .val (.int p2), .val (.int (f2 p2))] [(.int p2), (.int (128 : Int32)), (.int (p1 + (1 : Int32))), (.ref o0)])) _
          refine XS.bipush X16.here hx rfl (hb hby d3_77) ?_
          show Steps p.tables e below (T16.setTop (mkF m 79 #[.val (.ref o0), .val (.int p1), .val (.int p2), .val (.int (f2 p2))] [(.int (6 : Int32)), (.int p2), (.int (128 : Int32)), (.int (p1 + (1 : Int32))), (.ref o0)])) _
          refine XS.ishr X16.here hx rfl (hb hby d3_79) rfl ?_
          show Steps p.tables e below (T16.setTop (mkF m 80 #[.val (.ref o0), .val (.int p1), .val (.int p2), .val (.int (f2 p2))] [(.int (p2 >>> ((6 : Int32) &&& 31))), (.int (128 : Int32)), (.int (p1 + (1 : Int32))), (.ref o0)])) _
          refine XS.bipush X16.here hx rfl (hb hby d3_80) ?_
          show Steps p.tables e below (T16.setTop (mkF m 82 #[.val (.ref o0), .val (.int p1), .val (.int p2), .val (.int (f2 p2))] [(.int (63 : Int32)), (.int (p2 >>> ((6 : Int32) &&& 31))), (.int (128 : Int32)), (.int (p1 + (1 : Int32))), (.ref o0)])) _
          refine XS.iand X16.here hx rfl (hb hby d3_82) rfl ?_
          show Steps p.tables e below (T16.setTop (mkF m 83 #[.val (.ref o0), .val (.int p1), .val (.int p2), .val (.int (f2 p2))] [(.int ((p2 >>> ((6 : Int32) &&& 31)) &&& (63 : Int32))), (.int (128 : Int32)), (.int (p1 + (1 : Int32))), (.ref o0)])) _
          refine XS.ior X16.here hx rfl (hb hby d3_83) rfl ?_
          show Steps p.tables e below (T16.setTop (mkF m 84 #[.val (.ref o0), .val (.int p1), .val (.int p2), .val (.int (f2 p2))] [(.int ((128 : Int32) ||| ((p2 >>> ((6 : Int32) &&& 31)) &&& (63 : Int32)))), (.int (p1 + (1 : Int32))), (.ref o0)])) _
          refine XS.i2b X16.here hx rfl (hb hby d3_84) rfl ?_
          show Steps p.tables e below (T16.setTop (mkF m 85 #[.val (.ref o0), .val (.int p1), .val (.int p2), .val (.int (f2 p2))] [(.int (((128 : Int32) ||| ((p2 >>> ((6 : Int32) &&& 31)) &&& (63 : Int32))).toInt8.toInt32)), (.int (p1 + (1 : Int32))), (.ref o0)])) _
          refine st18 _ ?_
          show Steps p.tables e below (T18.setTop (mkF m 86 #[.val (.ref o0), .val (.int p1), .val (.int p2), .val (.int (f2 p2))] [])) _
          refine XS.aloadN X18.here hx rfl (hb hby d3_86) rfl rfl ?_
          show Steps p.tables e below (T18.setTop (mkF m 87 #[.val (.ref o0), .val (.int p1), .val (.int p2), .val (.int (f2 p2))] [(.ref o0)])) _
          refine XS.iloadN X18.here hx rfl (hb hby d3_87) rfl ?_
          show Steps p.tables e below (T18.setTop (mkF m 88 #[.val (.ref o0), .val (.int p1), .val (.int p2), .val (.int (f2 p2))] [(.int p1), (.ref o0)])) _
          refine XS.iconst X18.here hx rfl (hb hby d3_88) ?_
          show Steps p.tables e below (T18.setTop (mkF m 89 #[.val (.ref o0), .val (.int p1), .val (.int p2), .val (.int (f2 p2))] [(.int (2 : Int32)), (.int p1), (.ref o0)])) _
          refine XS.iadd X18.here hx rfl (hb hby d3_89) rfl ?_
          show Steps p.tables e below (T18.setTop (mkF m 90 #[.val (.ref o0), .val (.int p1), .val (.int p2), .val (.int (f2 p2))] [(.int (p1 + (2 : Int32))), (.ref o0)])) _
          refine XS.sipush X18.here hx rfl (hb hby d3_90) ?_
          show Steps p.tables e below (T18.setTop (mkF m 93 #[.val (.ref o0), .val (.int p1), .val (.int p2), .val (.int (f2 p2))] [(.int (128 : Int32)), (.int (p1 + (2 : Int32))), (.ref o0)])) _
          refine XS.iloadN X18.here hx rfl (hb hby d3_93) rfl ?_
          show Steps p.tables e below (T18.setTop (mkF m 94 #[.val (.ref o0), .val (.int p1), .val (.int p2), .val (.int (f2 p2))] [(.int p2), (.int (128 : Int32)), (.int (p1 + (2 : Int32))), (.ref o0)])) _
          refine XS.bipush X18.here hx rfl (hb hby d3_94) ?_
          show Steps p.tables e below (T18.setTop (mkF m 96 #[.val (.ref o0), .val (.int p1), .val (.int p2), .val (.int (f2 p2))] [(.int (63 : Int32)), (.int p2), (.int (128 : Int32)), (.int (p1 + (2 : Int32))), (.ref o0)])) _
          refine XS.iand X18.here hx rfl (hb hby d3_96) rfl ?_
          show Steps p.tables e below (T18.setTop (mkF m 97 #[.val (.ref o0), .val (.int p1), .val (.int p2), .val (.int (f2 p2))] [(.int (p2 &&& (63 : Int32))), (.int (128 : Int32)), (.int (p1 + (2 : Int32))), (.ref o0)])) _
          refine XS.ior X18.here hx rfl (hb hby d3_97) rfl ?_
          show Steps p.tables e below (T18.setTop (mkF m 98 #[.val (.ref o0), .val (.int p1), .val (.int p2), .val (.int (f2 p2))] [(.int ((128 : Int32) ||| (p2 &&& (63 : Int32)))), (.int (p1 + (2 : Int32))), (.ref o0)])) _
          refine XS.i2b X18.here hx rfl (hb hby d3_98) rfl ?_
          show Steps p.tables e below (T18.setTop (mkF m 99 #[.val (.ref o0), .val (.int p1), .val (.int p2), .val (.int (f2 p2))] [(.int (((128 : Int32) ||| (p2 &&& (63 : Int32))).toInt8.toInt32)), (.int (p1 + (2 : Int32))), (.ref o0)])) _
          refine st20 _ ?_
          show Steps p.tables e below (T20.setTop (mkF m 100 #[.val (.ref o0), .val (.int p1), .val (.int p2), .val (.int (f2 p2))] [])) _
          refine XS.goto X20.here hx rfl (pc0 := 100) (pc' := 163) rfl (hb hby d3_100) (by decide) (by decide) ?_
          exact kt
        obtain ⟨fs, hr, hrun, hended, hW, hsame⟩ := X20.leave (v := none) (fun _ => rfl)
        refine ⟨_, _, pre0 _ (K22 _ ?_), hrun, hended, _, _, rfl, ?_, ⟨_, rfl⟩, hW, hsame.mono (by decide) (by decide)⟩
        · show Steps p.tables e below (T20.setTop (mkF m 163 #[.val (.ref o0), .val (.int p1), .val (.int p2), .val (.int (f2 p2))] [])) _
          exact X20.returnOut hx Bd.returns (hb hby d3_163) hr
        · show Q3 Z o0 p1 p2 f i h0 n0 _ T20.heap _
          rw [e20]
          exact ⟨rfl, N20, KP20, by rw [putF, if_neg hc3, if_neg hc8, if_pos hc15]; exact G21⟩
      · skip
        obtain ⟨T23, h23, X23, e23, W23, A23, st23⟩ := iaB X1 hx hZ e1 A1 (j := p1) i hi (own_in0 (own_len4 hc3 hc8 hc15) hle (by decide)) (g := (mkF m 114 #[.val (.ref o0), .val (.int p1), .val (.int p2), .val (.int (f2 p2))] [(.int (((240 : Int32) ||| (p2 >>> ((18 : Int32) &&& 31))).toInt8.toInt32)), (.int p1), (.ref o0)])) rfl rfl (hb hby d3_114)
        have G24 : Ia Z h23 o0 .byte 8 (up f i (nar .byte (((240 : Int32) ||| (p2 >>> ((18 : Int32) &&& 31))).toInt8.toInt32))) := A23
        have Z23 : n0 ≤ h23.size := Nat.le_trans Z0 (Keep.of_wr W23).1
        have N23 := Fr.snoc X23 N0 g1
        have KP23 : Keep h0 h23 [o0] := KP0.wr W23 (Or.inl (List.mem_of_getElem? (i := 0) rfl))
        obtain ⟨T25, h25, X25, e25, W25, A25, st25⟩ := iaB X23 hx hZ e23 G24 (j := (p1 + (1 : Int32))) (i + 1) (own_plus hi _ 1 rfl (own_in (own_len4 hc3 hc8 hc15) hle (by decide))) (own_in (own_len4 hc3 hc8 hc15) hle (by decide)) (g := (mkF m 131 #[.val (.ref o0), .val (.int p1), .val (.int p2), .val (.int (f2 p2))] [(.int (((128 : Int32) ||| ((p2 >>> ((12 : Int32) &&& 31)) &&& (63 : Int32))).toInt8.toInt32)), (.int (p1 + (1 : Int32))), (.ref o0)])) rfl rfl (hb hby d3_131)
        have G26 : Ia Z h25 o0 .byte 8 (up (up f i (nar .byte (((240 : Int32) ||| (p2 >>> ((18 : Int32) &&& 31))).toInt8.toInt32))) (i + 1) (nar .byte (((128 : Int32) ||| ((p2 >>> ((12 : Int32) &&& 31)) &&& (63 : Int32))).toInt8.toInt32))) := A25
        have Z25 : n0 ≤ h25.size := Nat.le_trans Z23 (Keep.of_wr W25).1
        have N25 := Fr.snoc X25 N23 g1
        have KP25 : Keep h0 h25 [o0] := KP23.wr W25 (Or.inl (List.mem_of_getElem? (i := 0) rfl))
        obtain ⟨T27, h27, X27, e27, W27, A27, st27⟩ := iaB X25 hx hZ e25 G26 (j := (p1 + (2 : Int32))) (i + 2) (own_plus hi _ 2 rfl (own_in (own_len4 hc3 hc8 hc15) hle (by decide))) (own_in (own_len4 hc3 hc8 hc15) hle (by decide)) (g := (mkF m 148 #[.val (.ref o0), .val (.int p1), .val (.int p2), .val (.int (f2 p2))] [(.int (((128 : Int32) ||| ((p2 >>> ((6 : Int32) &&& 31)) &&& (63 : Int32))).toInt8.toInt32)), (.int (p1 + (2 : Int32))), (.ref o0)])) rfl rfl (hb hby d3_148)
        have G28 : Ia Z h27 o0 .byte 8 (up (up (up f i (nar .byte (((240 : Int32) ||| (p2 >>> ((18 : Int32) &&& 31))).toInt8.toInt32))) (i + 1) (nar .byte (((128 : Int32) ||| ((p2 >>> ((12 : Int32) &&& 31)) &&& (63 : Int32))).toInt8.toInt32))) (i + 2) (nar .byte (((128 : Int32) ||| ((p2 >>> ((6 : Int32) &&& 31)) &&& (63 : Int32))).toInt8.toInt32))) := A27
        have Z27 : n0 ≤ h27.size := Nat.le_trans Z25 (Keep.of_wr W27).1
        have N27 := Fr.snoc X27 N25 g1
        have KP27 : Keep h0 h27 [o0] := KP25.wr W27 (Or.inl (List.mem_of_getElem? (i := 0) rfl))
        obtain ⟨T29, h29, X29, e29, W29, A29, st29⟩ := iaB X27 hx hZ e27 G28 (j := (p1 + (3 : Int32))) (i + 3) (own_plus hi _ 3 rfl (own_in (own_len4 hc3 hc8 hc15) hle (by decide))) (own_in (own_len4 hc3 hc8 hc15) hle (by decide)) (g := (mkF m 162 #[.val (.ref o0), .val (.int p1), .val (.int p2), .val (.int (f2 p2))] [(.int (((128 : Int32) ||| (p2 &&& (63 : Int32))).toInt8.toInt32)), (.int (p1 + (3 : Int32))), (.ref o0)])) rfl rfl (hb hby d3_162)
        have G30 : Ia Z h29 o0 .byte 8 (up (up (up (up f i (nar .byte (((240 : Int32) ||| (p2 >>> ((18 : Int32) &&& 31))).toInt8.toInt32))) (i + 1) (nar .byte (((128 : Int32) ||| ((p2 >>> ((12 : Int32) &&& 31)) &&& (63 : Int32))).toInt8.toInt32))) (i + 2) (nar .byte (((128 : Int32) ||| ((p2 >>> ((6 : Int32) &&& 31)) &&& (63 : Int32))).toInt8.toInt32))) (i + 3) (nar .byte (((128 : Int32) ||| (p2 &&& (63 : Int32))).toInt8.toInt32))) := A29
        have Z29 : n0 ≤ h29.size := Nat.le_trans Z27 (Keep.of_wr W29).1
        have N29 := Fr.snoc X29 N27 g1
        have KP29 : Keep h0 h29 [o0] := KP27.wr W29 (Or.inl (List.mem_of_getElem? (i := 0) rfl))
        have K31 : ∀ t, Steps p.tables e below (T29.setTop (mkF m 163 #[.val (.ref o0), .val (.int p1), .val (.int p2), .val (.int (f2 p2))] [])) t → Steps p.tables e below (s₁.setTop (mkF m 0 #[.val (.ref o0), .val (.int p1), .val (.int p2), .unset] [])) t := by
          intro t kt
          refine K14 _ ?_
          show Steps p.tables e below (T1.setTop (mkF m 54 #[.val (.ref o0), .val (.int p1), .val (.int p2), .val (.int (f2 p2))] [(.int (3 : Int32)), (.int (f2 p2))])) _
          refine XS.icmpYes X1.here hx rfl (pc0 := 54) (pc' := 103) rfl (hb hby d3_54) rfl (feq hc15).2 (by decide) (by decide) ?_
          show Steps p.tables e below (T1.setTop (mkF m 103 #[.val (.ref o0), .val (.int p1), .val (.int p2), .val (.int (f2 p2))] [])) _
          refine XS.aloadN X1.here hx rfl (hb hby d3_103) rfl rfl ?_
          show Steps p.tables e below (T1.setTop (mkF m 104 #[.val (.ref o0), .val (.int p1), .val (.int p2), .val (.int (f2 p2))] [(.ref o0)])) _
          refine XS.iloadN X1.here hx rfl (hb hby d3_104) rfl ?_
          show Steps p.tables e below (T1.setTop (mkF m 105 #[.val (.ref o0), .val (.int p1), .val (.int p2), .val (.int (f2 p2))] [(.int p1), (.ref o0)])) _
          refine XS.sipush X1.here hx rfl (hb hby d3_105) ?_
          show Steps p.tables e below (T1.setTop (mkF m 108 #[.val (.ref o0), .val (.int p1), .val (.int p2), .val (.int (f2 p2))] [(.int (240 : Int32)), (.int p1), (.ref o0)])) _
          refine XS.iloadN X1.here hx rfl (hb hby d3_108) rfl ?_
          show Steps p.tables e below (T1.setTop (mkF m 109 #[.val (.ref o0), .val (.int p1), .val (.int p2), .val (.int (f2 p2))] [(.int p2), (.int (240 : Int32)), (.int p1), (.ref o0)])) _
          refine XS.bipush X1.here hx rfl (hb hby d3_109) ?_
          show Steps p.tables e below (T1.setTop (mkF m 111 #[.val (.ref o0), .val (.int p1), .val (.int p2), .val (.int (f2 p2))] [(.int (18 : Int32)), (.int p2), (.int (240 : Int32)), (.int p1), (.ref o0)])) _
          refine XS.ishr X1.here hx rfl (hb hby d3_111) rfl ?_
          show Steps p.tables e below (T1.setTop (mkF m 112 #[.val (.ref o0), .val (.int p1), .val (.int p2), .val (.int (f2 p2))] [(.int (p2 >>> ((18 : Int32) &&& 31))), (.int (240 : Int32)), (.int p1), (.ref o0)])) _
          refine XS.ior X1.here hx rfl (hb hby d3_112) rfl ?_
          show Steps p.tables e below (T1.setTop (mkF m 113 #[.val (.ref o0), .val (.int p1), .val (.int p2), .val (.int (f2 p2))] [(.int ((240 : Int32) ||| (p2 >>> ((18 : Int32) &&& 31)))), (.int p1), (.ref o0)])) _
          refine XS.i2b X1.here hx rfl (hb hby d3_113) rfl ?_
          show Steps p.tables e below (T1.setTop (mkF m 114 #[.val (.ref o0), .val (.int p1), .val (.int p2), .val (.int (f2 p2))] [(.int (((240 : Int32) ||| (p2 >>> ((18 : Int32) &&& 31))).toInt8.toInt32)), (.int p1), (.ref o0)])) _
          refine st23 _ ?_
          show Steps p.tables e below (T23.setTop (mkF m 115 #[.val (.ref o0), .val (.int p1), .val (.int p2), .val (.int (f2 p2))] [])) _
          refine XS.aloadN X23.here hx rfl (hb hby d3_115) rfl rfl ?_
          show Steps p.tables e below (T23.setTop (mkF m 116 #[.val (.ref o0), .val (.int p1), .val (.int p2), .val (.int (f2 p2))] [(.ref o0)])) _
          refine XS.iloadN X23.here hx rfl (hb hby d3_116) rfl ?_
          show Steps p.tables e below (T23.setTop (mkF m 117 #[.val (.ref o0), .val (.int p1), .val (.int p2), .val (.int (f2 p2))] [(.int p1), (.ref o0)])) _
          refine XS.iconst X23.here hx rfl (hb hby d3_117) ?_
          show Steps p.tables e below (T23.setTop (mkF m 118 #[.val (.ref o0), .val (.int p1), .val (.int p2), .val (.int (f2 p2))] [(.int (1 : Int32)), (.int p1), (.ref o0)])) _
          refine XS.iadd X23.here hx rfl (hb hby d3_118) rfl ?_
          show Steps p.tables e below (T23.setTop (mkF m 119 #[.val (.ref o0), .val (.int p1), .val (.int p2), .val (.int (f2 p2))] [(.int (p1 + (1 : Int32))), (.ref o0)])) _
          refine XS.sipush X23.here hx rfl (hb hby d3_119) ?_
          show Steps p.tables e below (T23.setTop (mkF m 122 #[.val (.ref o0), .val (.int p1), .val (.int p2), .val (.int (f2 p2))] [(.int (128 : Int32)), (.int (p1 + (1 : Int32))), (.ref o0)])) _
          refine XS.iloadN X23.here hx rfl (hb hby d3_122) rfl ?_
          show Steps p.tables e below (T23.setTop (mkF m 123 #[.val (.ref o0), .val (.int p1), .val (.int p2), .val (.int (f2 p2))] [(.int p2), (.int (128 : Int32)), (.int (p1 + (1 : Int32))), (.ref o0)])) _
          refine XS.bipush X23.here hx rfl (hb hby d3_123) ?_
          show Steps p.tables e below (T23.setTop (mkF m 125 #[.val (.ref o0), .val (.int p1), .val (.int p2), .val (.int (f2 p2))] [(.int (12 : Int32)), (.int p2), (.int (128 : Int32)), (.int (p1 + (1 : Int32))), (.ref o0)])) _
          refine XS.ishr X23.here hx rfl (hb hby d3_125) rfl ?_
          show Steps p.tables e below (T23.setTop (mkF m 126 #[.val (.ref o0), .val (.int p1), .val (.int p2), .val (.int (f2 p2))] [(.int (p2 >>> ((12 : Int32) &&& 31))), (.int (128 : Int32)), (.int (p1 + (1 : Int32))), (.ref o0)])) _
          refine XS.bipush X23.here hx rfl (hb hby d3_126) ?_
          show Steps p.tables e below (T23.setTop (mkF m 128 #[.val (.ref o0), .val (.int p1), .val (.int p2), .val (.int (f2 p2))] [(.int (63 : Int32)), (.int (p2 >>> ((12 : Int32) &&& 31))), (.int (128 : Int32)), (.int (p1 + (1 : Int32))), (.ref o0)])) _
          refine XS.iand X23.here hx rfl (hb hby d3_128) rfl ?_
          show Steps p.tables e below (T23.setTop (mkF m 129 #[.val (.ref o0), .val (.int p1), .val (.int p2), .val (.int (f2 p2))] [(.int ((p2 >>> ((12 : Int32) &&& 31)) &&& (63 : Int32))), (.int (128 : Int32)), (.int (p1 + (1 : Int32))), (.ref o0)])) _
          refine XS.ior X23.here hx rfl (hb hby d3_129) rfl ?_
          show Steps p.tables e below (T23.setTop (mkF m 130 #[.val (.ref o0), .val (.int p1), .val (.int p2), .val (.int (f2 p2))] [(.int ((128 : Int32) ||| ((p2 >>> ((12 : Int32) &&& 31)) &&& (63 : Int32)))), (.int (p1 + (1 : Int32))), (.ref o0)])) _
          refine XS.i2b X23.here hx rfl (hb hby d3_130) rfl ?_
          show Steps p.tables e below (T23.setTop (mkF m 131 #[.val (.ref o0), .val (.int p1), .val (.int p2), .val (.int (f2 p2))] [(.int (((128 : Int32) ||| ((p2 >>> ((12 : Int32) &&& 31)) &&& (63 : Int32))).toInt8.toInt32)), (.int (p1 + (1 : Int32))), (.ref o0)])) _
          refine st25 _ ?_
          show Steps p.tables e below (T25.setTop (mkF m 132 #[.val (.ref o0), .val (.int p1), .val (.int p2), .val (.int (f2 p2))] [])) _
          refine XS.aloadN X25.here hx rfl (hb hby d3_132) rfl rfl ?_
          show Steps p.tables e below (T25.setTop (mkF m 133 #[.val (.ref o0), .val (.int p1), .val (.int p2), .val (.int (f2 p2))] [(.ref o0)])) _
          refine XS.iloadN X25.here hx rfl (hb hby d3_133) rfl ?_
          show Steps p.tables e below (T25.setTop (mkF m 134 #[.val (.ref o0), .val (.int p1), .val (.int p2), .val (.int (f2 p2))] [(.int p1), (.ref o0)])) _
          refine XS.iconst X25.here hx rfl (hb hby d3_134) ?_
          show Steps p.tables e below (T25.setTop (mkF m 135 #[.val (.ref o0), .val (.int p1), .val (.int p2), .val (.int (f2 p2))] [(.int (2 : Int32)), (.int p1), (.ref o0)])) _
          refine XS.iadd X25.here hx rfl (hb hby d3_135) rfl ?_
          show Steps p.tables e below (T25.setTop (mkF m 136 #[.val (.ref o0), .val (.int p1), .val (.int p2), .val (.int (f2 p2))] [(.int (p1 + (2 : Int32))), (.ref o0)])) _
          refine XS.sipush X25.here hx rfl (hb hby d3_136) ?_
          show Steps p.tables e below (T25.setTop (mkF m 139 #[.val (.ref o0), .val (.int p1), .val (.int p2), .val (.int (f2 p2))] [(.int (128 : Int32)), (.int (p1 + (2 : Int32))), (.ref o0)])) _
          refine XS.iloadN X25.here hx rfl (hb hby d3_139) rfl ?_
          show Steps p.tables e below (T25.setTop (mkF m 140 #[.val (.ref o0), .val (.int p1), .val (.int p2), .val (.int (f2 p2))] [(.int p2), (.int (128 : Int32)), (.int (p1 + (2 : Int32))), (.ref o0)])) _
          refine XS.bipush X25.here hx rfl (hb hby d3_140) ?_
          show Steps p.tables e below (T25.setTop (mkF m 142 #[.val (.ref o0), .val (.int p1), .val (.int p2), .val (.int (f2 p2))] [(.int (6 : Int32)), (.int p2), (.int (128 : Int32)), (.int (p1 + (2 : Int32))), (.ref o0)])) _
          refine XS.ishr X25.here hx rfl (hb hby d3_142) rfl ?_
          show Steps p.tables e below (T25.setTop (mkF m 143 #[.val (.ref o0), .val (.int p1), .val (.int p2), .val (.int (f2 p2))] [(.int (p2 >>> ((6 : Int32) &&& 31))), (.int (128 : Int32)), (.int (p1 + (2 : Int32))), (.ref o0)])) _
          refine XS.bipush X25.here hx rfl (hb hby d3_143) ?_
          show Steps p.tables e below (T25.setTop (mkF m 145 #[.val (.ref o0), .val (.int p1), .val (.int p2), .val (.int (f2 p2))] [(.int (63 : Int32)), (.int (p2 >>> ((6 : Int32) &&& 31))), (.int (128 : Int32)), (.int (p1 + (2 : Int32))), (.ref o0)])) _
          refine XS.iand X25.here hx rfl (hb hby d3_145) rfl ?_
          show Steps p.tables e below (T25.setTop (mkF m 146 #[.val (.ref o0), .val (.int p1), .val (.int p2), .val (.int (f2 p2))] [(.int ((p2 >>> ((6 : Int32) &&& 31)) &&& (63 : Int32))), (.int (128 : Int32)), (.int (p1 + (2 : Int32))), (.ref o0)])) _
          refine XS.ior X25.here hx rfl (hb hby d3_146) rfl ?_
          show Steps p.tables e below (T25.setTop (mkF m 147 #[.val (.ref o0), .val (.int p1), .val (.int p2), .val (.int (f2 p2))] [(.int ((128 : Int32) ||| ((p2 >>> ((6 : Int32) &&& 31)) &&& (63 : Int32)))), (.int (p1 + (2 : Int32))), (.ref o0)])) _
          refine XS.i2b X25.here hx rfl (hb hby d3_147) rfl ?_
          show Steps p.tables e below (T25.setTop (mkF m 148 #[.val (.ref o0), .val (.int p1), .val (.int p2), .val (.int (f2 p2))] [(.int (((128 : Int32) ||| ((p2 >>> ((6 : Int32) &&& 31)) &&& (63 : Int32))).toInt8.toInt32)), (.int (p1 + (2 : Int32))), (.ref o0)])) _
          refine st27 _ ?_
          show Steps p.tables e below (T27.setTop (mkF m 149 #[.val (.ref o0), .val (.int p1), .val (.int p2), .val (.int (f2 p2))] [])) _
          refine XS.aloadN X27.here hx rfl (hb hby d3_149) rfl rfl ?_
          show Steps p.tables e below (T27.setTop (mkF m 150 #[.val (.ref o0), .val (.int p1), .val (.int p2), .val (.int (f2 p2))] [(.ref o0)])) _
          refine XS.iloadN X27.here hx rfl (hb hby d3_150) rfl ?_
          show Steps p.tables e below (T27.setTop (mkF m 151 #[.val (.ref o0), .val (.int p1), .val (.int p2), .val (.int (f2 p2))] [(.int p1), (.ref o0)])) _
          refine XS.iconst X27.here hx rfl (hb hby d3_151) ?_
          show Steps p.tables e below (T27.setTop (mkF m 152 #[.val (.ref o0), .val (.int p1), .val (.int p2), .val (.int (f2 p2))] [(.int (3 : Int32)), (.int p1), (.ref o0)])) _
          refine XS.iadd X27.here hx rfl (hb hby d3_152) rfl ?_
          show Steps p.tables e below (T27.setTop (mkF m 153 #[.val (.ref o0), .val (.int p1), .val (.int p2), .val (.int (f2 p2))] [(.int (p1 + (3 : Int32))), (.ref o0)])) _
          refine XS.sipush X27.here hx rfl (hb hby d3_153) ?_
          show Steps p.tables e below (T27.setTop (mkF m 156 #[.val (.ref o0), .val (.int p1), .val (.int p2), .val (.int (f2 p2))] [(.int (128 : Int32)), (.int (p1 + (3 : Int32))), (.ref o0)])) _
          refine XS.iloadN X27.here hx rfl (hb hby d3_156) rfl ?_
          show Steps p.tables e below (T27.setTop (mkF m 157 #[.val (.ref o0), .val (.int p1), .val (.int p2), .val (.int (f2 p2))] [(.int p2), (.int (128 : Int32)), (.int (p1 + (3 : Int32))), (.ref o0)])) _
          refine XS.bipush X27.here hx rfl (hb hby d3_157) ?_
          show Steps p.tables e below (T27.setTop (mkF m 159 #[.val (.ref o0), .val (.int p1), .val (.int p2), .val (.int (f2 p2))] [(.int (63 : Int32)), (.int p2), (.int (128 : Int32)), (.int (p1 + (3 : Int32))), (.ref o0)])) _
          refine XS.iand X27.here hx rfl (hb hby d3_159) rfl ?_
          show Steps p.tables e below (T27.setTop (mkF m 160 #[.val (.ref o0), .val (.int p1), .val (.int p2), .val (.int (f2 p2))] [(.int (p2 &&& (63 : Int32))), (.int (128 : Int32)), (.int (p1 + (3 : Int32))), (.ref o0)])) _
          refine XS.ior X27.here hx rfl (hb hby d3_160) rfl ?_
          show Steps p.tables e below (T27.setTop (mkF m 161 #[.val (.ref o0), .val (.int p1), .val (.int p2), .val (.int (f2 p2))] [(.int ((128 : Int32) ||| (p2 &&& (63 : Int32)))), (.int (p1 + (3 : Int32))), (.ref o0)])) _
          refine XS.i2b X27.here hx rfl (hb hby d3_161) rfl ?_
          show Steps p.tables e below (T27.setTop (mkF m 162 #[.val (.ref o0), .val (.int p1), .val (.int p2), .val (.int (f2 p2))] [(.int (((128 : Int32) ||| (p2 &&& (63 : Int32))).toInt8.toInt32)), (.int (p1 + (3 : Int32))), (.ref o0)])) _
          refine st29 _ ?_
          exact kt
        obtain ⟨fs, hr, hrun, hended, hW, hsame⟩ := X29.leave (v := none) (fun _ => rfl)
        refine ⟨_, _, pre0 _ (K31 _ ?_), hrun, hended, _, _, rfl, ?_, ⟨_, rfl⟩, hW, hsame.mono (by decide) (by decide)⟩
        · show Steps p.tables e below (T29.setTop (mkF m 163 #[.val (.ref o0), .val (.int p1), .val (.int p2), .val (.int (f2 p2))] [])) _
          exact X29.returnOut hx Bd.returns (hb hby d3_163) hr
        · show Q3 Z o0 p1 p2 f i h0 n0 _ T29.heap _
          rw [e29]
          exact ⟨rfl, N29, KP29, by rw [putF, if_neg hc3, if_neg hc8, if_neg hc15]; exact G30⟩
theorem own_b192 : ∀ i : Fin 32, (192#32).getLsbD i.val = decide (i.val = 6 ∨ i.val = 7) := by decide +kernel
theorem own_nb (z : Int32) : (nar .byte (z.toInt8.toInt32)) &&& (192 : Int32) = z &&& (192 : Int32) := by
  apply Int32.toBitVec_inj.mp
  show ((((z.toBitVec.signExtend 8).signExtend 32).signExtend 8).signExtend 32) &&& 192#32 = z.toBitVec &&& 192#32
  apply BitVec.eq_of_getLsbD_eq
  intro i hi
  rw [BitVec.getLsbD_and, BitVec.getLsbD_and, own_b192 ⟨i, hi⟩]
  by_cases h8 : i < 8
  · rw [BitVec.getLsbD_signExtend, BitVec.getLsbD_signExtend, BitVec.getLsbD_signExtend, BitVec.getLsbD_signExtend]
    simp [h8, hi]
  · have : ¬ (i = 6 ∨ i = 7) := by omega
    simp [this]
theorem own_np (z : Int32) (h : (z &&& (192 : Int32)) ≠ 128) : (nar .byte (z.toInt8.toInt32)) &&& (192 : Int32) ≠ 128 := by rw [own_nb]; exact h
theorem own_cb (y : Int32) : ((128 : Int32) ||| (y &&& (63 : Int32))) &&& (192 : Int32) = 128 := by
  apply Int32.toBitVec_inj.mp
  show (128#32 ||| (y.toBitVec &&& 63#32)) &&& 192#32 = 128#32
  apply BitVec.eq_of_getLsbD_eq
  intro i hi
  have h1 : ∀ i : Fin 32, (128#32).getLsbD i.val = decide (i.val = 7) := by decide +kernel
  have h2 : ∀ i : Fin 32, (63#32).getLsbD i.val = decide (i.val < 6) := by decide +kernel
  rw [BitVec.getLsbD_and, BitVec.getLsbD_or, BitVec.getLsbD_and, own_b192 ⟨i, hi⟩, h1 ⟨i, hi⟩, h2 ⟨i, hi⟩]
  by_cases h7 : i = 7
  · simp [h7]
  · by_cases h6 : i = 6
    · simp [h6]
    · simp [h6, h7]
theorem own_lb (k y : Int32) (hk : k &&& (192 : Int32) = 192) : (k ||| y) &&& (192 : Int32) ≠ 128 := by
  have : (k ||| y) &&& (192 : Int32) = 192 := by
    apply Int32.toBitVec_inj.mp
    have hk' : k.toBitVec &&& 192#32 = 192#32 := congrArg Int32.toBitVec hk
    show (k.toBitVec ||| y.toBitVec) &&& 192#32 = 192#32
    apply BitVec.eq_of_getLsbD_eq
    intro i hi
    have hb := congrArg (fun v => BitVec.getLsbD v i) hk'
    simp only [BitVec.getLsbD_and] at hb
    rw [BitVec.getLsbD_and, BitVec.getLsbD_or]
    rw [own_b192 ⟨i, hi⟩] at hb ⊢
    by_cases h : (i = 6 ∨ i = 7)
    · simp only [h, decide_true, Bool.and_true] at hb ⊢
      rw [hb]; rfl
    · simp [h]
  rw [this]
  decide
theorem own_ab (c : Int32) (h0 : 0 ≤ c.toInt) (h1 : c.toInt < 128) : c &&& (192 : Int32) ≠ 128 := by
  have e : c = Int32.ofNat c.toInt.toNat := by
    apply Int32.toInt_inj.mp
    rw [Int32.toInt_ofNat_of_lt (by omega)]
    omega
  have : ∀ n : Fin 128, (Int32.ofNat n.val) &&& (192 : Int32) ≠ 128 := by decide +kernel
  rw [e]
  exact this ⟨c.toInt.toNat, by omega⟩
theorem own_out (f : Nat → Int32) (i : Nat) (c : Int32) (j : Nat) (h : j < i ∨ i + (f2 c).toInt.toNat ≤ j) : putF f i c j = f j := by
  unfold putF
  rcases own_lens c with e | e | e | e
  · rw [e, show (1 : Int32).toInt.toNat = 1 from rfl] at h
    rw [if_pos e, up_ne _ _ (by omega)]
  · rw [e, show (2 : Int32).toInt.toNat = 2 from rfl] at h
    rw [if_neg (by rw [e]; decide), if_pos e, up_ne _ _ (by omega), up_ne _ _ (by omega)]
  · rw [e, show (3 : Int32).toInt.toNat = 3 from rfl] at h
    rw [if_neg (by rw [e]; decide), if_neg (by rw [e]; decide), if_pos e, up_ne _ _ (by omega), up_ne _ _ (by omega), up_ne _ _ (by omega)]
  · rw [e, show (4 : Int32).toInt.toNat = 4 from rfl] at h
    rw [if_neg (by rw [e]; decide), if_neg (by rw [e]; decide), if_neg (by rw [e]; decide), up_ne _ _ (by omega), up_ne _ _ (by omega), up_ne _ _ (by omega), up_ne _ _ (by omega)]
theorem own_small {c : Int32} (h : f2 c = 1) : c.toInt < 128 := by
  unfold f2 at h
  by_cases h1 : c < (128 : Int32)
  · rw [Int32.lt_iff_toInt_lt] at h1
    exact h1
  · rw [if_neg h1] at h
    split at h
    · exact absurd h (by decide)
    · split at h <;> exact absurd h (by decide)
theorem own_lead (f : Nat → Int32) (i : Nat) (c : Int32) (h0 : 0 ≤ c.toInt) : putF f i c i &&& (192 : Int32) ≠ 128 := by
  unfold putF
  rcases own_lens c with e | e | e | e
  · rw [if_pos e, up_at]
    exact own_np _ (own_ab c h0 (own_small e))
  · rw [if_neg (by rw [e]; decide), if_pos e, up_ne _ _ (by omega), up_at]
    exact own_np _ (own_lb _ _ (by decide))
  · rw [if_neg (by rw [e]; decide), if_neg (by rw [e]; decide), if_pos e, up_ne _ _ (by omega), up_ne _ _ (by omega), up_at]
    exact own_np _ (own_lb _ _ (by decide))
  · rw [if_neg (by rw [e]; decide), if_neg (by rw [e]; decide), if_neg (by rw [e]; decide), up_ne _ _ (by omega), up_ne _ _ (by omega), up_ne _ _ (by omega), up_at]
    exact own_np _ (own_lb _ _ (by decide))
theorem own_cont (f : Nat → Int32) (i : Nat) (c : Int32) (j : Nat) (h1 : i < j) (h2 : j < i + (f2 c).toInt.toNat) : putF f i c j &&& (192 : Int32) = 128 := by
  unfold putF
  rcases own_lens c with e | e | e | e
  · rw [e, show (1 : Int32).toInt.toNat = 1 from rfl] at h2
    omega
  · rw [e, show (2 : Int32).toInt.toNat = 2 from rfl] at h2
    obtain rfl : j = i + 1 := by omega
    rw [if_neg (by rw [e]; decide), if_pos e, up_at, own_nb, own_cb]
  · rw [e, show (3 : Int32).toInt.toNat = 3 from rfl] at h2
    rw [if_neg (by rw [e]; decide), if_neg (by rw [e]; decide), if_pos e]
    rcases (by omega : j = i + 1 ∨ j = i + 2) with rfl | rfl
    · rw [up_ne _ _ (by omega), up_at, own_nb, own_cb]
    · rw [up_at, own_nb, own_cb]
  · rw [e, show (4 : Int32).toInt.toNat = 4 from rfl] at h2
    rw [if_neg (by rw [e]; decide), if_neg (by rw [e]; decide), if_neg (by rw [e]; decide)]
    rcases (by omega : j = i + 1 ∨ j = i + 2 ∨ j = i + 3) with rfl | rfl | rfl
    · rw [up_ne _ _ (by omega), up_ne _ _ (by omega), up_at, own_nb, own_cb]
    · rw [up_ne _ _ (by omega), up_at, own_nb, own_cb]
    · rw [up_at, own_nb, own_cb]
theorem ef_4 (m : MethodId) (x0 : Addr) (x1 : Int32) (x2 : Int32) : entryFrame m #[(.ref x0), (.int x1), (.int x2)] 3 = mkF m 0 #[.val (.ref x0), .val (.int x1), .val (.int x2)] [] := by first | (simp [entryFrame, mkF, argsToLocals, Value.category]; done) | rfl
theorem pn_1 : plainName "com/example/seriestrace/seriestrace/marc/Utf8" = true := by first | (simp [plainName, overriddenIn]; done) | decide +kernel
theorem d4_0 : decode prog_51_method_4_code 0 = .ok (.iload_n 1, 1) := by decide +kernel
theorem d4_1 : decode prog_51_method_4_code 1 = .ok (.iload_n 2, 1) := by decide +kernel
theorem d4_2 : decode prog_51_method_4_code 2 = .ok (.if_icmp .eq 16, 3) := by decide +kernel
theorem d4_18 : decode prog_51_method_4_code 18 = .ok (.iconst 1, 1) := by decide +kernel
theorem d4_19 : decode prog_51_method_4_code 19 = .ok (.goto 4, 3) := by decide +kernel
theorem d4_23 : decode prog_51_method_4_code 23 = .ok (.ireturn, 1) := by decide +kernel
theorem d4_5 : decode prog_51_method_4_code 5 = .ok (.aload_n 0, 1) := by decide +kernel
theorem d4_6 : decode prog_51_method_4_code 6 = .ok (.iload_n 1, 1) := by decide +kernel
theorem d4_7 : decode prog_51_method_4_code 7 = .ok (.baload, 1) := by decide +kernel
theorem d4_8 : decode prog_51_method_4_code 8 = .ok (.sipush 192, 3) := by decide +kernel
theorem d4_11 : decode prog_51_method_4_code 11 = .ok (.iand, 1) := by decide +kernel
theorem d4_12 : decode prog_51_method_4_code 12 = .ok (.sipush 128, 3) := by decide +kernel
theorem d4_15 : decode prog_51_method_4_code 15 = .ok (.if_icmp .eq 7, 3) := by decide +kernel
theorem d4_22 : decode prog_51_method_4_code 22 = .ok (.iconst 0, 1) := by decide +kernel
def f4 (p1 : Int32) (p2 : Int32) (f : Nat → Int32) (i : Nat) : Int32 := if p1 = p2 then (1 : Int32)
  else if ((f i) &&& (192 : Int32)) = (128 : Int32) then (0 : Int32)
  else (1 : Int32)
def Q4 (Z : State) (o0 : Addr) (p1 : Int32) (p2 : Int32) (f : Nat → Int32) (i : Nat) (h0 : Heap) (v : Option Value) (h : Heap) (L : List Loc) : Prop := v = some (.int (f4 p1 p2 f i)) ∧ L = [] ∧ h = h0
set_option maxRecDepth 65536 in
set_option maxHeartbeats 40000000 in
theorem rm4 (l : Launch) (Z : State) (a0 : Array Value) (hw : ∀ d ∈ tables_1, d.before a0 Z = true) (ws : List Jvm.Cond) (o0 : Addr) (p1 : Int32) (p2 : Int32) (f : Nat → Int32) (i : Nat) (h0 : Heap) (A1 : Ia Z h0 o0 .byte 8 f) (hi : p1.toInt = (i : Int)) (hn : ¬ p1 = p2 → i < 8) :
    MetFree l (⟨"com/example/seriestrace/seriestrace/marc/Utf8", "isUtf8Inside", "([BII)Z"⟩ : MethodName) (head1 (Jvm.Cond.code (⟨"com/example/seriestrace/seriestrace/marc/Utf8", "isUtf8Inside", "([BII)Z"⟩ : MethodName) prog_51_method_4_code 3 (some .boolean) :: ws) ({ frames := 0, cells := 0, slots := 0, locals := 0 } : Room)) (fun a U => a = #[(.ref o0), (.int p1), (.int p2)] ∧ Z.Warmed39 U.vm ∧ U.heap = h0) (fun _ _ _ _ _ => True) (fun _ U o U' => ∃ v L, o = .returned v ∧ Q4 Z o0 p1 p2 f i h0 v U'.heap L ∧ FrameEnd U o U' L ({ frames := 0, cells := 0, slots := 0, locals := 0 } : Room).cells ({ frames := 0, cells := 0, slots := 0, locals := 0 } : Room).slots) := by
  refine MetFree.of_bodySF (plainFor_of_name pn_1) hisR ?_
  intro p e s m args below meth c s₁ Bd hml0 hP hK
  obtain ⟨rfl, hZ, hh⟩ := hP
  have hx := Bd.exec
  have hby := Bd.bytes
  have hml : c.maxLocals = 3 := hml0
  have hown : s.vm.findClass "com/example/seriestrace/seriestrace/marc/Utf8" = some m.cls := findClass_of_methodNamed Bd.named
  have hnm := (name_of_methodNamed Bd.named Bd.method).1
  have X0 : Stand p l e ({ frames := 0, cells := 0, slots := 0, locals := 0 } : Room) s m #[(.ref o0), (.int p1), (.int p2)] below meth c s₁ [] 0 0 := Stand.of_body Bd
  have e0 : s₁.heap = h0 := by rw [← hh, Bd.state]; rfl
  have pre0 : ∀ t, Steps p.tables e below (s₁.setTop (mkF m 0 #[.val (.ref o0), .val (.int p1), .val (.int p2)] [])) t → Steps p.tables e below (s₁.setTop (entryFrame m #[(.ref o0), (.int p1), (.int p2)] 3)) t := fun t k => castTop (ef_4 m o0 p1 p2) k
  have K1 : ∀ t, Steps p.tables e below (s₁.setTop (mkF m 2 #[.val (.ref o0), .val (.int p1), .val (.int p2)] [(.int p2), (.int p1)])) t → Steps p.tables e below (s₁.setTop (mkF m 0 #[.val (.ref o0), .val (.int p1), .val (.int p2)] [])) t := by
    intro t kt
    show Steps p.tables e below (s₁.setTop (mkF m 0 #[.val (.ref o0), .val (.int p1), .val (.int p2)] [])) _
    refine XS.iloadN X0.here hx rfl (hb hby d4_0) rfl ?_
    show Steps p.tables e below (s₁.setTop (mkF m 1 #[.val (.ref o0), .val (.int p1), .val (.int p2)] [(.int p1)])) _
    refine XS.iloadN X0.here hx rfl (hb hby d4_1) rfl ?_
    exact kt
  by_cases hc2 : p1 = p2
  · skip
    have K3 : ∀ t, Steps p.tables e below (s₁.setTop (mkF m 23 #[.val (.ref o0), .val (.int p1), .val (.int p2)] [(.int (1 : Int32))])) t → Steps p.tables e below (s₁.setTop (mkF m 0 #[.val (.ref o0), .val (.int p1), .val (.int p2)] [])) t := by
      intro t kt
      refine K1 _ ?_
      show Steps p.tables e below (s₁.setTop (mkF m 2 #[.val (.ref o0), .val (.int p1), .val (.int p2)] [(.int p2), (.int p1)])) _
      refine XS.icmpYes X0.here hx rfl (pc0 := 2) (pc' := 18) rfl (hb hby d4_2) rfl (teq hc2).1 (by decide) (by decide) ?_
      show Steps p.tables e below (s₁.setTop (mkF m 18 #[.val (.ref o0), .val (.int p1), .val (.int p2)] [])) _
      refine XS.iconst X0.here hx rfl (hb hby d4_18) ?_
      show Steps p.tables e below (s₁.setTop (mkF m 19 #[.val (.ref o0), .val (.int p1), .val (.int p2)] [(.int (1 : Int32))])) _
      refine XS.goto X0.here hx rfl (pc0 := 19) (pc' := 23) rfl (hb hby d4_19) (by decide) (by decide) ?_
      exact kt
    have hv : f4 p1 p2 f i = (1 : Int32) := by simp only [f4, if_pos hc2]
    obtain ⟨fs, hr, hrun, hended, hW, hsame⟩ := X0.leave (v := some (.int (1 : Int32))) (fun h => by rw [Bd.returns] at h; cases h)
    refine ⟨_, _, pre0 _ (K3 _ ?_), hrun, hended, _, _, rfl, ?_, ⟨_, rfl⟩, hW, hsame.mono (by decide) (by decide)⟩
    · show Steps p.tables e below (s₁.setTop (mkF m 23 #[.val (.ref o0), .val (.int p1), .val (.int p2)] [(.int (1 : Int32))])) _
      exact retN X0 hx (t := .boolean) Bd.returns (by simp) (hb hby d4_23) hr
    · show Q4 Z o0 p1 p2 f i h0 _ s₁.heap _
      rw [e0]
      exact ⟨by rw [hv], rfl, rfl⟩
  · skip
    have K4 : ∀ t, Steps p.tables e below (s₁.setTop (mkF m 15 #[.val (.ref o0), .val (.int p1), .val (.int p2)] [(.int (128 : Int32)), (.int ((f i) &&& (192 : Int32)))])) t → Steps p.tables e below (s₁.setTop (mkF m 0 #[.val (.ref o0), .val (.int p1), .val (.int p2)] [])) t := by
      intro t kt
      refine K1 _ ?_
      show Steps p.tables e below (s₁.setTop (mkF m 2 #[.val (.ref o0), .val (.int p1), .val (.int p2)] [(.int p2), (.int p1)])) _
      refine XS.icmpNo X0.here hx rfl (hb hby d4_2) rfl (feq hc2).1 ?_
      show Steps p.tables e below (s₁.setTop (mkF m 5 #[.val (.ref o0), .val (.int p1), .val (.int p2)] [])) _
      refine XS.aloadN X0.here hx rfl (hb hby d4_5) rfl rfl ?_
      show Steps p.tables e below (s₁.setTop (mkF m 6 #[.val (.ref o0), .val (.int p1), .val (.int p2)] [(.ref o0)])) _
      refine XS.iloadN X0.here hx rfl (hb hby d4_6) rfl ?_
      show Steps p.tables e below (s₁.setTop (mkF m 7 #[.val (.ref o0), .val (.int p1), .val (.int p2)] [(.int p1), (.ref o0)])) _
      refine iaLB X0 hx hZ e0 A1 (j := p1) i hi (hn hc2) (g := (mkF m 7 #[.val (.ref o0), .val (.int p1), .val (.int p2)] [(.int p1), (.ref o0)])) rfl rfl (hb hby d4_7) _ ?_
      show Steps p.tables e below (s₁.setTop (mkF m 8 #[.val (.ref o0), .val (.int p1), .val (.int p2)] [(.int (f i))])) _
      refine XS.sipush X0.here hx rfl (hb hby d4_8) ?_
      show Steps p.tables e below (s₁.setTop (mkF m 11 #[.val (.ref o0), .val (.int p1), .val (.int p2)] [(.int (192 : Int32)), (.int (f i))])) _
      refine XS.iand X0.here hx rfl (hb hby d4_11) rfl ?_
      show Steps p.tables e below (s₁.setTop (mkF m 12 #[.val (.ref o0), .val (.int p1), .val (.int p2)] [(.int ((f i) &&& (192 : Int32)))])) _
      refine XS.sipush X0.here hx rfl (hb hby d4_12) ?_
      exact kt
    by_cases hc5 : ((f i) &&& (192 : Int32)) = (128 : Int32)
    · skip
      have K6 : ∀ t, Steps p.tables e below (s₁.setTop (mkF m 23 #[.val (.ref o0), .val (.int p1), .val (.int p2)] [(.int (0 : Int32))])) t → Steps p.tables e below (s₁.setTop (mkF m 0 #[.val (.ref o0), .val (.int p1), .val (.int p2)] [])) t := by
        intro t kt
        refine K4 _ ?_
        show Steps p.tables e below (s₁.setTop (mkF m 15 #[.val (.ref o0), .val (.int p1), .val (.int p2)] [(.int (128 : Int32)), (.int ((f i) &&& (192 : Int32)))])) _
        refine XS.icmpYes X0.here hx rfl (pc0 := 15) (pc' := 22) rfl (hb hby d4_15) rfl (teq hc5).1 (by decide) (by decide) ?_
        show Steps p.tables e below (s₁.setTop (mkF m 22 #[.val (.ref o0), .val (.int p1), .val (.int p2)] [])) _
        refine XS.iconst X0.here hx rfl (hb hby d4_22) ?_
        exact kt
      have hv : f4 p1 p2 f i = (0 : Int32) := by simp only [f4, if_neg hc2, if_pos hc5]
      obtain ⟨fs, hr, hrun, hended, hW, hsame⟩ := X0.leave (v := some (.int (0 : Int32))) (fun h => by rw [Bd.returns] at h; cases h)
      refine ⟨_, _, pre0 _ (K6 _ ?_), hrun, hended, _, _, rfl, ?_, ⟨_, rfl⟩, hW, hsame.mono (by decide) (by decide)⟩
      · show Steps p.tables e below (s₁.setTop (mkF m 23 #[.val (.ref o0), .val (.int p1), .val (.int p2)] [(.int (0 : Int32))])) _
        exact retN X0 hx (t := .boolean) Bd.returns (by simp) (hb hby d4_23) hr
      · show Q4 Z o0 p1 p2 f i h0 _ s₁.heap _
        rw [e0]
        exact ⟨by rw [hv], rfl, rfl⟩
    · skip
      have K7 : ∀ t, Steps p.tables e below (s₁.setTop (mkF m 23 #[.val (.ref o0), .val (.int p1), .val (.int p2)] [(.int (1 : Int32))])) t → Steps p.tables e below (s₁.setTop (mkF m 0 #[.val (.ref o0), .val (.int p1), .val (.int p2)] [])) t := by
        intro t kt
        refine K4 _ ?_
        show Steps p.tables e below (s₁.setTop (mkF m 15 #[.val (.ref o0), .val (.int p1), .val (.int p2)] [(.int (128 : Int32)), (.int ((f i) &&& (192 : Int32)))])) _
        refine XS.icmpNo X0.here hx rfl (hb hby d4_15) rfl (feq hc5).1 ?_
        show Steps p.tables e below (s₁.setTop (mkF m 18 #[.val (.ref o0), .val (.int p1), .val (.int p2)] [])) _
        refine XS.iconst X0.here hx rfl (hb hby d4_18) ?_
        show Steps p.tables e below (s₁.setTop (mkF m 19 #[.val (.ref o0), .val (.int p1), .val (.int p2)] [(.int (1 : Int32))])) _
        refine XS.goto X0.here hx rfl (pc0 := 19) (pc' := 23) rfl (hb hby d4_19) (by decide) (by decide) ?_
        exact kt
      have hv : f4 p1 p2 f i = (1 : Int32) := by simp only [f4, if_neg hc2, if_neg hc5]
      obtain ⟨fs, hr, hrun, hended, hW, hsame⟩ := X0.leave (v := some (.int (1 : Int32))) (fun h => by rw [Bd.returns] at h; cases h)
      refine ⟨_, _, pre0 _ (K7 _ ?_), hrun, hended, _, _, rfl, ?_, ⟨_, rfl⟩, hW, hsame.mono (by decide) (by decide)⟩
      · show Steps p.tables e below (s₁.setTop (mkF m 23 #[.val (.ref o0), .val (.int p1), .val (.int p2)] [(.int (1 : Int32))])) _
        exact retN X0 hx (t := .boolean) Bd.returns (by simp) (hb hby d4_23) hr
      · show Q4 Z o0 p1 p2 f i h0 _ s₁.heap _
        rw [e0]
        exact ⟨by rw [hv], rfl, rfl⟩
theorem ef_0 (m : MethodId) (x0 : Int32) (x1 : Int32) (x2 : Int32) (x3 : Int32) (x4 : Int32) : entryFrame m #[(.int x0), (.int x1), (.int x2), (.int x3), (.int x4)] maxLocals = mkF m 0 #[.val (.int x0), .val (.int x1), .val (.int x2), .val (.int x3), .val (.int x4), .unset, .unset, .unset, .unset, .unset, .unset, .unset, .unset, .unset, .unset, .unset] [] := by first | (simp [entryFrame, mkF, argsToLocals, Value.category, maxLocals]; done) | rfl
def gst (p0 : Int32) (p1 : Int32) : Int32 := (((8 : Int32) - (f2 (f1 p0))) - (f2 (f1 p1)))
def gpad (p2 : Int32) : Int32 := ((p2 &&& (127 : Int32)).toInt8.toInt32)
theorem pd_1 : parseMethodDescriptor "([BII)V" = some ⟨[(.array .byte), .int, .int], none⟩ := by decide +kernel
def gmid (p0 : Int32) (p1 : Int32) : Int32 := ((gst p0 p1) + (f2 (f1 p0)))
def gfr (p3 : Int32) : Int32 := ((p3 &&& (2147483647 : Int32)) % (9 : Int32))
def gto (p0 : Int32) (p1 : Int32) (p3 : Int32) (p4 : Int32) : Int32 := if (p4 &&& (1 : Int32)) = (0 : Int32) then (8 : Int32) else if (gmid p0 p1) < (gfr p3) then (8 : Int32) else (gmid p0 p1)
def gex (p0 : Int32) (p1 : Int32) (p3 : Int32) : Int32 := if (gst p0 p1) < (gfr p3) then (if (gfr p3) = (gmid p0 p1) then (1 : Int32) else if (gfr p3) = (8 : Int32) then (1 : Int32) else (0 : Int32)) else (1 : Int32)
theorem pd_2 : parseMethodDescriptor "([BII)Z" = some ⟨[(.array .byte), .int, .int], some .boolean⟩ := by decide +kernel
theorem own_gs0 (x : Int32) : 0 ≤ (gs x).toInt := by
  have h1 : (x &&& (2097151 : Int32)).toInt = x.toInt % (2 ^ 21 : Nat) := c_mask x _ 21 (by decide) (by decide)
  have h2 := (c_irem (x &&& (2097151 : Int32)) 1114112 1114112 rfl).1 (by omega)
  unfold gs
  rw [h2]
  omega
theorem own_f1 (x : Int32) : 0 ≤ (f1 x).toInt := by
  have h3 := own_gs0 x
  unfold f1
  generalize gs x = y at *
  split
  · omega
  · split
    · omega
    · rename_i h4 h5
      have h6 := c_iadd y (-2048)
      have h7 := rng32 (y + (-2048 : Int32))
      rw [Int32.lt_iff_toInt_lt] at h4 h5
      have h8 : (55296 : Int32).toInt = 55296 := rfl
      have h10 : (57343 : Int32).toInt = 57343 := rfl
      have h9 : (-2048 : Int32).toInt = -2048 := rfl
      omega
theorem own_l4 (c : Int32) : 1 ≤ (f2 c).toInt ∧ (f2 c).toInt ≤ 4 := by
  rcases own_lens c with e | e | e | e <;> rw [e] <;> decide
theorem own_st (x y : Int32) : (gst x y).toInt = 8 - (f2 (f1 x)).toInt - (f2 (f1 y)).toInt := by
  have h1 := own_l4 (f1 x)
  have h2 := own_l4 (f1 y)
  have h3 := c_isub (8 : Int32) (f2 (f1 x))
  have h4 := rng32 ((8 : Int32) - f2 (f1 x))
  have h5 := c_isub ((8 : Int32) - f2 (f1 x)) (f2 (f1 y))
  have h6 := rng32 (((8 : Int32) - f2 (f1 x)) - f2 (f1 y))
  have h7 : (8 : Int32).toInt = 8 := rfl
  unfold gst
  omega
theorem own_md (x y : Int32) : (gst x y + f2 (f1 x)).toInt = 8 - (f2 (f1 y)).toInt := by
  have h1 := own_l4 (f1 x)
  have h2 := own_l4 (f1 y)
  have h3 := own_st x y
  have h4 := c_iadd (gst x y) (f2 (f1 x))
  have h5 := rng32 (gst x y + f2 (f1 x))
  omega
theorem own_hi1 (x y : Int32) : (gst x y).toInt = ((gst x y).toInt.toNat : Int) := by
  have h1 := own_l4 (f1 x); have h2 := own_l4 (f1 y); have h3 := own_st x y; omega
theorem own_le1 (x y : Int32) : (gst x y).toInt.toNat + (f2 (f1 x)).toInt.toNat ≤ 8 := by
  have h1 := own_l4 (f1 x); have h2 := own_l4 (f1 y); have h3 := own_st x y; omega
theorem own_hi2 (x y : Int32) : (gst x y + f2 (f1 x)).toInt = ((gst x y + f2 (f1 x)).toInt.toNat : Int) := by
  have h2 := own_l4 (f1 y); have h3 := own_md x y; omega
theorem own_le2 (x y : Int32) : (gst x y + f2 (f1 x)).toInt.toNat + (f2 (f1 y)).toInt.toNat ≤ 8 := by
  have h2 := own_l4 (f1 y); have h3 := own_md x y; omega
theorem own_fr (p : Int32) : 0 ≤ (gfr p).toInt ∧ (gfr p).toInt ≤ 8 := by
  have h1 : (p &&& (2147483647 : Int32)).toInt = p.toInt % (2 ^ 31 : Nat) := c_mask p _ 31 (by decide) (by decide)
  have h2 : (gfr p).toInt = (p &&& (2147483647 : Int32)).toInt % 9 := (c_irem (p &&& (2147483647 : Int32)) 9 9 rfl).1 (by omega)
  omega
theorem own_hi3 (p : Int32) : (gfr p).toInt = ((gfr p).toInt.toNat : Int) := by have := own_fr p; omega
theorem own_hn3 (x y p q : Int32) (h : ¬ gfr p = gto x y p q) : (gfr p).toInt.toNat < 8 := by
  have h1 := own_fr p
  have h2 := own_l4 (f1 y)
  have h3 : (gmid x y).toInt = _ := own_md x y
  have h8 : (8 : Int32).toInt = 8 := rfl
  unfold gto at h
  have k : (gfr p).toInt ≠ 8 := by
    intro e
    split at h
    · exact h (Int32.toInt_inj.mp (by rw [e, h8]))
    · split at h
      · exact h (Int32.toInt_inj.mp (by rw [e, h8]))
      · rename_i h4
        rw [Int32.lt_iff_toInt_lt] at h4
        omega
  omega
theorem own_padv (a : Int32) : (nar .byte (gpad a)) &&& (192 : Int32) ≠ 128 := by
  have h1 : (a &&& (127 : Int32)).toInt = a.toInt % (2 ^ 7 : Nat) := c_mask a _ 7 (by decide) (by decide)
  exact own_np _ (own_ab _ (by omega) (by omega))
theorem own_law (x y a p q : Int32) : f4 (gfr p) (gto x y p q) (putF (putF (fun _ => nar .byte (gpad a)) ((gst x y).toInt.toNat) (f1 x)) ((gst x y + f2 (f1 x)).toInt.toNat) (f1 y)) ((gfr p).toInt.toNat) = gex x y p := by
  have h1 := own_fr p
  have l1 := own_l4 (f1 x)
  have l2 := own_l4 (f1 y)
  have hs := own_st x y
  have hm := own_md x y
  have hm' : (gmid x y).toInt = _ := own_md x y
  have h8 : (8 : Int32).toInt = 8 := rfl
  have c1 := own_f1 x
  have c2 := own_f1 y
  have hpad := own_padv a
  generalize hF : (putF (putF (fun _ => nar .byte (gpad a)) ((gst x y).toInt.toNat) (f1 x)) ((gst x y + f2 (f1 x)).toInt.toNat) (f1 y)) = F
  have key : (gfr p).toInt < 8 → ((F (gfr p).toInt.toNat &&& (192 : Int32) = 128) ↔ ¬ ((gfr p).toInt ≤ (gst x y).toInt ∨ (gfr p).toInt = (gmid x y).toInt)) := by
    intro hlt
    subst hF
    rcases Int.lt_trichotomy (gfr p).toInt (gmid x y).toInt with q1 | q1 | q1
    · rw [own_out _ _ _ _ (Or.inl (by omega))]
      rcases Int.lt_trichotomy (gfr p).toInt (gst x y).toInt with q2 | q2 | q2
      · rw [own_out _ _ _ _ (Or.inl (by omega))]
        exact ⟨fun z => absurd z hpad, fun z => absurd (Or.inl (by omega)) z⟩
      · rw [q2]
        exact ⟨fun z => absurd z (own_lead _ _ _ c1), fun z => absurd (Or.inl (by omega)) z⟩
      · have := own_cont (fun _ => nar .byte (gpad a)) ((gst x y).toInt.toNat) (f1 x) (gfr p).toInt.toNat (by omega) (by omega)
        exact ⟨fun _ => by omega, fun _ => this⟩
    · rw [show (gfr p).toInt.toNat = (gst x y + f2 (f1 x)).toInt.toNat by omega]
      exact ⟨fun z => absurd z (own_lead _ _ _ c2), fun z => absurd (Or.inr q1) z⟩
    · have := own_cont (putF (fun _ => nar .byte (gpad a)) ((gst x y).toInt.toNat) (f1 x)) ((gst x y + f2 (f1 x)).toInt.toNat) (f1 y) (gfr p).toInt.toNat (by omega) (by omega)
      exact ⟨fun _ => by omega, fun _ => this⟩
  have e1 : gfr p = gmid x y ↔ (gfr p).toInt = (gmid x y).toInt := Int32.toInt_inj.symm
  have e2 : gfr p = 8 ↔ (gfr p).toInt = 8 := by rw [← h8]; exact Int32.toInt_inj.symm
  have e3 : gst x y < gfr p ↔ (gst x y).toInt < (gfr p).toInt := Int32.lt_iff_toInt_lt
  have e4 : gmid x y < gfr p ↔ (gmid x y).toInt < (gfr p).toInt := Int32.lt_iff_toInt_lt
  have hne : gmid x y = 8 → False := fun z => by
    have := congrArg Int32.toInt z
    omega
  unfold f4 gex
  by_cases t1 : gfr p = gto x y p q
  · rw [if_pos t1]
    have : (gfr p).toInt = (gmid x y).toInt ∨ (gfr p).toInt = 8 := by
      unfold gto at t1
      split at t1
      · exact Or.inr (e2.mp t1)
      · split at t1
        · exact Or.inr (e2.mp t1)
        · exact Or.inl (e1.mp t1)
    by_cases u1 : gst x y < gfr p
    · rw [if_pos u1]
      by_cases u2 : gfr p = gmid x y
      · rw [if_pos u2]
      · rw [if_neg u2]
        have : gfr p = 8 := e2.mpr (this.resolve_left fun z => u2 (e1.mpr z))
        rw [if_pos this]
    · rw [if_neg u1]
  · rw [if_neg t1]
    have hlt : (gfr p).toInt < 8 := by have := own_hn3 x y p q t1; omega
    have k := key hlt
    have n8 : ¬ gfr p = 8 := fun z => by have := e2.mp z; omega
    by_cases u1 : gst x y < gfr p
    · rw [if_pos u1]
      by_cases u2 : gfr p = gmid x y
      · rw [if_pos u2, if_neg (fun z => absurd (k.mp z) (fun y => y (Or.inr (e1.mp u2))))]
      · rw [if_neg u2, if_neg n8, if_pos (k.mpr (fun z => by rcases z with z | z <;> first | exact u2 (e1.mpr z) | (have := e3.mp u1; omega)))]
    · rw [if_neg u1, if_neg (fun z => absurd (k.mp z) (fun y => y (Or.inl (by have := mt e3.mpr u1; omega))))]
def Q0 (Z : State) (p0 : Int32) (p1 : Int32) (p2 : Int32) (p3 : Int32) (p4 : Int32)  (h0 : Heap) (n0 : Nat) (v : Option Value) (h : Heap) (L : List Loc) : Prop := v = some (.int 1) ∧ Fr n0 L
set_option maxRecDepth 65536 in
set_option maxHeartbeats 40000000 in
theorem rm0 (l : Launch) (Z : State) (a0 : Array Value) (hw : ∀ d ∈ tables_1, d.before a0 Z = true) (ws : List Jvm.Cond) (p0 : Int32) (p1 : Int32) (p2 : Int32) (p3 : Int32) (p4 : Int32)  (h0 : Heap) (n0 : Nat) (Z0 : n0 ≤ h0.size)  :
    MetFree l x (head1 (Jvm.Cond.code x code maxLocals ret :: ws) room_1) (fun a U => a = #[(.int p0), (.int p1), (.int p2), (.int p3), (.int p4)] ∧ Z.Warmed39 U.vm ∧ U.heap = h0) (fun _ _ _ _ _ => True) (fun _ U o U' => ∃ v L, o = .returned v ∧ Q0 Z p0 p1 p2 p3 p4  h0 n0 v U'.heap L ∧ FrameEnd U o U' L room_1.cells room_1.slots) := by
  refine MetFree.of_bodySF (plainFor_of_name pn_0) hisR ?_
  intro p e s m args below meth c s₁ Bd hml0 hP hK
  obtain ⟨rfl, hZ, hh⟩ := hP
  have hx := Bd.exec
  have hby := Bd.bytes
  have hml : c.maxLocals = 16 := hml0
  have hown : s.vm.findClass "com/example/seriestrace/seriestrace/marc/Utf8IsUtf8InsidePinLaw" = some m.cls := findClass_of_methodNamed Bd.named
  have hnm := (name_of_methodNamed Bd.named Bd.method).1
  have X0 : Stand p l e room_1 s m #[(.int p0), (.int p1), (.int p2), (.int p3), (.int p4)] below meth c s₁ [] 0 0 := Stand.of_body Bd
  have e0 : s₁.heap = h0 := by rw [← hh, Bd.state]; rfl
  have pre0 : ∀ t, Steps p.tables e below (s₁.setTop (mkF m 0 #[.val (.int p0), .val (.int p1), .val (.int p2), .val (.int p3), .val (.int p4), .unset, .unset, .unset, .unset, .unset, .unset, .unset, .unset, .unset, .unset, .unset] [])) t → Steps p.tables e below (s₁.setTop (entryFrame m #[(.int p0), (.int p1), (.int p2), (.int p3), (.int p4)] maxLocals)) t := fun t k => castTop (ef_0 m p0 p1 p2 p3 p4) k
  have N0 := Fr.nil n0
  obtain ⟨_, _, ⟨T1, L1, k1, n1⟩, -, X1, ⟨Lc1, hQ1, l1, y1, z1⟩, st1⟩ := Jvm.LawKit.callS X0 hx (y := (⟨"com/example/seriestrace/seriestrace/marc/Utf8IsUtf8InsidePinLaw", "scalar", "(I)I"⟩ : MethodName)) hown (mvT hZ (hw _ (List.mem_of_getElem? (i := 0) rfl))) (mvT hZ (hw _ (List.mem_of_getElem? (i := 1) rfl))) (mvT hZ (hw _ (List.mem_of_getElem? (i := 2) rfl))) (mvT hZ (hw _ (List.mem_of_getElem? (i := 3) rfl))) (by decide) (backOf (W := 0) (rm1 l Z a0 hw [] p0  h0 ) hZ (hw _ (List.mem_of_getElem? (i := 3) rfl)) (hw _ (List.mem_of_getElem? (i := 2) rfl)) (by decide) (by decide)) (g := (mkF m 1 #[.val (.int p0), .val (.int p1), .val (.int p2), .val (.int p3), .val (.int p4), .unset, .unset, .unset, .unset, .unset, .unset, .unset, .unset, .unset, .unset, .unset] [(.int p0)])) rfl (by rw [hml]; rfl) (argsL := [(.int p0)]) (rest := []) (lenOf pd_0 rfl) rfl (by show 2 * 0 + _ ≤ _; exact Nat.le_of_eq rfl) (hb hby at_1) (fun _ _ => ⟨rfl, e0, (by decide : 0 + 0 ≤ _), (by decide : 0 + 0 ≤ _)⟩)
  dsimp only [Pt.U, Pt.locs, Pt.cells, Pt.slots] at X1 l1 y1 z1 st1 hQ1
  subst l1 y1 z1
  obtain ⟨rfl, rfl, e1⟩ := hQ1
  try rw [List.append_nil] at X1
  obtain ⟨_, _, ⟨T2, L2, k2, n2⟩, -, X2, ⟨Lc2, hQ2, l2, y2, z2⟩, st2⟩ := Jvm.LawKit.callS X1 hx (y := (⟨"com/example/seriestrace/seriestrace/marc/Utf8IsUtf8InsidePinLaw", "scalar", "(I)I"⟩ : MethodName)) hown (mvT hZ (hw _ (List.mem_of_getElem? (i := 0) rfl))) (mvT hZ (hw _ (List.mem_of_getElem? (i := 1) rfl))) (mvT hZ (hw _ (List.mem_of_getElem? (i := 2) rfl))) (mvT hZ (hw _ (List.mem_of_getElem? (i := 3) rfl))) (by decide) (backOf (W := 0) (rm1 l Z a0 hw [] p1  h0 ) hZ (hw _ (List.mem_of_getElem? (i := 3) rfl)) (hw _ (List.mem_of_getElem? (i := 2) rfl)) (by decide) (by decide)) (g := (mkF m 7 #[.val (.int p0), .val (.int p1), .val (.int p2), .val (.int p3), .val (.int p4), .val (.int (f1 p0)), .unset, .unset, .unset, .unset, .unset, .unset, .unset, .unset, .unset, .unset] [(.int p1)])) rfl (by rw [hml]; rfl) (argsL := [(.int p1)]) (rest := []) (lenOf pd_0 rfl) rfl (by show 2 * 0 + _ ≤ _; exact Nat.le_of_eq rfl) (hb hby at_7) (fun _ _ => ⟨rfl, e1, (by decide : 0 + 0 ≤ _), (by decide : 0 + 0 ≤ _)⟩)
  dsimp only [Pt.U, Pt.locs, Pt.cells, Pt.slots] at X2 l2 y2 z2 st2 hQ2
  subst l2 y2 z2
  obtain ⟨rfl, rfl, e2⟩ := hQ2
  try rw [List.append_nil] at X2
  obtain ⟨_, _, ⟨T3, L3, k3, n3⟩, -, X3, ⟨Lc3, hQ3, l3, y3, z3⟩, st3⟩ := Jvm.LawKit.callS X2 hx (y := (⟨"com/example/seriestrace/seriestrace/marc/Utf8IsUtf8InsidePinLaw", "len", "(I)I"⟩ : MethodName)) hown (mvT hZ (hw _ (List.mem_of_getElem? (i := 7) rfl))) (mvT hZ (hw _ (List.mem_of_getElem? (i := 8) rfl))) (mvT hZ (hw _ (List.mem_of_getElem? (i := 2) rfl))) (mvT hZ (hw _ (List.mem_of_getElem? (i := 9) rfl))) (by decide) (backOf (W := 0) (rm2 l Z a0 hw [] (f1 p0)  h0 ) hZ (hw _ (List.mem_of_getElem? (i := 9) rfl)) (hw _ (List.mem_of_getElem? (i := 2) rfl)) (by decide) (by decide)) (g := (mkF m 14 #[.val (.int p0), .val (.int p1), .val (.int p2), .val (.int p3), .val (.int p4), .val (.int (f1 p0)), .val (.int (f1 p1)), .unset, .unset, .unset, .unset, .unset, .unset, .unset, .unset, .unset] [(.int (f1 p0))])) rfl (by rw [hml]; rfl) (argsL := [(.int (f1 p0))]) (rest := []) (lenOf pd_0 rfl) rfl (by show 2 * 0 + _ ≤ _; exact Nat.le_of_eq rfl) (hb hby at_14) (fun _ _ => ⟨rfl, e2, (by decide : 0 + 0 ≤ _), (by decide : 0 + 0 ≤ _)⟩)
  dsimp only [Pt.U, Pt.locs, Pt.cells, Pt.slots] at X3 l3 y3 z3 st3 hQ3
  subst l3 y3 z3
  obtain ⟨rfl, rfl, e3⟩ := hQ3
  try rw [List.append_nil] at X3
  obtain ⟨_, _, ⟨T4, L4, k4, n4⟩, -, X4, ⟨Lc4, hQ4, l4, y4, z4⟩, st4⟩ := Jvm.LawKit.callS X3 hx (y := (⟨"com/example/seriestrace/seriestrace/marc/Utf8IsUtf8InsidePinLaw", "len", "(I)I"⟩ : MethodName)) hown (mvT hZ (hw _ (List.mem_of_getElem? (i := 7) rfl))) (mvT hZ (hw _ (List.mem_of_getElem? (i := 8) rfl))) (mvT hZ (hw _ (List.mem_of_getElem? (i := 2) rfl))) (mvT hZ (hw _ (List.mem_of_getElem? (i := 9) rfl))) (by decide) (backOf (W := 0) (rm2 l Z a0 hw [] (f1 p1)  h0 ) hZ (hw _ (List.mem_of_getElem? (i := 9) rfl)) (hw _ (List.mem_of_getElem? (i := 2) rfl)) (by decide) (by decide)) (g := (mkF m 21 #[.val (.int p0), .val (.int p1), .val (.int p2), .val (.int p3), .val (.int p4), .val (.int (f1 p0)), .val (.int (f1 p1)), .val (.int (f2 (f1 p0))), .unset, .unset, .unset, .unset, .unset, .unset, .unset, .unset] [(.int (f1 p1))])) rfl (by rw [hml]; rfl) (argsL := [(.int (f1 p1))]) (rest := []) (lenOf pd_0 rfl) rfl (by show 2 * 0 + _ ≤ _; exact Nat.le_of_eq rfl) (hb hby at_21) (fun _ _ => ⟨rfl, e3, (by decide : 0 + 0 ≤ _), (by decide : 0 + 0 ≤ _)⟩)
  dsimp only [Pt.U, Pt.locs, Pt.cells, Pt.slots] at X4 l4 y4 z4 st4 hQ4
  subst l4 y4 z4
  obtain ⟨rfl, rfl, e4⟩ := hQ4
  try rw [List.append_nil] at X4
  obtain ⟨T5, h5, X5, e5, E5, A5, st5⟩ := iaNew X4 hx hZ (hw _ (List.mem_of_getElem? (i := 10) rfl)) e4 (g := (mkF m 45 #[.val (.int p0), .val (.int p1), .val (.int p2), .val (.int p3), .val (.int p4), .val (.int (f1 p0)), .val (.int (f1 p1)), .val (.int (f2 (f1 p0))), .val (.int (f2 (f1 p1))), .val (.int (gst p0 p1)), .val (.int (gpad p2)), .unset, .unset, .unset, .unset, .unset] [(.int (8 : Int32))])) rfl (hb hby at_45) rfl 8 (by decide) 8 (Nat.le_refl _) (by decide) (by decide) (by decide) rfl (by decide)
  obtain ⟨b5, g5⟩ : ∃ z, z = h0.size := ⟨_, rfl⟩
  rw [← g5] at A5 st5
  have gn5 : n0 ≤ b5 := Nat.le_trans Z0 (Nat.le_of_eq g5.symm)
  have Z5 : n0 ≤ h5.size := Nat.le_trans Z0 E5.1
  have G6 : Ia Z h5 b5 .byte 8 (fun _ => (0 : Int32)) := A5
  obtain ⟨T7, h7, X7, e7, W7, A7, st7⟩ := iaB X5 hx hZ e5 G6 (j := (0 : Int32)) 0 (by decide) (by decide) (g := (mkF m 54 #[.val (.int p0), .val (.int p1), .val (.int p2), .val (.int p3), .val (.int p4), .val (.int (f1 p0)), .val (.int (f1 p1)), .val (.int (f2 (f1 p0))), .val (.int (f2 (f1 p1))), .val (.int (gst p0 p1)), .val (.int (gpad p2)), .val (.ref b5), .unset, .unset, .unset, .unset] [(.int (gpad p2)), (.int (0 : Int32)), (.ref b5)])) rfl rfl (hb hby at_54)
  have G8 : Ia Z h7 b5 .byte 8 (up (fun _ => (0 : Int32)) 0 (nar .byte (gpad p2))) := A7
  have Z7 : n0 ≤ h7.size := Nat.le_trans Z5 (Keep.of_wr W7).1
  have N7 := Fr.snoc X7 N0 gn5
  obtain ⟨T9, h9, X9, e9, W9, A9, st9⟩ := iaB X7 hx hZ e7 G8 (j := (1 : Int32)) 1 (by decide) (by decide) (g := (mkF m 60 #[.val (.int p0), .val (.int p1), .val (.int p2), .val (.int p3), .val (.int p4), .val (.int (f1 p0)), .val (.int (f1 p1)), .val (.int (f2 (f1 p0))), .val (.int (f2 (f1 p1))), .val (.int (gst p0 p1)), .val (.int (gpad p2)), .val (.ref b5), .unset, .unset, .unset, .unset] [(.int (gpad p2)), (.int (1 : Int32)), (.ref b5)])) rfl rfl (hb hby at_60)
  have G10 : Ia Z h9 b5 .byte 8 (up (up (fun _ => (0 : Int32)) 0 (nar .byte (gpad p2))) 1 (nar .byte (gpad p2))) := A9
  have Z9 : n0 ≤ h9.size := Nat.le_trans Z7 (Keep.of_wr W9).1
  have N9 := Fr.snoc X9 N7 gn5
  obtain ⟨T11, h11, X11, e11, W11, A11, st11⟩ := iaB X9 hx hZ e9 G10 (j := (2 : Int32)) 2 (by decide) (by decide) (g := (mkF m 66 #[.val (.int p0), .val (.int p1), .val (.int p2), .val (.int p3), .val (.int p4), .val (.int (f1 p0)), .val (.int (f1 p1)), .val (.int (f2 (f1 p0))), .val (.int (f2 (f1 p1))), .val (.int (gst p0 p1)), .val (.int (gpad p2)), .val (.ref b5), .unset, .unset, .unset, .unset] [(.int (gpad p2)), (.int (2 : Int32)), (.ref b5)])) rfl rfl (hb hby at_66)
  have G12 : Ia Z h11 b5 .byte 8 (up (up (up (fun _ => (0 : Int32)) 0 (nar .byte (gpad p2))) 1 (nar .byte (gpad p2))) 2 (nar .byte (gpad p2))) := A11
  have Z11 : n0 ≤ h11.size := Nat.le_trans Z9 (Keep.of_wr W11).1
  have N11 := Fr.snoc X11 N9 gn5
  obtain ⟨T13, h13, X13, e13, W13, A13, st13⟩ := iaB X11 hx hZ e11 G12 (j := (3 : Int32)) 3 (by decide) (by decide) (g := (mkF m 72 #[.val (.int p0), .val (.int p1), .val (.int p2), .val (.int p3), .val (.int p4), .val (.int (f1 p0)), .val (.int (f1 p1)), .val (.int (f2 (f1 p0))), .val (.int (f2 (f1 p1))), .val (.int (gst p0 p1)), .val (.int (gpad p2)), .val (.ref b5), .unset, .unset, .unset, .unset] [(.int (gpad p2)), (.int (3 : Int32)), (.ref b5)])) rfl rfl (hb hby at_72)
  have G14 : Ia Z h13 b5 .byte 8 (up (up (up (up (fun _ => (0 : Int32)) 0 (nar .byte (gpad p2))) 1 (nar .byte (gpad p2))) 2 (nar .byte (gpad p2))) 3 (nar .byte (gpad p2))) := A13
  have Z13 : n0 ≤ h13.size := Nat.le_trans Z11 (Keep.of_wr W13).1
  have N13 := Fr.snoc X13 N11 gn5
  obtain ⟨T15, h15, X15, e15, W15, A15, st15⟩ := iaB X13 hx hZ e13 G14 (j := (4 : Int32)) 4 (by decide) (by decide) (g := (mkF m 78 #[.val (.int p0), .val (.int p1), .val (.int p2), .val (.int p3), .val (.int p4), .val (.int (f1 p0)), .val (.int (f1 p1)), .val (.int (f2 (f1 p0))), .val (.int (f2 (f1 p1))), .val (.int (gst p0 p1)), .val (.int (gpad p2)), .val (.ref b5), .unset, .unset, .unset, .unset] [(.int (gpad p2)), (.int (4 : Int32)), (.ref b5)])) rfl rfl (hb hby at_78)
  have G16 : Ia Z h15 b5 .byte 8 (up (up (up (up (up (fun _ => (0 : Int32)) 0 (nar .byte (gpad p2))) 1 (nar .byte (gpad p2))) 2 (nar .byte (gpad p2))) 3 (nar .byte (gpad p2))) 4 (nar .byte (gpad p2))) := A15
  have Z15 : n0 ≤ h15.size := Nat.le_trans Z13 (Keep.of_wr W15).1
  have N15 := Fr.snoc X15 N13 gn5
  obtain ⟨T17, h17, X17, e17, W17, A17, st17⟩ := iaB X15 hx hZ e15 G16 (j := (5 : Int32)) 5 (by decide) (by decide) (g := (mkF m 84 #[.val (.int p0), .val (.int p1), .val (.int p2), .val (.int p3), .val (.int p4), .val (.int (f1 p0)), .val (.int (f1 p1)), .val (.int (f2 (f1 p0))), .val (.int (f2 (f1 p1))), .val (.int (gst p0 p1)), .val (.int (gpad p2)), .val (.ref b5), .unset, .unset, .unset, .unset] [(.int (gpad p2)), (.int (5 : Int32)), (.ref b5)])) rfl rfl (hb hby at_84)
  have G18 : Ia Z h17 b5 .byte 8 (up (up (up (up (up (up (fun _ => (0 : Int32)) 0 (nar .byte (gpad p2))) 1 (nar .byte (gpad p2))) 2 (nar .byte (gpad p2))) 3 (nar .byte (gpad p2))) 4 (nar .byte (gpad p2))) 5 (nar .byte (gpad p2))) := A17
  have Z17 : n0 ≤ h17.size := Nat.le_trans Z15 (Keep.of_wr W17).1
  have N17 := Fr.snoc X17 N15 gn5
  obtain ⟨T19, h19, X19, e19, W19, A19, st19⟩ := iaB X17 hx hZ e17 G18 (j := (6 : Int32)) 6 (by decide) (by decide) (g := (mkF m 91 #[.val (.int p0), .val (.int p1), .val (.int p2), .val (.int p3), .val (.int p4), .val (.int (f1 p0)), .val (.int (f1 p1)), .val (.int (f2 (f1 p0))), .val (.int (f2 (f1 p1))), .val (.int (gst p0 p1)), .val (.int (gpad p2)), .val (.ref b5), .unset, .unset, .unset, .unset] [(.int (gpad p2)), (.int (6 : Int32)), (.ref b5)])) rfl rfl (hb hby at_91)
  have G20 : Ia Z h19 b5 .byte 8 (up (up (up (up (up (up (up (fun _ => (0 : Int32)) 0 (nar .byte (gpad p2))) 1 (nar .byte (gpad p2))) 2 (nar .byte (gpad p2))) 3 (nar .byte (gpad p2))) 4 (nar .byte (gpad p2))) 5 (nar .byte (gpad p2))) 6 (nar .byte (gpad p2))) := A19
  have Z19 : n0 ≤ h19.size := Nat.le_trans Z17 (Keep.of_wr W19).1
  have N19 := Fr.snoc X19 N17 gn5
  obtain ⟨T21, h21, X21, e21, W21, A21, st21⟩ := iaB X19 hx hZ e19 G20 (j := (7 : Int32)) 7 (by decide) (by decide) (g := (mkF m 98 #[.val (.int p0), .val (.int p1), .val (.int p2), .val (.int p3), .val (.int p4), .val (.int (f1 p0)), .val (.int (f1 p1)), .val (.int (f2 (f1 p0))), .val (.int (f2 (f1 p1))), .val (.int (gst p0 p1)), .val (.int (gpad p2)), .val (.ref b5), .unset, .unset, .unset, .unset] [(.int (gpad p2)), (.int (7 : Int32)), (.ref b5)])) rfl rfl (hb hby at_98)
  have G22 : Ia Z h21 b5 .byte 8 (up (up (up (up (up (up (up (up (fun _ => (0 : Int32)) 0 (nar .byte (gpad p2))) 1 (nar .byte (gpad p2))) 2 (nar .byte (gpad p2))) 3 (nar .byte (gpad p2))) 4 (nar .byte (gpad p2))) 5 (nar .byte (gpad p2))) 6 (nar .byte (gpad p2))) 7 (nar .byte (gpad p2))) := A21
  have Z21 : n0 ≤ h21.size := Nat.le_trans Z19 (Keep.of_wr W21).1
  have N21 := Fr.snoc X21 N19 gn5
  have G23 : Ia Z h21 b5 .byte 8 (fun _ => nar .byte (gpad p2)) := G22.fun (by intro j hj; rcases (by omega : j = 0 ∨ j = 1 ∨ j = 2 ∨ j = 3 ∨ j = 4 ∨ j = 5 ∨ j = 6 ∨ j = 7) with rfl | rfl | rfl | rfl | rfl | rfl | rfl | rfl <;> rfl)
  obtain ⟨_, _, ⟨T24, L24, k24, n24⟩, -, X24, ⟨Lc24, hQ24, l24, y24, z24⟩, st24⟩ := Jvm.LawKit.callS X21 hx (y := (⟨"com/example/seriestrace/seriestrace/marc/Utf8IsUtf8InsidePinLaw", "put", "([BII)V"⟩ : MethodName)) hown (mvT hZ (hw _ (List.mem_of_getElem? (i := 11) rfl))) (mvT hZ (hw _ (List.mem_of_getElem? (i := 12) rfl))) (mvT hZ (hw _ (List.mem_of_getElem? (i := 2) rfl))) (mvT hZ (hw _ (List.mem_of_getElem? (i := 13) rfl))) (by decide) (backOf (W := 0) (rm3 l Z a0 hw [] b5 (gst p0 p1) (f1 p0) (fun _ => nar .byte (gpad p2)) ((gst p0 p1).toInt.toNat) h21 n0 Z21 G23 gn5 (own_hi1 p0 p1) (own_le1 p0 p1)) hZ (hw _ (List.mem_of_getElem? (i := 13) rfl)) (hw _ (List.mem_of_getElem? (i := 2) rfl)) (by decide) (by decide)) (g := (mkF m 105 #[.val (.int p0), .val (.int p1), .val (.int p2), .val (.int p3), .val (.int p4), .val (.int (f1 p0)), .val (.int (f1 p1)), .val (.int (f2 (f1 p0))), .val (.int (f2 (f1 p1))), .val (.int (gst p0 p1)), .val (.int (gpad p2)), .val (.ref b5), .unset, .unset, .unset, .unset] [(.int (f1 p0)), (.int (gst p0 p1)), (.ref b5)])) rfl (by rw [hml]; rfl) (argsL := [(.ref b5), (.int (gst p0 p1)), (.int (f1 p0))]) (rest := []) (lenOf pd_1 rfl) rfl (by show 2 * 0 + _ ≤ _; exact Nat.le_of_eq rfl) (hb hby at_105) (fun _ _ => ⟨rfl, e21, (by decide : 1 + 0 ≤ _), (by decide : 8 + 0 ≤ _)⟩)
  dsimp only [Pt.U, Pt.locs, Pt.cells, Pt.slots] at X24 l24 y24 z24 st24 hQ24
  subst l24 y24 z24
  obtain ⟨rfl, N24q, K24q, A24q⟩ := hQ24
  have N24 := Fr.app N21 N24q
  have Z24 : n0 ≤ T24.heap.size := Nat.le_trans Z21 K24q.1
  obtain ⟨_, _, ⟨T25, L25, k25, n25⟩, -, X25, ⟨Lc25, hQ25, l25, y25, z25⟩, st25⟩ := Jvm.LawKit.callS X24 hx (y := (⟨"com/example/seriestrace/seriestrace/marc/Utf8IsUtf8InsidePinLaw", "put", "([BII)V"⟩ : MethodName)) hown (mvT hZ (hw _ (List.mem_of_getElem? (i := 11) rfl))) (mvT hZ (hw _ (List.mem_of_getElem? (i := 12) rfl))) (mvT hZ (hw _ (List.mem_of_getElem? (i := 2) rfl))) (mvT hZ (hw _ (List.mem_of_getElem? (i := 13) rfl))) (by decide) (backOf (W := 0) (rm3 l Z a0 hw [] b5 ((gst p0 p1) + (f2 (f1 p0))) (f1 p1) (putF (fun _ => nar .byte (gpad p2)) ((gst p0 p1).toInt.toNat) (f1 p0)) (((gst p0 p1) + (f2 (f1 p0))).toInt.toNat) T24.heap n0 Z24 A24q gn5 (own_hi2 p0 p1) (own_le2 p0 p1)) hZ (hw _ (List.mem_of_getElem? (i := 13) rfl)) (hw _ (List.mem_of_getElem? (i := 2) rfl)) (by decide) (by decide)) (g := (mkF m 117 #[.val (.int p0), .val (.int p1), .val (.int p2), .val (.int p3), .val (.int p4), .val (.int (f1 p0)), .val (.int (f1 p1)), .val (.int (f2 (f1 p0))), .val (.int (f2 (f1 p1))), .val (.int (gst p0 p1)), .val (.int (gpad p2)), .val (.ref b5), .unset, .unset, .unset, .unset] [(.int (f1 p1)), (.int ((gst p0 p1) + (f2 (f1 p0)))), (.ref b5)])) rfl (by rw [hml]; rfl) (argsL := [(.ref b5), (.int ((gst p0 p1) + (f2 (f1 p0)))), (.int (f1 p1))]) (rest := []) (lenOf pd_1 rfl) rfl (by show 2 * 0 + _ ≤ _; exact Nat.le_of_eq rfl) (hb hby at_117) (fun _ _ => ⟨rfl, rfl, (by decide : 1 + 0 ≤ _), (by decide : 8 + 0 ≤ _)⟩)
  dsimp only [Pt.U, Pt.locs, Pt.cells, Pt.slots] at X25 l25 y25 z25 st25 hQ25
  subst l25 y25 z25
  obtain ⟨rfl, N25q, K25q, A25q⟩ := hQ25
  have N25 := Fr.app N24 N25q
  have Z25 : n0 ≤ T25.heap.size := Nat.le_trans Z24 K25q.1
  have K26 : ∀ t, Steps p.tables e below (T25.setTop (mkF m 140 #[.val (.int p0), .val (.int p1), .val (.int p2), .val (.int p3), .val (.int p4), .val (.int (f1 p0)), .val (.int (f1 p1)), .val (.int (f2 (f1 p0))), .val (.int (f2 (f1 p1))), .val (.int (gst p0 p1)), .val (.int (gpad p2)), .val (.ref b5), .val (.int (gmid p0 p1)), .val (.int (gfr p3)), .unset, .unset] [(.int (p4 &&& (1 : Int32)))])) t → Steps p.tables e below (s₁.setTop (mkF m 0 #[.val (.int p0), .val (.int p1), .val (.int p2), .val (.int p3), .val (.int p4), .unset, .unset, .unset, .unset, .unset, .unset, .unset, .unset, .unset, .unset, .unset] [])) t := by
    intro t kt
    show Steps p.tables e below (s₁.setTop (mkF m 0 #[.val (.int p0), .val (.int p1), .val (.int p2), .val (.int p3), .val (.int p4), .unset, .unset, .unset, .unset, .unset, .unset, .unset, .unset, .unset, .unset, .unset] [])) _
    refine XS.iloadN X0.here hx rfl (hb hby at_0) rfl ?_
    show Steps p.tables e below (s₁.setTop (mkF m 1 #[.val (.int p0), .val (.int p1), .val (.int p2), .val (.int p3), .val (.int p4), .unset, .unset, .unset, .unset, .unset, .unset, .unset, .unset, .unset, .unset, .unset] [(.int p0)])) _
    refine st1 _ ?_
    show Steps p.tables e below (T1.setTop (mkF m 4 #[.val (.int p0), .val (.int p1), .val (.int p2), .val (.int p3), .val (.int p4), .unset, .unset, .unset, .unset, .unset, .unset, .unset, .unset, .unset, .unset, .unset] [(.int (f1 p0))])) _
    refine XS.istore X1.here hx rfl (hb hby at_4) rfl (l' := #[.val (.int p0), .val (.int p1), .val (.int p2), .val (.int p3), .val (.int p4), .val (.int (f1 p0)), .unset, .unset, .unset, .unset, .unset, .unset, .unset, .unset, .unset, .unset]) rfl ?_
    show Steps p.tables e below (T1.setTop (mkF m 6 #[.val (.int p0), .val (.int p1), .val (.int p2), .val (.int p3), .val (.int p4), .val (.int (f1 p0)), .unset, .unset, .unset, .unset, .unset, .unset, .unset, .unset, .unset, .unset] [])) _
    refine XS.iloadN X1.here hx rfl (hb hby at_6) rfl ?_
    show Steps p.tables e below (T1.setTop (mkF m 7 #[.val (.int p0), .val (.int p1), .val (.int p2), .val (.int p3), .val (.int p4), .val (.int (f1 p0)), .unset, .unset, .unset, .unset, .unset, .unset, .unset, .unset, .unset, .unset] [(.int p1)])) _
    refine st2 _ ?_
    show Steps p.tables e below (T2.setTop (mkF m 10 #[.val (.int p0), .val (.int p1), .val (.int p2), .val (.int p3), .val (.int p4), .val (.int (f1 p0)), .unset, .unset, .unset, .unset, .unset, .unset, .unset, .unset, .unset, .unset] [(.int (f1 p1))])) _
    refine XS.istore X2.here hx rfl (hb hby at_10) rfl (l' := #[.val (.int p0), .val (.int p1), .val (.int p2), .val (.int p3), .val (.int p4), .val (.int (f1 p0)), .val (.int (f1 p1)), .unset, .unset, .unset, .unset, .unset, .unset, .unset, .unset, .unset]) rfl ?_
    show Steps p.tables e below (T2.setTop (mkF m 12 #[.val (.int p0), .val (.int p1), .val (.int p2), .val (.int p3), .val (.int p4), .val (.int (f1 p0)), .val (.int (f1 p1)), .unset, .unset, .unset, .unset, .unset, .unset, .unset, .unset, .unset] [])) _
    refine XS.iload X2.here hx rfl (hb hby at_12) rfl ?_
    show Steps p.tables e below (T2.setTop (mkF m 14 #[.val (.int p0), .val (.int p1), .val (.int p2), .val (.int p3), .val (.int p4), .val (.int (f1 p0)), .val (.int (f1 p1)), .unset, .unset, .unset, .unset, .unset, .unset, .unset, .unset, .unset] [(.int (f1 p0))])) _
    refine st3 _ ?_
    show Steps p.tables e below (T3.setTop (mkF m 17 #[.val (.int p0), .val (.int p1), .val (.int p2), .val (.int p3), .val (.int p4), .val (.int (f1 p0)), .val (.int (f1 p1)), .unset, .unset, .unset, .unset, .unset, .unset, .unset, .unset, .unset] [(.int (f2 (f1 p0)))])) _
    refine XS.istore X3.here hx rfl (hb hby at_17) rfl (l' := #[.val (.int p0), .val (.int p1), .val (.int p2), .val (.int p3), .val (.int p4), .val (.int (f1 p0)), .val (.int (f1 p1)), .val (.int (f2 (f1 p0))), .unset, .unset, .unset, .unset, .unset, .unset, .unset, .unset]) rfl ?_
    show Steps p.tables e below (T3.setTop (mkF m 19 #[.val (.int p0), .val (.int p1), .val (.int p2), .val (.int p3), .val (.int p4), .val (.int (f1 p0)), .val (.int (f1 p1)), .val (.int (f2 (f1 p0))), .unset, .unset, .unset, .unset, .unset, .unset, .unset, .unset] [])) _
    refine XS.iload X3.here hx rfl (hb hby at_19) rfl ?_
    show Steps p.tables e below (T3.setTop (mkF m 21 #[.val (.int p0), .val (.int p1), .val (.int p2), .val (.int p3), .val (.int p4), .val (.int (f1 p0)), .val (.int (f1 p1)), .val (.int (f2 (f1 p0))), .unset, .unset, .unset, .unset, .unset, .unset, .unset, .unset] [(.int (f1 p1))])) _
    refine st4 _ ?_
    show Steps p.tables e below (T4.setTop (mkF m 24 #[.val (.int p0), .val (.int p1), .val (.int p2), .val (.int p3), .val (.int p4), .val (.int (f1 p0)), .val (.int (f1 p1)), .val (.int (f2 (f1 p0))), .unset, .unset, .unset, .unset, .unset, .unset, .unset, .unset] [(.int (f2 (f1 p1)))])) _
    refine XS.istore X4.here hx rfl (hb hby at_24) rfl (l' := #[.val (.int p0), .val (.int p1), .val (.int p2), .val (.int p3), .val (.int p4), .val (.int (f1 p0)), .val (.int (f1 p1)), .val (.int (f2 (f1 p0))), .val (.int (f2 (f1 p1))), .unset, .unset, .unset, .unset, .unset, .unset, .unset]) rfl ?_
    show Steps p.tables e below (T4.setTop (mkF m 26 #[.val (.int p0), .val (.int p1), .val (.int p2), .val (.int p3), .val (.int p4), .val (.int (f1 p0)), .val (.int (f1 p1)), .val (.int (f2 (f1 p0))), .val (.int (f2 (f1 p1))), .unset, .unset, .unset, .unset, .unset, .unset, .unset] [])) _
    refine XS.bipush X4.here hx rfl (hb hby at_26) ?_
    show Steps p.tables e below (T4.setTop (mkF m 28 #[.val (.int p0), .val (.int p1), .val (.int p2), .val (.int p3), .val (.int p4), .val (.int (f1 p0)), .val (.int (f1 p1)), .val (.int (f2 (f1 p0))), .val (.int (f2 (f1 p1))), .unset, .unset, .unset, .unset, .unset, .unset, .unset] [(.int (8 : Int32))])) _
    refine XS.iload X4.here hx rfl (hb hby at_28) rfl ?_
    show Steps p.tables e below (T4.setTop (mkF m 30 #[.val (.int p0), .val (.int p1), .val (.int p2), .val (.int p3), .val (.int p4), .val (.int (f1 p0)), .val (.int (f1 p1)), .val (.int (f2 (f1 p0))), .val (.int (f2 (f1 p1))), .unset, .unset, .unset, .unset, .unset, .unset, .unset] [(.int (f2 (f1 p0))), (.int (8 : Int32))])) _
    refine XS.isub X4.here hx rfl (hb hby at_30) rfl ?_
    show Steps p.tables e below (T4.setTop (mkF m 31 #[.val (.int p0), .val (.int p1), .val (.int p2), .val (.int p3), .val (.int p4), .val (.int (f1 p0)), .val (.int (f1 p1)), .val (.int (f2 (f1 p0))), .val (.int (f2 (f1 p1))), .unset, .unset, .unset, .unset, .unset, .unset, .unset] [(.int ((8 : Int32) - (f2 (f1 p0))))])) _
    refine XS.iload X4.here hx rfl (hb hby at_31) rfl ?_
    show Steps p.tables e below (T4.setTop (mkF m 33 #[.val (.int p0), .val (.int p1), .val (.int p2), .val (.int p3), .val (.int p4), .val (.int (f1 p0)), .val (.int (f1 p1)), .val (.int (f2 (f1 p0))), .val (.int (f2 (f1 p1))), .unset, .unset, .unset, .unset, .unset, .unset, .unset] [(.int (f2 (f1 p1))), (.int ((8 : Int32) - (f2 (f1 p0))))])) _
    refine XS.isub X4.here hx rfl (hb hby at_33) rfl ?_
    show Steps p.tables e below (T4.setTop (mkF m 34 #[.val (.int p0), .val (.int p1), .val (.int p2), .val (.int p3), .val (.int p4), .val (.int (f1 p0)), .val (.int (f1 p1)), .val (.int (f2 (f1 p0))), .val (.int (f2 (f1 p1))), .unset, .unset, .unset, .unset, .unset, .unset, .unset] [(.int (((8 : Int32) - (f2 (f1 p0))) - (f2 (f1 p1))))])) _
    refine XS.istore X4.here hx rfl (hb hby at_34) rfl (l' := #[.val (.int p0), .val (.int p1), .val (.int p2), .val (.int p3), .val (.int p4), .val (.int (f1 p0)), .val (.int (f1 p1)), .val (.int (f2 (f1 p0))), .val (.int (f2 (f1 p1))), .val (.int (gst p0 p1)), .unset, .unset, .unset, .unset, .unset, .unset]) rfl ?_
    show Steps p.tables e below (T4.setTop (mkF m 36 #[.val (.int p0), .val (.int p1), .val (.int p2), .val (.int p3), .val (.int p4), .val (.int (f1 p0)), .val (.int (f1 p1)), .val (.int (f2 (f1 p0))), .val (.int (f2 (f1 p1))), .val (.int (gst p0 p1)), .unset, .unset, .unset, .unset, .unset, .unset] [])) _
    refine XS.iloadN X4.here hx rfl (hb hby at_36) rfl ?_
    show Steps p.tables e below (T4.setTop (mkF m 37 #[.val (.int p0), .val (.int p1), .val (.int p2), .val (.int p3), .val (.int p4), .val (.int (f1 p0)), .val (.int (f1 p1)), .val (.int (f2 (f1 p0))), .val (.int (f2 (f1 p1))), .val (.int (gst p0 p1)), .unset, .unset, .unset, .unset, .unset, .unset] [(.int p2)])) _
    refine XS.bipush X4.here hx rfl (hb hby at_37) ?_
    show Steps p.tables e below (T4.setTop (mkF m 39 #[.val (.int p0), .val (.int p1), .val (.int p2), .val (.int p3), .val (.int p4), .val (.int (f1 p0)), .val (.int (f1 p1)), .val (.int (f2 (f1 p0))), .val (.int (f2 (f1 p1))), .val (.int (gst p0 p1)), .unset, .unset, .unset, .unset, .unset, .unset] [(.int (127 : Int32)), (.int p2)])) _
    refine XS.iand X4.here hx rfl (hb hby at_39) rfl ?_
    show Steps p.tables e below (T4.setTop (mkF m 40 #[.val (.int p0), .val (.int p1), .val (.int p2), .val (.int p3), .val (.int p4), .val (.int (f1 p0)), .val (.int (f1 p1)), .val (.int (f2 (f1 p0))), .val (.int (f2 (f1 p1))), .val (.int (gst p0 p1)), .unset, .unset, .unset, .unset, .unset, .unset] [(.int (p2 &&& (127 : Int32)))])) _
    refine XS.i2b X4.here hx rfl (hb hby at_40) rfl ?_
    show Steps p.tables e below (T4.setTop (mkF m 41 #[.val (.int p0), .val (.int p1), .val (.int p2), .val (.int p3), .val (.int p4), .val (.int (f1 p0)), .val (.int (f1 p1)), .val (.int (f2 (f1 p0))), .val (.int (f2 (f1 p1))), .val (.int (gst p0 p1)), .unset, .unset, .unset, .unset, .unset, .unset] [(.int ((p2 &&& (127 : Int32)).toInt8.toInt32))])) _
    refine XS.istore X4.here hx rfl (hb hby at_41) rfl (l' := #[.val (.int p0), .val (.int p1), .val (.int p2), .val (.int p3), .val (.int p4), .val (.int (f1 p0)), .val (.int (f1 p1)), .val (.int (f2 (f1 p0))), .val (.int (f2 (f1 p1))), .val (.int (gst p0 p1)), .val (.int (gpad p2)), .unset, .unset, .unset, .unset, .unset]) rfl ?_
    show Steps p.tables e below (T4.setTop (mkF m 43 #[.val (.int p0), .val (.int p1), .val (.int p2), .val (.int p3), .val (.int p4), .val (.int (f1 p0)), .val (.int (f1 p1)), .val (.int (f2 (f1 p0))), .val (.int (f2 (f1 p1))), .val (.int (gst p0 p1)), .val (.int (gpad p2)), .unset, .unset, .unset, .unset, .unset] [])) _
    refine XS.bipush X4.here hx rfl (hb hby at_43) ?_
    show Steps p.tables e below (T4.setTop (mkF m 45 #[.val (.int p0), .val (.int p1), .val (.int p2), .val (.int p3), .val (.int p4), .val (.int (f1 p0)), .val (.int (f1 p1)), .val (.int (f2 (f1 p0))), .val (.int (f2 (f1 p1))), .val (.int (gst p0 p1)), .val (.int (gpad p2)), .unset, .unset, .unset, .unset, .unset] [(.int (8 : Int32))])) _
    refine st5 _ ?_
    show Steps p.tables e below (T5.setTop (mkF m 47 #[.val (.int p0), .val (.int p1), .val (.int p2), .val (.int p3), .val (.int p4), .val (.int (f1 p0)), .val (.int (f1 p1)), .val (.int (f2 (f1 p0))), .val (.int (f2 (f1 p1))), .val (.int (gst p0 p1)), .val (.int (gpad p2)), .unset, .unset, .unset, .unset, .unset] [(.ref b5)])) _
    refine XS.astore X5.here hx rfl (hb hby at_47) rfl rfl (l' := #[.val (.int p0), .val (.int p1), .val (.int p2), .val (.int p3), .val (.int p4), .val (.int (f1 p0)), .val (.int (f1 p1)), .val (.int (f2 (f1 p0))), .val (.int (f2 (f1 p1))), .val (.int (gst p0 p1)), .val (.int (gpad p2)), .val (.ref b5), .unset, .unset, .unset, .unset]) rfl ?_
    show Steps p.tables e below (T5.setTop (mkF m 49 #[.val (.int p0), .val (.int p1), .val (.int p2), .val (.int p3), .val (.int p4), .val (.int (f1 p0)), .val (.int (f1 p1)), .val (.int (f2 (f1 p0))), .val (.int (f2 (f1 p1))), .val (.int (gst p0 p1)), .val (.int (gpad p2)), .val (.ref b5), .unset, .unset, .unset, .unset] [])) _
    refine XS.aload X5.here hx rfl (hb hby at_49) rfl rfl ?_
    show Steps p.tables e below (T5.setTop (mkF m 51 #[.val (.int p0), .val (.int p1), .val (.int p2), .val (.int p3), .val (.int p4), .val (.int (f1 p0)), .val (.int (f1 p1)), .val (.int (f2 (f1 p0))), .val (.int (f2 (f1 p1))), .val (.int (gst p0 p1)), .val (.int (gpad p2)), .val (.ref b5), .unset, .unset, .unset, .unset] [(.ref b5)])) _
    refine XS.iconst X5.here hx rfl (hb hby at_51) ?_
    show Steps p.tables e below (T5.setTop (mkF m 52 #[.val (.int p0), .val (.int p1), .val (.int p2), .val (.int p3), .val (.int p4), .val (.int (f1 p0)), .val (.int (f1 p1)), .val (.int (f2 (f1 p0))), .val (.int (f2 (f1 p1))), .val (.int (gst p0 p1)), .val (.int (gpad p2)), .val (.ref b5), .unset, .unset, .unset, .unset] [(.int (0 : Int32)), (.ref b5)])) _
    refine XS.iload X5.here hx rfl (hb hby at_52) rfl ?_
    show Steps p.tables e below (T5.setTop (mkF m 54 #[.val (.int p0), .val (.int p1), .val (.int p2), .val (.int p3), .val (.int p4), .val (.int (f1 p0)), .val (.int (f1 p1)), .val (.int (f2 (f1 p0))), .val (.int (f2 (f1 p1))), .val (.int (gst p0 p1)), .val (.int (gpad p2)), .val (.ref b5), .unset, .unset, .unset, .unset] [(.int (gpad p2)), (.int (0 : Int32)), (.ref b5)])) _
    refine st7 _ ?_
    show Steps p.tables e below (T7.setTop (mkF m 55 #[.val (.int p0), .val (.int p1), .val (.int p2), .val (.int p3), .val (.int p4), .val (.int (f1 p0)), .val (.int (f1 p1)), .val (.int (f2 (f1 p0))), .val (.int (f2 (f1 p1))), .val (.int (gst p0 p1)), .val (.int (gpad p2)), .val (.ref b5), .unset, .unset, .unset, .unset] [])) _
    refine XS.aload X7.here hx rfl (hb hby at_55) rfl rfl ?_
    show Steps p.tables e below (T7.setTop (mkF m 57 #[.val (.int p0), .val (.int p1), .val (.int p2), .val (.int p3), .val (.int p4), .val (.int (f1 p0)), .val (.int (f1 p1)), .val (.int (f2 (f1 p0))), .val (.int (f2 (f1 p1))), .val (.int (gst p0 p1)), .val (.int (gpad p2)), .val (.ref b5), .unset, .unset, .unset, .unset] [(.ref b5)])) _
    refine XS.iconst X7.here hx rfl (hb hby at_57) ?_
    show Steps p.tables e below (T7.setTop (mkF m 58 #[.val (.int p0), .val (.int p1), .val (.int p2), .val (.int p3), .val (.int p4), .val (.int (f1 p0)), .val (.int (f1 p1)), .val (.int (f2 (f1 p0))), .val (.int (f2 (f1 p1))), .val (.int (gst p0 p1)), .val (.int (gpad p2)), .val (.ref b5), .unset, .unset, .unset, .unset] [(.int (1 : Int32)), (.ref b5)])) _
    refine XS.iload X7.here hx rfl (hb hby at_58) rfl ?_
    show Steps p.tables e below (T7.setTop (mkF m 60 #[.val (.int p0), .val (.int p1), .val (.int p2), .val (.int p3), .val (.int p4), .val (.int (f1 p0)), .val (.int (f1 p1)), .val (.int (f2 (f1 p0))), .val (.int (f2 (f1 p1))), .val (.int (gst p0 p1)), .val (.int (gpad p2)), .val (.ref b5), .unset, .unset, .unset, .unset] [(.int (gpad p2)), (.int (1 : Int32)), (.ref b5)])) _
    refine st9 _ ?_
    show Steps p.tables e below (T9.setTop (mkF m 61 #[.val (.int p0), .val (.int p1), .val (.int p2), .val (.int p3), .val (.int p4), .val (.int (f1 p0)), .val (.int (f1 p1)), .val (.int (f2 (f1 p0))), .val (.int (f2 (f1 p1))), .val (.int (gst p0 p1)), .val (.int (gpad p2)), .val (.ref b5), .unset, .unset, .unset, .unset] [])) _
    refine XS.aload X9.here hx rfl (hb hby at_61) rfl rfl ?_
    show Steps p.tables e below (T9.setTop (mkF m 63 #[.val (.int p0), .val (.int p1), .val (.int p2), .val (.int p3), .val (.int p4), .val (.int (f1 p0)), .val (.int (f1 p1)), .val (.int (f2 (f1 p0))), .val (.int (f2 (f1 p1))), .val (.int (gst p0 p1)), .val (.int (gpad p2)), .val (.ref b5), .unset, .unset, .unset, .unset] [(.ref b5)])) _
    refine XS.iconst X9.here hx rfl (hb hby at_63) ?_
    show Steps p.tables e below (T9.setTop (mkF m 64 #[.val (.int p0), .val (.int p1), .val (.int p2), .val (.int p3), .val (.int p4), .val (.int (f1 p0)), .val (.int (f1 p1)), .val (.int (f2 (f1 p0))), .val (.int (f2 (f1 p1))), .val (.int (gst p0 p1)), .val (.int (gpad p2)), .val (.ref b5), .unset, .unset, .unset, .unset] [(.int (2 : Int32)), (.ref b5)])) _
    refine XS.iload X9.here hx rfl (hb hby at_64) rfl ?_
    show Steps p.tables e below (T9.setTop (mkF m 66 #[.val (.int p0), .val (.int p1), .val (.int p2), .val (.int p3), .val (.int p4), .val (.int (f1 p0)), .val (.int (f1 p1)), .val (.int (f2 (f1 p0))), .val (.int (f2 (f1 p1))), .val (.int (gst p0 p1)), .val (.int (gpad p2)), .val (.ref b5), .unset, .unset, .unset, .unset] [(.int (gpad p2)), (.int (2 : Int32)), (.ref b5)])) _
    refine st11 _ ?_
    show Steps p.tables e below (T11.setTop (mkF m 67 #[.val (.int p0), .val (.int p1), .val (.int p2), .val (.int p3), .val (.int p4), .val (.int (f1 p0)), .val (.int (f1 p1)), .val (.int (f2 (f1 p0))), .val (.int (f2 (f1 p1))), .val (.int (gst p0 p1)), .val (.int (gpad p2)), .val (.ref b5), .unset, .unset, .unset, .unset] [])) _
    refine XS.aload X11.here hx rfl (hb hby at_67) rfl rfl ?_
    show Steps p.tables e below (T11.setTop (mkF m 69 #[.val (.int p0), .val (.int p1), .val (.int p2), .val (.int p3), .val (.int p4), .val (.int (f1 p0)), .val (.int (f1 p1)), .val (.int (f2 (f1 p0))), .val (.int (f2 (f1 p1))), .val (.int (gst p0 p1)), .val (.int (gpad p2)), .val (.ref b5), .unset, .unset, .unset, .unset] [(.ref b5)])) _
    refine XS.iconst X11.here hx rfl (hb hby at_69) ?_
    show Steps p.tables e below (T11.setTop (mkF m 70 #[.val (.int p0), .val (.int p1), .val (.int p2), .val (.int p3), .val (.int p4), .val (.int (f1 p0)), .val (.int (f1 p1)), .val (.int (f2 (f1 p0))), .val (.int (f2 (f1 p1))), .val (.int (gst p0 p1)), .val (.int (gpad p2)), .val (.ref b5), .unset, .unset, .unset, .unset] [(.int (3 : Int32)), (.ref b5)])) _
    refine XS.iload X11.here hx rfl (hb hby at_70) rfl ?_
    show Steps p.tables e below (T11.setTop (mkF m 72 #[.val (.int p0), .val (.int p1), .val (.int p2), .val (.int p3), .val (.int p4), .val (.int (f1 p0)), .val (.int (f1 p1)), .val (.int (f2 (f1 p0))), .val (.int (f2 (f1 p1))), .val (.int (gst p0 p1)), .val (.int (gpad p2)), .val (.ref b5), .unset, .unset, .unset, .unset] [(.int (gpad p2)), (.int (3 : Int32)), (.ref b5)])) _
    refine st13 _ ?_
    show Steps p.tables e below (T13.setTop (mkF m 73 #[.val (.int p0), .val (.int p1), .val (.int p2), .val (.int p3), .val (.int p4), .val (.int (f1 p0)), .val (.int (f1 p1)), .val (.int (f2 (f1 p0))), .val (.int (f2 (f1 p1))), .val (.int (gst p0 p1)), .val (.int (gpad p2)), .val (.ref b5), .unset, .unset, .unset, .unset] [])) _
    refine XS.aload X13.here hx rfl (hb hby at_73) rfl rfl ?_
    show Steps p.tables e below (T13.setTop (mkF m 75 #[.val (.int p0), .val (.int p1), .val (.int p2), .val (.int p3), .val (.int p4), .val (.int (f1 p0)), .val (.int (f1 p1)), .val (.int (f2 (f1 p0))), .val (.int (f2 (f1 p1))), .val (.int (gst p0 p1)), .val (.int (gpad p2)), .val (.ref b5), .unset, .unset, .unset, .unset] [(.ref b5)])) _
    refine XS.iconst X13.here hx rfl (hb hby at_75) ?_
    show Steps p.tables e below (T13.setTop (mkF m 76 #[.val (.int p0), .val (.int p1), .val (.int p2), .val (.int p3), .val (.int p4), .val (.int (f1 p0)), .val (.int (f1 p1)), .val (.int (f2 (f1 p0))), .val (.int (f2 (f1 p1))), .val (.int (gst p0 p1)), .val (.int (gpad p2)), .val (.ref b5), .unset, .unset, .unset, .unset] [(.int (4 : Int32)), (.ref b5)])) _
    refine XS.iload X13.here hx rfl (hb hby at_76) rfl ?_
    show Steps p.tables e below (T13.setTop (mkF m 78 #[.val (.int p0), .val (.int p1), .val (.int p2), .val (.int p3), .val (.int p4), .val (.int (f1 p0)), .val (.int (f1 p1)), .val (.int (f2 (f1 p0))), .val (.int (f2 (f1 p1))), .val (.int (gst p0 p1)), .val (.int (gpad p2)), .val (.ref b5), .unset, .unset, .unset, .unset] [(.int (gpad p2)), (.int (4 : Int32)), (.ref b5)])) _
    refine st15 _ ?_
    show Steps p.tables e below (T15.setTop (mkF m 79 #[.val (.int p0), .val (.int p1), .val (.int p2), .val (.int p3), .val (.int p4), .val (.int (f1 p0)), .val (.int (f1 p1)), .val (.int (f2 (f1 p0))), .val (.int (f2 (f1 p1))), .val (.int (gst p0 p1)), .val (.int (gpad p2)), .val (.ref b5), .unset, .unset, .unset, .unset] [])) _
    refine XS.aload X15.here hx rfl (hb hby at_79) rfl rfl ?_
    show Steps p.tables e below (T15.setTop (mkF m 81 #[.val (.int p0), .val (.int p1), .val (.int p2), .val (.int p3), .val (.int p4), .val (.int (f1 p0)), .val (.int (f1 p1)), .val (.int (f2 (f1 p0))), .val (.int (f2 (f1 p1))), .val (.int (gst p0 p1)), .val (.int (gpad p2)), .val (.ref b5), .unset, .unset, .unset, .unset] [(.ref b5)])) _
    refine XS.iconst X15.here hx rfl (hb hby at_81) ?_
    show Steps p.tables e below (T15.setTop (mkF m 82 #[.val (.int p0), .val (.int p1), .val (.int p2), .val (.int p3), .val (.int p4), .val (.int (f1 p0)), .val (.int (f1 p1)), .val (.int (f2 (f1 p0))), .val (.int (f2 (f1 p1))), .val (.int (gst p0 p1)), .val (.int (gpad p2)), .val (.ref b5), .unset, .unset, .unset, .unset] [(.int (5 : Int32)), (.ref b5)])) _
    refine XS.iload X15.here hx rfl (hb hby at_82) rfl ?_
    show Steps p.tables e below (T15.setTop (mkF m 84 #[.val (.int p0), .val (.int p1), .val (.int p2), .val (.int p3), .val (.int p4), .val (.int (f1 p0)), .val (.int (f1 p1)), .val (.int (f2 (f1 p0))), .val (.int (f2 (f1 p1))), .val (.int (gst p0 p1)), .val (.int (gpad p2)), .val (.ref b5), .unset, .unset, .unset, .unset] [(.int (gpad p2)), (.int (5 : Int32)), (.ref b5)])) _
    refine st17 _ ?_
    show Steps p.tables e below (T17.setTop (mkF m 85 #[.val (.int p0), .val (.int p1), .val (.int p2), .val (.int p3), .val (.int p4), .val (.int (f1 p0)), .val (.int (f1 p1)), .val (.int (f2 (f1 p0))), .val (.int (f2 (f1 p1))), .val (.int (gst p0 p1)), .val (.int (gpad p2)), .val (.ref b5), .unset, .unset, .unset, .unset] [])) _
    refine XS.aload X17.here hx rfl (hb hby at_85) rfl rfl ?_
    show Steps p.tables e below (T17.setTop (mkF m 87 #[.val (.int p0), .val (.int p1), .val (.int p2), .val (.int p3), .val (.int p4), .val (.int (f1 p0)), .val (.int (f1 p1)), .val (.int (f2 (f1 p0))), .val (.int (f2 (f1 p1))), .val (.int (gst p0 p1)), .val (.int (gpad p2)), .val (.ref b5), .unset, .unset, .unset, .unset] [(.ref b5)])) _
    refine XS.bipush X17.here hx rfl (hb hby at_87) ?_
    show Steps p.tables e below (T17.setTop (mkF m 89 #[.val (.int p0), .val (.int p1), .val (.int p2), .val (.int p3), .val (.int p4), .val (.int (f1 p0)), .val (.int (f1 p1)), .val (.int (f2 (f1 p0))), .val (.int (f2 (f1 p1))), .val (.int (gst p0 p1)), .val (.int (gpad p2)), .val (.ref b5), .unset, .unset, .unset, .unset] [(.int (6 : Int32)), (.ref b5)])) _
    refine XS.iload X17.here hx rfl (hb hby at_89) rfl ?_
    show Steps p.tables e below (T17.setTop (mkF m 91 #[.val (.int p0), .val (.int p1), .val (.int p2), .val (.int p3), .val (.int p4), .val (.int (f1 p0)), .val (.int (f1 p1)), .val (.int (f2 (f1 p0))), .val (.int (f2 (f1 p1))), .val (.int (gst p0 p1)), .val (.int (gpad p2)), .val (.ref b5), .unset, .unset, .unset, .unset] [(.int (gpad p2)), (.int (6 : Int32)), (.ref b5)])) _
    refine st19 _ ?_
    show Steps p.tables e below (T19.setTop (mkF m 92 #[.val (.int p0), .val (.int p1), .val (.int p2), .val (.int p3), .val (.int p4), .val (.int (f1 p0)), .val (.int (f1 p1)), .val (.int (f2 (f1 p0))), .val (.int (f2 (f1 p1))), .val (.int (gst p0 p1)), .val (.int (gpad p2)), .val (.ref b5), .unset, .unset, .unset, .unset] [])) _
    refine XS.aload X19.here hx rfl (hb hby at_92) rfl rfl ?_
    show Steps p.tables e below (T19.setTop (mkF m 94 #[.val (.int p0), .val (.int p1), .val (.int p2), .val (.int p3), .val (.int p4), .val (.int (f1 p0)), .val (.int (f1 p1)), .val (.int (f2 (f1 p0))), .val (.int (f2 (f1 p1))), .val (.int (gst p0 p1)), .val (.int (gpad p2)), .val (.ref b5), .unset, .unset, .unset, .unset] [(.ref b5)])) _
    refine XS.bipush X19.here hx rfl (hb hby at_94) ?_
    show Steps p.tables e below (T19.setTop (mkF m 96 #[.val (.int p0), .val (.int p1), .val (.int p2), .val (.int p3), .val (.int p4), .val (.int (f1 p0)), .val (.int (f1 p1)), .val (.int (f2 (f1 p0))), .val (.int (f2 (f1 p1))), .val (.int (gst p0 p1)), .val (.int (gpad p2)), .val (.ref b5), .unset, .unset, .unset, .unset] [(.int (7 : Int32)), (.ref b5)])) _
    refine XS.iload X19.here hx rfl (hb hby at_96) rfl ?_
    show Steps p.tables e below (T19.setTop (mkF m 98 #[.val (.int p0), .val (.int p1), .val (.int p2), .val (.int p3), .val (.int p4), .val (.int (f1 p0)), .val (.int (f1 p1)), .val (.int (f2 (f1 p0))), .val (.int (f2 (f1 p1))), .val (.int (gst p0 p1)), .val (.int (gpad p2)), .val (.ref b5), .unset, .unset, .unset, .unset] [(.int (gpad p2)), (.int (7 : Int32)), (.ref b5)])) _
    refine st21 _ ?_
    show Steps p.tables e below (T21.setTop (mkF m 99 #[.val (.int p0), .val (.int p1), .val (.int p2), .val (.int p3), .val (.int p4), .val (.int (f1 p0)), .val (.int (f1 p1)), .val (.int (f2 (f1 p0))), .val (.int (f2 (f1 p1))), .val (.int (gst p0 p1)), .val (.int (gpad p2)), .val (.ref b5), .unset, .unset, .unset, .unset] [])) _
    refine XS.aload X21.here hx rfl (hb hby at_99) rfl rfl ?_
    show Steps p.tables e below (T21.setTop (mkF m 101 #[.val (.int p0), .val (.int p1), .val (.int p2), .val (.int p3), .val (.int p4), .val (.int (f1 p0)), .val (.int (f1 p1)), .val (.int (f2 (f1 p0))), .val (.int (f2 (f1 p1))), .val (.int (gst p0 p1)), .val (.int (gpad p2)), .val (.ref b5), .unset, .unset, .unset, .unset] [(.ref b5)])) _
    refine XS.iload X21.here hx rfl (hb hby at_101) rfl ?_
    show Steps p.tables e below (T21.setTop (mkF m 103 #[.val (.int p0), .val (.int p1), .val (.int p2), .val (.int p3), .val (.int p4), .val (.int (f1 p0)), .val (.int (f1 p1)), .val (.int (f2 (f1 p0))), .val (.int (f2 (f1 p1))), .val (.int (gst p0 p1)), .val (.int (gpad p2)), .val (.ref b5), .unset, .unset, .unset, .unset] [(.int (gst p0 p1)), (.ref b5)])) _
    refine XS.iload X21.here hx rfl (hb hby at_103) rfl ?_
    show Steps p.tables e below (T21.setTop (mkF m 105 #[.val (.int p0), .val (.int p1), .val (.int p2), .val (.int p3), .val (.int p4), .val (.int (f1 p0)), .val (.int (f1 p1)), .val (.int (f2 (f1 p0))), .val (.int (f2 (f1 p1))), .val (.int (gst p0 p1)), .val (.int (gpad p2)), .val (.ref b5), .unset, .unset, .unset, .unset] [(.int (f1 p0)), (.int (gst p0 p1)), (.ref b5)])) _
    refine st24 _ ?_
    show Steps p.tables e below (T24.setTop (mkF m 108 #[.val (.int p0), .val (.int p1), .val (.int p2), .val (.int p3), .val (.int p4), .val (.int (f1 p0)), .val (.int (f1 p1)), .val (.int (f2 (f1 p0))), .val (.int (f2 (f1 p1))), .val (.int (gst p0 p1)), .val (.int (gpad p2)), .val (.ref b5), .unset, .unset, .unset, .unset] [])) _
    refine XS.aload X24.here hx rfl (hb hby at_108) rfl rfl ?_
    show Steps p.tables e below (T24.setTop (mkF m 110 #[.val (.int p0), .val (.int p1), .val (.int p2), .val (.int p3), .val (.int p4), .val (.int (f1 p0)), .val (.int (f1 p1)), .val (.int (f2 (f1 p0))), .val (.int (f2 (f1 p1))), .val (.int (gst p0 p1)), .val (.int (gpad p2)), .val (.ref b5), .unset, .unset, .unset, .unset] [(.ref b5)])) _
    refine XS.iload X24.here hx rfl (hb hby at_110) rfl ?_
    show Steps p.tables e below (T24.setTop (mkF m 112 #[.val (.int p0), .val (.int p1), .val (.int p2), .val (.int p3), .val (.int p4), .val (.int (f1 p0)), .val (.int (f1 p1)), .val (.int (f2 (f1 p0))), .val (.int (f2 (f1 p1))), .val (.int (gst p0 p1)), .val (.int (gpad p2)), .val (.ref b5), .unset, .unset, .unset, .unset] [(.int (gst p0 p1)), (.ref b5)])) _
    refine XS.iload X24.here hx rfl (hb hby at_112) rfl ?_
    show Steps p.tables e below (T24.setTop (mkF m 114 #[.val (.int p0), .val (.int p1), .val (.int p2), .val (.int p3), .val (.int p4), .val (.int (f1 p0)), .val (.int (f1 p1)), .val (.int (f2 (f1 p0))), .val (.int (f2 (f1 p1))), .val (.int (gst p0 p1)), .val (.int (gpad p2)), .val (.ref b5), .unset, .unset, .unset, .unset] [(.int (f2 (f1 p0))), (.int (gst p0 p1)), (.ref b5)])) _
    refine XS.iadd X24.here hx rfl (hb hby at_114) rfl ?_
    show Steps p.tables e below (T24.setTop (mkF m 115 #[.val (.int p0), .val (.int p1), .val (.int p2), .val (.int p3), .val (.int p4), .val (.int (f1 p0)), .val (.int (f1 p1)), .val (.int (f2 (f1 p0))), .val (.int (f2 (f1 p1))), .val (.int (gst p0 p1)), .val (.int (gpad p2)), .val (.ref b5), .unset, .unset, .unset, .unset] [(.int ((gst p0 p1) + (f2 (f1 p0)))), (.ref b5)])) _
    refine XS.iload X24.here hx rfl (hb hby at_115) rfl ?_
    show Steps p.tables e below (T24.setTop (mkF m 117 #[.val (.int p0), .val (.int p1), .val (.int p2), .val (.int p3), .val (.int p4), .val (.int (f1 p0)), .val (.int (f1 p1)), .val (.int (f2 (f1 p0))), .val (.int (f2 (f1 p1))), .val (.int (gst p0 p1)), .val (.int (gpad p2)), .val (.ref b5), .unset, .unset, .unset, .unset] [(.int (f1 p1)), (.int ((gst p0 p1) + (f2 (f1 p0)))), (.ref b5)])) _
    refine st25 _ ?_
    show Steps p.tables e below (T25.setTop (mkF m 120 #[.val (.int p0), .val (.int p1), .val (.int p2), .val (.int p3), .val (.int p4), .val (.int (f1 p0)), .val (.int (f1 p1)), .val (.int (f2 (f1 p0))), .val (.int (f2 (f1 p1))), .val (.int (gst p0 p1)), .val (.int (gpad p2)), .val (.ref b5), .unset, .unset, .unset, .unset] [])) _
    refine XS.iload X25.here hx rfl (hb hby at_120) rfl ?_
    show Steps p.tables e below (T25.setTop (mkF m 122 #[.val (.int p0), .val (.int p1), .val (.int p2), .val (.int p3), .val (.int p4), .val (.int (f1 p0)), .val (.int (f1 p1)), .val (.int (f2 (f1 p0))), .val (.int (f2 (f1 p1))), .val (.int (gst p0 p1)), .val (.int (gpad p2)), .val (.ref b5), .unset, .unset, .unset, .unset] [(.int (gst p0 p1))])) _
    refine XS.iload X25.here hx rfl (hb hby at_122) rfl ?_
    show Steps p.tables e below (T25.setTop (mkF m 124 #[.val (.int p0), .val (.int p1), .val (.int p2), .val (.int p3), .val (.int p4), .val (.int (f1 p0)), .val (.int (f1 p1)), .val (.int (f2 (f1 p0))), .val (.int (f2 (f1 p1))), .val (.int (gst p0 p1)), .val (.int (gpad p2)), .val (.ref b5), .unset, .unset, .unset, .unset] [(.int (f2 (f1 p0))), (.int (gst p0 p1))])) _
    refine XS.iadd X25.here hx rfl (hb hby at_124) rfl ?_
    show Steps p.tables e below (T25.setTop (mkF m 125 #[.val (.int p0), .val (.int p1), .val (.int p2), .val (.int p3), .val (.int p4), .val (.int (f1 p0)), .val (.int (f1 p1)), .val (.int (f2 (f1 p0))), .val (.int (f2 (f1 p1))), .val (.int (gst p0 p1)), .val (.int (gpad p2)), .val (.ref b5), .unset, .unset, .unset, .unset] [(.int ((gst p0 p1) + (f2 (f1 p0))))])) _
    refine XS.istore X25.here hx rfl (hb hby at_125) rfl (l' := #[.val (.int p0), .val (.int p1), .val (.int p2), .val (.int p3), .val (.int p4), .val (.int (f1 p0)), .val (.int (f1 p1)), .val (.int (f2 (f1 p0))), .val (.int (f2 (f1 p1))), .val (.int (gst p0 p1)), .val (.int (gpad p2)), .val (.ref b5), .val (.int (gmid p0 p1)), .unset, .unset, .unset]) rfl ?_
    show Steps p.tables e below (T25.setTop (mkF m 127 #[.val (.int p0), .val (.int p1), .val (.int p2), .val (.int p3), .val (.int p4), .val (.int (f1 p0)), .val (.int (f1 p1)), .val (.int (f2 (f1 p0))), .val (.int (f2 (f1 p1))), .val (.int (gst p0 p1)), .val (.int (gpad p2)), .val (.ref b5), .val (.int (gmid p0 p1)), .unset, .unset, .unset] [])) _
    refine XS.iloadN X25.here hx rfl (hb hby at_127) rfl ?_
    show Steps p.tables e below (T25.setTop (mkF m 128 #[.val (.int p0), .val (.int p1), .val (.int p2), .val (.int p3), .val (.int p4), .val (.int (f1 p0)), .val (.int (f1 p1)), .val (.int (f2 (f1 p0))), .val (.int (f2 (f1 p1))), .val (.int (gst p0 p1)), .val (.int (gpad p2)), .val (.ref b5), .val (.int (gmid p0 p1)), .unset, .unset, .unset] [(.int p3)])) _
    refine X25.ldcInt hx hown (mvT hZ (hw _ (List.mem_of_getElem? (i := 14) rfl))) (g := (mkF m 128 #[.val (.int p0), .val (.int p1), .val (.int p2), .val (.int p3), .val (.int p4), .val (.int (f1 p0)), .val (.int (f1 p1)), .val (.int (f2 (f1 p0))), .val (.int (f2 (f1 p1))), .val (.int (gst p0 p1)), .val (.int (gpad p2)), .val (.ref b5), .val (.int (gmid p0 p1)), .unset, .unset, .unset] [(.int p3)])) rfl (hb hby at_128) _ ?_
    show Steps p.tables e below (T25.setTop (mkF m 130 #[.val (.int p0), .val (.int p1), .val (.int p2), .val (.int p3), .val (.int p4), .val (.int (f1 p0)), .val (.int (f1 p1)), .val (.int (f2 (f1 p0))), .val (.int (f2 (f1 p1))), .val (.int (gst p0 p1)), .val (.int (gpad p2)), .val (.ref b5), .val (.int (gmid p0 p1)), .unset, .unset, .unset] [(.int (2147483647 : Int32)), (.int p3)])) _
    refine XS.iand X25.here hx rfl (hb hby at_130) rfl ?_
    show Steps p.tables e below (T25.setTop (mkF m 131 #[.val (.int p0), .val (.int p1), .val (.int p2), .val (.int p3), .val (.int p4), .val (.int (f1 p0)), .val (.int (f1 p1)), .val (.int (f2 (f1 p0))), .val (.int (f2 (f1 p1))), .val (.int (gst p0 p1)), .val (.int (gpad p2)), .val (.ref b5), .val (.int (gmid p0 p1)), .unset, .unset, .unset] [(.int (p3 &&& (2147483647 : Int32)))])) _
    refine XS.bipush X25.here hx rfl (hb hby at_131) ?_
    show Steps p.tables e below (T25.setTop (mkF m 133 #[.val (.int p0), .val (.int p1), .val (.int p2), .val (.int p3), .val (.int p4), .val (.int (f1 p0)), .val (.int (f1 p1)), .val (.int (f2 (f1 p0))), .val (.int (f2 (f1 p1))), .val (.int (gst p0 p1)), .val (.int (gpad p2)), .val (.ref b5), .val (.int (gmid p0 p1)), .unset, .unset, .unset] [(.int (9 : Int32)), (.int (p3 &&& (2147483647 : Int32)))])) _
    refine iremM X25 hx rfl (hb hby at_133) rfl (by decide) ?_
    show Steps p.tables e below (T25.setTop (mkF m 134 #[.val (.int p0), .val (.int p1), .val (.int p2), .val (.int p3), .val (.int p4), .val (.int (f1 p0)), .val (.int (f1 p1)), .val (.int (f2 (f1 p0))), .val (.int (f2 (f1 p1))), .val (.int (gst p0 p1)), .val (.int (gpad p2)), .val (.ref b5), .val (.int (gmid p0 p1)), .unset, .unset, .unset] [(.int ((p3 &&& (2147483647 : Int32)) % (9 : Int32)))])) _
    refine XS.istore X25.here hx rfl (hb hby at_134) rfl (l' := #[.val (.int p0), .val (.int p1), .val (.int p2), .val (.int p3), .val (.int p4), .val (.int (f1 p0)), .val (.int (f1 p1)), .val (.int (f2 (f1 p0))), .val (.int (f2 (f1 p1))), .val (.int (gst p0 p1)), .val (.int (gpad p2)), .val (.ref b5), .val (.int (gmid p0 p1)), .val (.int (gfr p3)), .unset, .unset]) rfl ?_
    show Steps p.tables e below (T25.setTop (mkF m 136 #[.val (.int p0), .val (.int p1), .val (.int p2), .val (.int p3), .val (.int p4), .val (.int (f1 p0)), .val (.int (f1 p1)), .val (.int (f2 (f1 p0))), .val (.int (f2 (f1 p1))), .val (.int (gst p0 p1)), .val (.int (gpad p2)), .val (.ref b5), .val (.int (gmid p0 p1)), .val (.int (gfr p3)), .unset, .unset] [])) _
    refine XS.iload X25.here hx rfl (hb hby at_136) rfl ?_
    show Steps p.tables e below (T25.setTop (mkF m 138 #[.val (.int p0), .val (.int p1), .val (.int p2), .val (.int p3), .val (.int p4), .val (.int (f1 p0)), .val (.int (f1 p1)), .val (.int (f2 (f1 p0))), .val (.int (f2 (f1 p1))), .val (.int (gst p0 p1)), .val (.int (gpad p2)), .val (.ref b5), .val (.int (gmid p0 p1)), .val (.int (gfr p3)), .unset, .unset] [(.int p4)])) _
    refine XS.iconst X25.here hx rfl (hb hby at_138) ?_
    show Steps p.tables e below (T25.setTop (mkF m 139 #[.val (.int p0), .val (.int p1), .val (.int p2), .val (.int p3), .val (.int p4), .val (.int (f1 p0)), .val (.int (f1 p1)), .val (.int (f2 (f1 p0))), .val (.int (f2 (f1 p1))), .val (.int (gst p0 p1)), .val (.int (gpad p2)), .val (.ref b5), .val (.int (gmid p0 p1)), .val (.int (gfr p3)), .unset, .unset] [(.int (1 : Int32)), (.int p4)])) _
    refine XS.iand X25.here hx rfl (hb hby at_139) rfl ?_
    exact kt
  have K29 : ∀ t, Steps p.tables e below (T25.setTop (mkF m 161 #[.val (.int p0), .val (.int p1), .val (.int p2), .val (.int p3), .val (.int p4), .val (.int (f1 p0)), .val (.int (f1 p1)), .val (.int (f2 (f1 p0))), .val (.int (f2 (f1 p1))), .val (.int (gst p0 p1)), .val (.int (gpad p2)), .val (.ref b5), .val (.int (gmid p0 p1)), .val (.int (gfr p3)), .val (.int (gto p0 p1 p3 p4)), .unset] [])) t → Steps p.tables e below (s₁.setTop (mkF m 0 #[.val (.int p0), .val (.int p1), .val (.int p2), .val (.int p3), .val (.int p4), .unset, .unset, .unset, .unset, .unset, .unset, .unset, .unset, .unset, .unset, .unset] [])) t := by
    intro t kt
    by_cases hc27 : (p4 &&& (1 : Int32)) = (0 : Int32)
    · skip
      simp only [gto, if_pos hc27] at kt
      refine K26 _ ?_
      show Steps p.tables e below (T25.setTop (mkF m 140 #[.val (.int p0), .val (.int p1), .val (.int p2), .val (.int p3), .val (.int p4), .val (.int (f1 p0)), .val (.int (f1 p1)), .val (.int (f2 (f1 p0))), .val (.int (f2 (f1 p1))), .val (.int (gst p0 p1)), .val (.int (gpad p2)), .val (.ref b5), .val (.int (gmid p0 p1)), .val (.int (gfr p3)), .unset, .unset] [(.int (p4 &&& (1 : Int32)))])) _
      refine XS.ifYes X25.here hx rfl (pc0 := 140) (pc' := 157) rfl (hb hby at_140) rfl ((if0 _ _).trans (teq hc27).1) (by decide) (by decide) ?_
      show Steps p.tables e below (T25.setTop (mkF m 157 #[.val (.int p0), .val (.int p1), .val (.int p2), .val (.int p3), .val (.int p4), .val (.int (f1 p0)), .val (.int (f1 p1)), .val (.int (f2 (f1 p0))), .val (.int (f2 (f1 p1))), .val (.int (gst p0 p1)), .val (.int (gpad p2)), .val (.ref b5), .val (.int (gmid p0 p1)), .val (.int (gfr p3)), .unset, .unset] [])) _
      refine XS.bipush X25.here hx rfl (hb hby at_157) ?_
      show Steps p.tables e below (T25.setTop (mkF m 159 #[.val (.int p0), .val (.int p1), .val (.int p2), .val (.int p3), .val (.int p4), .val (.int (f1 p0)), .val (.int (f1 p1)), .val (.int (f2 (f1 p0))), .val (.int (f2 (f1 p1))), .val (.int (gst p0 p1)), .val (.int (gpad p2)), .val (.ref b5), .val (.int (gmid p0 p1)), .val (.int (gfr p3)), .unset, .unset] [(.int (8 : Int32))])) _
      refine XS.istore X25.here hx rfl (hb hby at_159) rfl (l' := #[.val (.int p0), .val (.int p1), .val (.int p2), .val (.int p3), .val (.int p4), .val (.int (f1 p0)), .val (.int (f1 p1)), .val (.int (f2 (f1 p0))), .val (.int (f2 (f1 p1))), .val (.int (gst p0 p1)), .val (.int (gpad p2)), .val (.ref b5), .val (.int (gmid p0 p1)), .val (.int (gfr p3)), .val (.int (8 : Int32)), .unset]) rfl ?_
      exact kt
    · skip
      by_cases hc28 : (gmid p0 p1) < (gfr p3)
      · skip
        simp only [gto, if_neg hc27, if_pos hc28] at kt
        refine K26 _ ?_
        show Steps p.tables e below (T25.setTop (mkF m 140 #[.val (.int p0), .val (.int p1), .val (.int p2), .val (.int p3), .val (.int p4), .val (.int (f1 p0)), .val (.int (f1 p1)), .val (.int (f2 (f1 p0))), .val (.int (f2 (f1 p1))), .val (.int (gst p0 p1)), .val (.int (gpad p2)), .val (.ref b5), .val (.int (gmid p0 p1)), .val (.int (gfr p3)), .unset, .unset] [(.int (p4 &&& (1 : Int32)))])) _
        refine XS.ifNo X25.here hx rfl (hb hby at_140) rfl ((if0 _ _).trans (feq hc27).1) ?_
        show Steps p.tables e below (T25.setTop (mkF m 143 #[.val (.int p0), .val (.int p1), .val (.int p2), .val (.int p3), .val (.int p4), .val (.int (f1 p0)), .val (.int (f1 p1)), .val (.int (f2 (f1 p0))), .val (.int (f2 (f1 p1))), .val (.int (gst p0 p1)), .val (.int (gpad p2)), .val (.ref b5), .val (.int (gmid p0 p1)), .val (.int (gfr p3)), .unset, .unset] [])) _
        refine XS.iload X25.here hx rfl (hb hby at_143) rfl ?_
        show Steps p.tables e below (T25.setTop (mkF m 145 #[.val (.int p0), .val (.int p1), .val (.int p2), .val (.int p3), .val (.int p4), .val (.int (f1 p0)), .val (.int (f1 p1)), .val (.int (f2 (f1 p0))), .val (.int (f2 (f1 p1))), .val (.int (gst p0 p1)), .val (.int (gpad p2)), .val (.ref b5), .val (.int (gmid p0 p1)), .val (.int (gfr p3)), .unset, .unset] [(.int (gfr p3))])) _
        refine XS.iload X25.here hx rfl (hb hby at_145) rfl ?_
        show Steps p.tables e below (T25.setTop (mkF m 147 #[.val (.int p0), .val (.int p1), .val (.int p2), .val (.int p3), .val (.int p4), .val (.int (f1 p0)), .val (.int (f1 p1)), .val (.int (f2 (f1 p0))), .val (.int (f2 (f1 p1))), .val (.int (gst p0 p1)), .val (.int (gpad p2)), .val (.ref b5), .val (.int (gmid p0 p1)), .val (.int (gfr p3)), .unset, .unset] [(.int (gmid p0 p1)), (.int (gfr p3))])) _
        refine XS.icmpYes X25.here hx rfl (pc0 := 147) (pc' := 157) rfl (hb hby at_147) rfl (tlt hc28).2.2.1 (by decide) (by decide) ?_
        show Steps p.tables e below (T25.setTop (mkF m 157 #[.val (.int p0), .val (.int p1), .val (.int p2), .val (.int p3), .val (.int p4), .val (.int (f1 p0)), .val (.int (f1 p1)), .val (.int (f2 (f1 p0))), .val (.int (f2 (f1 p1))), .val (.int (gst p0 p1)), .val (.int (gpad p2)), .val (.ref b5), .val (.int (gmid p0 p1)), .val (.int (gfr p3)), .unset, .unset] [])) _
        refine XS.bipush X25.here hx rfl (hb hby at_157) ?_
        show Steps p.tables e below (T25.setTop (mkF m 159 #[.val (.int p0), .val (.int p1), .val (.int p2), .val (.int p3), .val (.int p4), .val (.int (f1 p0)), .val (.int (f1 p1)), .val (.int (f2 (f1 p0))), .val (.int (f2 (f1 p1))), .val (.int (gst p0 p1)), .val (.int (gpad p2)), .val (.ref b5), .val (.int (gmid p0 p1)), .val (.int (gfr p3)), .unset, .unset] [(.int (8 : Int32))])) _
        refine XS.istore X25.here hx rfl (hb hby at_159) rfl (l' := #[.val (.int p0), .val (.int p1), .val (.int p2), .val (.int p3), .val (.int p4), .val (.int (f1 p0)), .val (.int (f1 p1)), .val (.int (f2 (f1 p0))), .val (.int (f2 (f1 p1))), .val (.int (gst p0 p1)), .val (.int (gpad p2)), .val (.ref b5), .val (.int (gmid p0 p1)), .val (.int (gfr p3)), .val (.int (8 : Int32)), .unset]) rfl ?_
        exact kt
      · skip
        simp only [gto, if_neg hc27, if_neg hc28] at kt
        refine K26 _ ?_
        show Steps p.tables e below (T25.setTop (mkF m 140 #[.val (.int p0), .val (.int p1), .val (.int p2), .val (.int p3), .val (.int p4), .val (.int (f1 p0)), .val (.int (f1 p1)), .val (.int (f2 (f1 p0))), .val (.int (f2 (f1 p1))), .val (.int (gst p0 p1)), .val (.int (gpad p2)), .val (.ref b5), .val (.int (gmid p0 p1)), .val (.int (gfr p3)), .unset, .unset] [(.int (p4 &&& (1 : Int32)))])) _
        refine XS.ifNo X25.here hx rfl (hb hby at_140) rfl ((if0 _ _).trans (feq hc27).1) ?_
        show Steps p.tables e below (T25.setTop (mkF m 143 #[.val (.int p0), .val (.int p1), .val (.int p2), .val (.int p3), .val (.int p4), .val (.int (f1 p0)), .val (.int (f1 p1)), .val (.int (f2 (f1 p0))), .val (.int (f2 (f1 p1))), .val (.int (gst p0 p1)), .val (.int (gpad p2)), .val (.ref b5), .val (.int (gmid p0 p1)), .val (.int (gfr p3)), .unset, .unset] [])) _
        refine XS.iload X25.here hx rfl (hb hby at_143) rfl ?_
        show Steps p.tables e below (T25.setTop (mkF m 145 #[.val (.int p0), .val (.int p1), .val (.int p2), .val (.int p3), .val (.int p4), .val (.int (f1 p0)), .val (.int (f1 p1)), .val (.int (f2 (f1 p0))), .val (.int (f2 (f1 p1))), .val (.int (gst p0 p1)), .val (.int (gpad p2)), .val (.ref b5), .val (.int (gmid p0 p1)), .val (.int (gfr p3)), .unset, .unset] [(.int (gfr p3))])) _
        refine XS.iload X25.here hx rfl (hb hby at_145) rfl ?_
        show Steps p.tables e below (T25.setTop (mkF m 147 #[.val (.int p0), .val (.int p1), .val (.int p2), .val (.int p3), .val (.int p4), .val (.int (f1 p0)), .val (.int (f1 p1)), .val (.int (f2 (f1 p0))), .val (.int (f2 (f1 p1))), .val (.int (gst p0 p1)), .val (.int (gpad p2)), .val (.ref b5), .val (.int (gmid p0 p1)), .val (.int (gfr p3)), .unset, .unset] [(.int (gmid p0 p1)), (.int (gfr p3))])) _
        refine XS.icmpNo X25.here hx rfl (hb hby at_147) rfl (flt hc28).2.2.1 ?_
        show Steps p.tables e below (T25.setTop (mkF m 150 #[.val (.int p0), .val (.int p1), .val (.int p2), .val (.int p3), .val (.int p4), .val (.int (f1 p0)), .val (.int (f1 p1)), .val (.int (f2 (f1 p0))), .val (.int (f2 (f1 p1))), .val (.int (gst p0 p1)), .val (.int (gpad p2)), .val (.ref b5), .val (.int (gmid p0 p1)), .val (.int (gfr p3)), .unset, .unset] [])) _
        refine XS.iload X25.here hx rfl (hb hby at_150) rfl ?_
        show Steps p.tables e below (T25.setTop (mkF m 152 #[.val (.int p0), .val (.int p1), .val (.int p2), .val (.int p3), .val (.int p4), .val (.int (f1 p0)), .val (.int (f1 p1)), .val (.int (f2 (f1 p0))), .val (.int (f2 (f1 p1))), .val (.int (gst p0 p1)), .val (.int (gpad p2)), .val (.ref b5), .val (.int (gmid p0 p1)), .val (.int (gfr p3)), .unset, .unset] [(.int (gmid p0 p1))])) _
        refine XS.istore X25.here hx rfl (hb hby at_152) rfl (l' := #[.val (.int p0), .val (.int p1), .val (.int p2), .val (.int p3), .val (.int p4), .val (.int (f1 p0)), .val (.int (f1 p1)), .val (.int (f2 (f1 p0))), .val (.int (f2 (f1 p1))), .val (.int (gst p0 p1)), .val (.int (gpad p2)), .val (.ref b5), .val (.int (gmid p0 p1)), .val (.int (gfr p3)), .val (.int (gmid p0 p1)), .unset]) rfl ?_
        show Steps p.tables e below (T25.setTop (mkF m 154 #[.val (.int p0), .val (.int p1), .val (.int p2), .val (.int p3), .val (.int p4), .val (.int (f1 p0)), .val (.int (f1 p1)), .val (.int (f2 (f1 p0))), .val (.int (f2 (f1 p1))), .val (.int (gst p0 p1)), .val (.int (gpad p2)), .val (.ref b5), .val (.int (gmid p0 p1)), .val (.int (gfr p3)), .val (.int (gmid p0 p1)), .unset] [])) _
        refine XS.goto X25.here hx rfl (pc0 := 154) (pc' := 161) rfl (hb hby at_154) (by decide) (by decide) ?_
        exact kt
  have K30 : ∀ t, Steps p.tables e below (T25.setTop (mkF m 165 #[.val (.int p0), .val (.int p1), .val (.int p2), .val (.int p3), .val (.int p4), .val (.int (f1 p0)), .val (.int (f1 p1)), .val (.int (f2 (f1 p0))), .val (.int (f2 (f1 p1))), .val (.int (gst p0 p1)), .val (.int (gpad p2)), .val (.ref b5), .val (.int (gmid p0 p1)), .val (.int (gfr p3)), .val (.int (gto p0 p1 p3 p4)), .unset] [(.int (gst p0 p1)), (.int (gfr p3))])) t → Steps p.tables e below (s₁.setTop (mkF m 0 #[.val (.int p0), .val (.int p1), .val (.int p2), .val (.int p3), .val (.int p4), .unset, .unset, .unset, .unset, .unset, .unset, .unset, .unset, .unset, .unset, .unset] [])) t := by
    intro t kt
    refine K29 _ ?_
    show Steps p.tables e below (T25.setTop (mkF m 161 #[.val (.int p0), .val (.int p1), .val (.int p2), .val (.int p3), .val (.int p4), .val (.int (f1 p0)), .val (.int (f1 p1)), .val (.int (f2 (f1 p0))), .val (.int (f2 (f1 p1))), .val (.int (gst p0 p1)), .val (.int (gpad p2)), .val (.ref b5), .val (.int (gmid p0 p1)), .val (.int (gfr p3)), .val (.int (gto p0 p1 p3 p4)), .unset] [])) _
    refine XS.iload X25.here hx rfl (hb hby at_161) rfl ?_
    show Steps p.tables e below (T25.setTop (mkF m 163 #[.val (.int p0), .val (.int p1), .val (.int p2), .val (.int p3), .val (.int p4), .val (.int (f1 p0)), .val (.int (f1 p1)), .val (.int (f2 (f1 p0))), .val (.int (f2 (f1 p1))), .val (.int (gst p0 p1)), .val (.int (gpad p2)), .val (.ref b5), .val (.int (gmid p0 p1)), .val (.int (gfr p3)), .val (.int (gto p0 p1 p3 p4)), .unset] [(.int (gfr p3))])) _
    refine XS.iload X25.here hx rfl (hb hby at_163) rfl ?_
    exact kt
  have K34 : ∀ t, Steps p.tables e below (T25.setTop (mkF m 187 #[.val (.int p0), .val (.int p1), .val (.int p2), .val (.int p3), .val (.int p4), .val (.int (f1 p0)), .val (.int (f1 p1)), .val (.int (f2 (f1 p0))), .val (.int (f2 (f1 p1))), .val (.int (gst p0 p1)), .val (.int (gpad p2)), .val (.ref b5), .val (.int (gmid p0 p1)), .val (.int (gfr p3)), .val (.int (gto p0 p1 p3 p4)), .unset] [(.int (gex p0 p1 p3))])) t → Steps p.tables e below (s₁.setTop (mkF m 0 #[.val (.int p0), .val (.int p1), .val (.int p2), .val (.int p3), .val (.int p4), .unset, .unset, .unset, .unset, .unset, .unset, .unset, .unset, .unset, .unset, .unset] [])) t := by
    intro t kt
    by_cases hc31 : (gst p0 p1) < (gfr p3)
    · skip
      by_cases hc32 : (gfr p3) = (gmid p0 p1)
      · skip
        simp only [gex, if_pos hc31, if_pos hc32] at kt
        refine K30 _ ?_
        show Steps p.tables e below (T25.setTop (mkF m 165 #[.val (.int p0), .val (.int p1), .val (.int p2), .val (.int p3), .val (.int p4), .val (.int (f1 p0)), .val (.int (f1 p1)), .val (.int (f2 (f1 p0))), .val (.int (f2 (f1 p1))), .val (.int (gst p0 p1)), .val (.int (gpad p2)), .val (.ref b5), .val (.int (gmid p0 p1)), .val (.int (gfr p3)), .val (.int (gto p0 p1 p3 p4)), .unset] [(.int (gst p0 p1)), (.int (gfr p3))])) _
        refine XS.icmpNo X25.here hx rfl (hb hby at_165) rfl (tlt hc31).2.2.2 ?_
        show Steps p.tables e below (T25.setTop (mkF m 168 #[.val (.int p0), .val (.int p1), .val (.int p2), .val (.int p3), .val (.int p4), .val (.int (f1 p0)), .val (.int (f1 p1)), .val (.int (f2 (f1 p0))), .val (.int (f2 (f1 p1))), .val (.int (gst p0 p1)), .val (.int (gpad p2)), .val (.ref b5), .val (.int (gmid p0 p1)), .val (.int (gfr p3)), .val (.int (gto p0 p1 p3 p4)), .unset] [])) _
        refine XS.iload X25.here hx rfl (hb hby at_168) rfl ?_
        show Steps p.tables e below (T25.setTop (mkF m 170 #[.val (.int p0), .val (.int p1), .val (.int p2), .val (.int p3), .val (.int p4), .val (.int (f1 p0)), .val (.int (f1 p1)), .val (.int (f2 (f1 p0))), .val (.int (f2 (f1 p1))), .val (.int (gst p0 p1)), .val (.int (gpad p2)), .val (.ref b5), .val (.int (gmid p0 p1)), .val (.int (gfr p3)), .val (.int (gto p0 p1 p3 p4)), .unset] [(.int (gfr p3))])) _
        refine XS.iload X25.here hx rfl (hb hby at_170) rfl ?_
        show Steps p.tables e below (T25.setTop (mkF m 172 #[.val (.int p0), .val (.int p1), .val (.int p2), .val (.int p3), .val (.int p4), .val (.int (f1 p0)), .val (.int (f1 p1)), .val (.int (f2 (f1 p0))), .val (.int (f2 (f1 p1))), .val (.int (gst p0 p1)), .val (.int (gpad p2)), .val (.ref b5), .val (.int (gmid p0 p1)), .val (.int (gfr p3)), .val (.int (gto p0 p1 p3 p4)), .unset] [(.int (gmid p0 p1)), (.int (gfr p3))])) _
        refine XS.icmpYes X25.here hx rfl (pc0 := 172) (pc' := 182) rfl (hb hby at_172) rfl (teq hc32).1 (by decide) (by decide) ?_
        show Steps p.tables e below (T25.setTop (mkF m 182 #[.val (.int p0), .val (.int p1), .val (.int p2), .val (.int p3), .val (.int p4), .val (.int (f1 p0)), .val (.int (f1 p1)), .val (.int (f2 (f1 p0))), .val (.int (f2 (f1 p1))), .val (.int (gst p0 p1)), .val (.int (gpad p2)), .val (.ref b5), .val (.int (gmid p0 p1)), .val (.int (gfr p3)), .val (.int (gto p0 p1 p3 p4)), .unset] [])) _
        refine XS.iconst X25.here hx rfl (hb hby at_182) ?_
        show Steps p.tables e below (T25.setTop (mkF m 183 #[.val (.int p0), .val (.int p1), .val (.int p2), .val (.int p3), .val (.int p4), .val (.int (f1 p0)), .val (.int (f1 p1)), .val (.int (f2 (f1 p0))), .val (.int (f2 (f1 p1))), .val (.int (gst p0 p1)), .val (.int (gpad p2)), .val (.ref b5), .val (.int (gmid p0 p1)), .val (.int (gfr p3)), .val (.int (gto p0 p1 p3 p4)), .unset] [(.int (1 : Int32))])) _
        refine XS.goto X25.here hx rfl (pc0 := 183) (pc' := 187) rfl (hb hby at_183) (by decide) (by decide) ?_
        exact kt
      · skip
        by_cases hc33 : (gfr p3) = (8 : Int32)
        · skip
          simp only [gex, if_pos hc31, if_neg hc32, if_pos hc33] at kt
          refine K30 _ ?_
          show Steps p.tables e below (T25.setTop (mkF m 165 #[.val (.int p0), .val (.int p1), .val (.int p2), .val (.int p3), .val (.int p4), .val (.int (f1 p0)), .val (.int (f1 p1)), .val (.int (f2 (f1 p0))), .val (.int (f2 (f1 p1))), .val (.int (gst p0 p1)), .val (.int (gpad p2)), .val (.ref b5), .val (.int (gmid p0 p1)), .val (.int (gfr p3)), .val (.int (gto p0 p1 p3 p4)), .unset] [(.int (gst p0 p1)), (.int (gfr p3))])) _
          refine XS.icmpNo X25.here hx rfl (hb hby at_165) rfl (tlt hc31).2.2.2 ?_
          show Steps p.tables e below (T25.setTop (mkF m 168 #[.val (.int p0), .val (.int p1), .val (.int p2), .val (.int p3), .val (.int p4), .val (.int (f1 p0)), .val (.int (f1 p1)), .val (.int (f2 (f1 p0))), .val (.int (f2 (f1 p1))), .val (.int (gst p0 p1)), .val (.int (gpad p2)), .val (.ref b5), .val (.int (gmid p0 p1)), .val (.int (gfr p3)), .val (.int (gto p0 p1 p3 p4)), .unset] [])) _
          refine XS.iload X25.here hx rfl (hb hby at_168) rfl ?_
          show Steps p.tables e below (T25.setTop (mkF m 170 #[.val (.int p0), .val (.int p1), .val (.int p2), .val (.int p3), .val (.int p4), .val (.int (f1 p0)), .val (.int (f1 p1)), .val (.int (f2 (f1 p0))), .val (.int (f2 (f1 p1))), .val (.int (gst p0 p1)), .val (.int (gpad p2)), .val (.ref b5), .val (.int (gmid p0 p1)), .val (.int (gfr p3)), .val (.int (gto p0 p1 p3 p4)), .unset] [(.int (gfr p3))])) _
          refine XS.iload X25.here hx rfl (hb hby at_170) rfl ?_
          show Steps p.tables e below (T25.setTop (mkF m 172 #[.val (.int p0), .val (.int p1), .val (.int p2), .val (.int p3), .val (.int p4), .val (.int (f1 p0)), .val (.int (f1 p1)), .val (.int (f2 (f1 p0))), .val (.int (f2 (f1 p1))), .val (.int (gst p0 p1)), .val (.int (gpad p2)), .val (.ref b5), .val (.int (gmid p0 p1)), .val (.int (gfr p3)), .val (.int (gto p0 p1 p3 p4)), .unset] [(.int (gmid p0 p1)), (.int (gfr p3))])) _
          refine XS.icmpNo X25.here hx rfl (hb hby at_172) rfl (feq hc32).1 ?_
          show Steps p.tables e below (T25.setTop (mkF m 175 #[.val (.int p0), .val (.int p1), .val (.int p2), .val (.int p3), .val (.int p4), .val (.int (f1 p0)), .val (.int (f1 p1)), .val (.int (f2 (f1 p0))), .val (.int (f2 (f1 p1))), .val (.int (gst p0 p1)), .val (.int (gpad p2)), .val (.ref b5), .val (.int (gmid p0 p1)), .val (.int (gfr p3)), .val (.int (gto p0 p1 p3 p4)), .unset] [])) _
          refine XS.iload X25.here hx rfl (hb hby at_175) rfl ?_
          show Steps p.tables e below (T25.setTop (mkF m 177 #[.val (.int p0), .val (.int p1), .val (.int p2), .val (.int p3), .val (.int p4), .val (.int (f1 p0)), .val (.int (f1 p1)), .val (.int (f2 (f1 p0))), .val (.int (f2 (f1 p1))), .val (.int (gst p0 p1)), .val (.int (gpad p2)), .val (.ref b5), .val (.int (gmid p0 p1)), .val (.int (gfr p3)), .val (.int (gto p0 p1 p3 p4)), .unset] [(.int (gfr p3))])) _
          refine XS.bipush X25.here hx rfl (hb hby at_177) ?_
          show Steps p.tables e below (T25.setTop (mkF m 179 #[.val (.int p0), .val (.int p1), .val (.int p2), .val (.int p3), .val (.int p4), .val (.int (f1 p0)), .val (.int (f1 p1)), .val (.int (f2 (f1 p0))), .val (.int (f2 (f1 p1))), .val (.int (gst p0 p1)), .val (.int (gpad p2)), .val (.ref b5), .val (.int (gmid p0 p1)), .val (.int (gfr p3)), .val (.int (gto p0 p1 p3 p4)), .unset] [(.int (8 : Int32)), (.int (gfr p3))])) _
          refine XS.icmpNo X25.here hx rfl (hb hby at_179) rfl (teq hc33).2 ?_
          show Steps p.tables e below (T25.setTop (mkF m 182 #[.val (.int p0), .val (.int p1), .val (.int p2), .val (.int p3), .val (.int p4), .val (.int (f1 p0)), .val (.int (f1 p1)), .val (.int (f2 (f1 p0))), .val (.int (f2 (f1 p1))), .val (.int (gst p0 p1)), .val (.int (gpad p2)), .val (.ref b5), .val (.int (gmid p0 p1)), .val (.int (gfr p3)), .val (.int (gto p0 p1 p3 p4)), .unset] [])) _
          refine XS.iconst X25.here hx rfl (hb hby at_182) ?_
          show Steps p.tables e below (T25.setTop (mkF m 183 #[.val (.int p0), .val (.int p1), .val (.int p2), .val (.int p3), .val (.int p4), .val (.int (f1 p0)), .val (.int (f1 p1)), .val (.int (f2 (f1 p0))), .val (.int (f2 (f1 p1))), .val (.int (gst p0 p1)), .val (.int (gpad p2)), .val (.ref b5), .val (.int (gmid p0 p1)), .val (.int (gfr p3)), .val (.int (gto p0 p1 p3 p4)), .unset] [(.int (1 : Int32))])) _
          refine XS.goto X25.here hx rfl (pc0 := 183) (pc' := 187) rfl (hb hby at_183) (by decide) (by decide) ?_
          exact kt
        · skip
          simp only [gex, if_pos hc31, if_neg hc32, if_neg hc33] at kt
          refine K30 _ ?_
          show Steps p.tables e below (T25.setTop (mkF m 165 #[.val (.int p0), .val (.int p1), .val (.int p2), .val (.int p3), .val (.int p4), .val (.int (f1 p0)), .val (.int (f1 p1)), .val (.int (f2 (f1 p0))), .val (.int (f2 (f1 p1))), .val (.int (gst p0 p1)), .val (.int (gpad p2)), .val (.ref b5), .val (.int (gmid p0 p1)), .val (.int (gfr p3)), .val (.int (gto p0 p1 p3 p4)), .unset] [(.int (gst p0 p1)), (.int (gfr p3))])) _
          refine XS.icmpNo X25.here hx rfl (hb hby at_165) rfl (tlt hc31).2.2.2 ?_
          show Steps p.tables e below (T25.setTop (mkF m 168 #[.val (.int p0), .val (.int p1), .val (.int p2), .val (.int p3), .val (.int p4), .val (.int (f1 p0)), .val (.int (f1 p1)), .val (.int (f2 (f1 p0))), .val (.int (f2 (f1 p1))), .val (.int (gst p0 p1)), .val (.int (gpad p2)), .val (.ref b5), .val (.int (gmid p0 p1)), .val (.int (gfr p3)), .val (.int (gto p0 p1 p3 p4)), .unset] [])) _
          refine XS.iload X25.here hx rfl (hb hby at_168) rfl ?_
          show Steps p.tables e below (T25.setTop (mkF m 170 #[.val (.int p0), .val (.int p1), .val (.int p2), .val (.int p3), .val (.int p4), .val (.int (f1 p0)), .val (.int (f1 p1)), .val (.int (f2 (f1 p0))), .val (.int (f2 (f1 p1))), .val (.int (gst p0 p1)), .val (.int (gpad p2)), .val (.ref b5), .val (.int (gmid p0 p1)), .val (.int (gfr p3)), .val (.int (gto p0 p1 p3 p4)), .unset] [(.int (gfr p3))])) _
          refine XS.iload X25.here hx rfl (hb hby at_170) rfl ?_
          show Steps p.tables e below (T25.setTop (mkF m 172 #[.val (.int p0), .val (.int p1), .val (.int p2), .val (.int p3), .val (.int p4), .val (.int (f1 p0)), .val (.int (f1 p1)), .val (.int (f2 (f1 p0))), .val (.int (f2 (f1 p1))), .val (.int (gst p0 p1)), .val (.int (gpad p2)), .val (.ref b5), .val (.int (gmid p0 p1)), .val (.int (gfr p3)), .val (.int (gto p0 p1 p3 p4)), .unset] [(.int (gmid p0 p1)), (.int (gfr p3))])) _
          refine XS.icmpNo X25.here hx rfl (hb hby at_172) rfl (feq hc32).1 ?_
          show Steps p.tables e below (T25.setTop (mkF m 175 #[.val (.int p0), .val (.int p1), .val (.int p2), .val (.int p3), .val (.int p4), .val (.int (f1 p0)), .val (.int (f1 p1)), .val (.int (f2 (f1 p0))), .val (.int (f2 (f1 p1))), .val (.int (gst p0 p1)), .val (.int (gpad p2)), .val (.ref b5), .val (.int (gmid p0 p1)), .val (.int (gfr p3)), .val (.int (gto p0 p1 p3 p4)), .unset] [])) _
          refine XS.iload X25.here hx rfl (hb hby at_175) rfl ?_
          show Steps p.tables e below (T25.setTop (mkF m 177 #[.val (.int p0), .val (.int p1), .val (.int p2), .val (.int p3), .val (.int p4), .val (.int (f1 p0)), .val (.int (f1 p1)), .val (.int (f2 (f1 p0))), .val (.int (f2 (f1 p1))), .val (.int (gst p0 p1)), .val (.int (gpad p2)), .val (.ref b5), .val (.int (gmid p0 p1)), .val (.int (gfr p3)), .val (.int (gto p0 p1 p3 p4)), .unset] [(.int (gfr p3))])) _
          refine XS.bipush X25.here hx rfl (hb hby at_177) ?_
          show Steps p.tables e below (T25.setTop (mkF m 179 #[.val (.int p0), .val (.int p1), .val (.int p2), .val (.int p3), .val (.int p4), .val (.int (f1 p0)), .val (.int (f1 p1)), .val (.int (f2 (f1 p0))), .val (.int (f2 (f1 p1))), .val (.int (gst p0 p1)), .val (.int (gpad p2)), .val (.ref b5), .val (.int (gmid p0 p1)), .val (.int (gfr p3)), .val (.int (gto p0 p1 p3 p4)), .unset] [(.int (8 : Int32)), (.int (gfr p3))])) _
          refine XS.icmpYes X25.here hx rfl (pc0 := 179) (pc' := 186) rfl (hb hby at_179) rfl (feq hc33).2 (by decide) (by decide) ?_
          show Steps p.tables e below (T25.setTop (mkF m 186 #[.val (.int p0), .val (.int p1), .val (.int p2), .val (.int p3), .val (.int p4), .val (.int (f1 p0)), .val (.int (f1 p1)), .val (.int (f2 (f1 p0))), .val (.int (f2 (f1 p1))), .val (.int (gst p0 p1)), .val (.int (gpad p2)), .val (.ref b5), .val (.int (gmid p0 p1)), .val (.int (gfr p3)), .val (.int (gto p0 p1 p3 p4)), .unset] [])) _
          refine XS.iconst X25.here hx rfl (hb hby at_186) ?_
          exact kt
    · skip
      simp only [gex, if_neg hc31] at kt
      refine K30 _ ?_
      show Steps p.tables e below (T25.setTop (mkF m 165 #[.val (.int p0), .val (.int p1), .val (.int p2), .val (.int p3), .val (.int p4), .val (.int (f1 p0)), .val (.int (f1 p1)), .val (.int (f2 (f1 p0))), .val (.int (f2 (f1 p1))), .val (.int (gst p0 p1)), .val (.int (gpad p2)), .val (.ref b5), .val (.int (gmid p0 p1)), .val (.int (gfr p3)), .val (.int (gto p0 p1 p3 p4)), .unset] [(.int (gst p0 p1)), (.int (gfr p3))])) _
      refine XS.icmpYes X25.here hx rfl (pc0 := 165) (pc' := 182) rfl (hb hby at_165) rfl (flt hc31).2.2.2 (by decide) (by decide) ?_
      show Steps p.tables e below (T25.setTop (mkF m 182 #[.val (.int p0), .val (.int p1), .val (.int p2), .val (.int p3), .val (.int p4), .val (.int (f1 p0)), .val (.int (f1 p1)), .val (.int (f2 (f1 p0))), .val (.int (f2 (f1 p1))), .val (.int (gst p0 p1)), .val (.int (gpad p2)), .val (.ref b5), .val (.int (gmid p0 p1)), .val (.int (gfr p3)), .val (.int (gto p0 p1 p3 p4)), .unset] [])) _
      refine XS.iconst X25.here hx rfl (hb hby at_182) ?_
      show Steps p.tables e below (T25.setTop (mkF m 183 #[.val (.int p0), .val (.int p1), .val (.int p2), .val (.int p3), .val (.int p4), .val (.int (f1 p0)), .val (.int (f1 p1)), .val (.int (f2 (f1 p0))), .val (.int (f2 (f1 p1))), .val (.int (gst p0 p1)), .val (.int (gpad p2)), .val (.ref b5), .val (.int (gmid p0 p1)), .val (.int (gfr p3)), .val (.int (gto p0 p1 p3 p4)), .unset] [(.int (1 : Int32))])) _
      refine XS.goto X25.here hx rfl (pc0 := 183) (pc' := 187) rfl (hb hby at_183) (by decide) (by decide) ?_
      exact kt
  obtain ⟨_, _, ⟨T35, L35, k35, n35⟩, -, X35, ⟨Lc35, hQ35, l35, y35, z35⟩, st35⟩ := Jvm.LawKit.callS X25 hx (y := (⟨"com/example/seriestrace/seriestrace/marc/Utf8", "isUtf8Inside", "([BII)Z"⟩ : MethodName)) hown (mvT hZ (hw _ (List.mem_of_getElem? (i := 15) rfl))) (mvT hZ (hw _ (List.mem_of_getElem? (i := 16) rfl))) (mvT hZ (hw _ (List.mem_of_getElem? (i := 17) rfl))) (mvT hZ (hw _ (List.mem_of_getElem? (i := 18) rfl))) (by decide) (backOf (W := 0) (rm4 l Z a0 hw [] b5 (gfr p3) (gto p0 p1 p3 p4) (putF (putF (fun _ => nar .byte (gpad p2)) ((gst p0 p1).toInt.toNat) (f1 p0)) (((gst p0 p1) + (f2 (f1 p0))).toInt.toNat) (f1 p1)) ((gfr p3).toInt.toNat) T25.heap A25q (own_hi3 p3) (own_hn3 p0 p1 p3 p4)) hZ (hw _ (List.mem_of_getElem? (i := 18) rfl)) (hw _ (List.mem_of_getElem? (i := 17) rfl)) (by decide) (by decide)) (g := (mkF m 195 #[.val (.int p0), .val (.int p1), .val (.int p2), .val (.int p3), .val (.int p4), .val (.int (f1 p0)), .val (.int (f1 p1)), .val (.int (f2 (f1 p0))), .val (.int (f2 (f1 p1))), .val (.int (gst p0 p1)), .val (.int (gpad p2)), .val (.ref b5), .val (.int (gmid p0 p1)), .val (.int (gfr p3)), .val (.int (gto p0 p1 p3 p4)), .val (.int (gex p0 p1 p3))] [(.int (gto p0 p1 p3 p4)), (.int (gfr p3)), (.ref b5)])) rfl (by rw [hml]; rfl) (argsL := [(.ref b5), (.int (gfr p3)), (.int (gto p0 p1 p3 p4))]) (rest := []) (lenOf pd_2 rfl) rfl (by show 2 * 0 + _ ≤ _; exact Nat.le_of_eq rfl) (hb hby at_195) (fun _ _ => ⟨rfl, rfl, (by decide : 1 + 0 ≤ _), (by decide : 8 + 0 ≤ _)⟩)
  dsimp only [Pt.U, Pt.locs, Pt.cells, Pt.slots] at X35 l35 y35 z35 st35 hQ35
  subst l35 y35 z35
  obtain ⟨rfl, rfl, e35⟩ := hQ35
  try rw [List.append_nil] at X35
  have K36 : ∀ t, Steps p.tables e below (T35.setTop (mkF m 208 #[.val (.int p0), .val (.int p1), .val (.int p2), .val (.int p3), .val (.int p4), .val (.int (f1 p0)), .val (.int (f1 p1)), .val (.int (f2 (f1 p0))), .val (.int (f2 (f1 p1))), .val (.int (gst p0 p1)), .val (.int (gpad p2)), .val (.ref b5), .val (.int (gmid p0 p1)), .val (.int (gfr p3)), .val (.int (gto p0 p1 p3 p4)), .val (.int (gex p0 p1 p3))] [(.int (1 : Int32))])) t → Steps p.tables e below (s₁.setTop (mkF m 0 #[.val (.int p0), .val (.int p1), .val (.int p2), .val (.int p3), .val (.int p4), .unset, .unset, .unset, .unset, .unset, .unset, .unset, .unset, .unset, .unset, .unset] [])) t := by
    intro t kt
    refine K34 _ ?_
    show Steps p.tables e below (T25.setTop (mkF m 187 #[.val (.int p0), .val (.int p1), .val (.int p2), .val (.int p3), .val (.int p4), .val (.int (f1 p0)), .val (.int (f1 p1)), .val (.int (f2 (f1 p0))), .val (.int (f2 (f1 p1))), .val (.int (gst p0 p1)), .val (.int (gpad p2)), .val (.ref b5), .val (.int (gmid p0 p1)), .val (.int (gfr p3)), .val (.int (gto p0 p1 p3 p4)), .unset] [(.int (gex p0 p1 p3))])) _
    refine XS.istore X25.here hx rfl (hb hby at_187) rfl (l' := #[.val (.int p0), .val (.int p1), .val (.int p2), .val (.int p3), .val (.int p4), .val (.int (f1 p0)), .val (.int (f1 p1)), .val (.int (f2 (f1 p0))), .val (.int (f2 (f1 p1))), .val (.int (gst p0 p1)), .val (.int (gpad p2)), .val (.ref b5), .val (.int (gmid p0 p1)), .val (.int (gfr p3)), .val (.int (gto p0 p1 p3 p4)), .val (.int (gex p0 p1 p3))]) rfl ?_
    show Steps p.tables e below (T25.setTop (mkF m 189 #[.val (.int p0), .val (.int p1), .val (.int p2), .val (.int p3), .val (.int p4), .val (.int (f1 p0)), .val (.int (f1 p1)), .val (.int (f2 (f1 p0))), .val (.int (f2 (f1 p1))), .val (.int (gst p0 p1)), .val (.int (gpad p2)), .val (.ref b5), .val (.int (gmid p0 p1)), .val (.int (gfr p3)), .val (.int (gto p0 p1 p3 p4)), .val (.int (gex p0 p1 p3))] [])) _
    refine XS.aload X25.here hx rfl (hb hby at_189) rfl rfl ?_
    show Steps p.tables e below (T25.setTop (mkF m 191 #[.val (.int p0), .val (.int p1), .val (.int p2), .val (.int p3), .val (.int p4), .val (.int (f1 p0)), .val (.int (f1 p1)), .val (.int (f2 (f1 p0))), .val (.int (f2 (f1 p1))), .val (.int (gst p0 p1)), .val (.int (gpad p2)), .val (.ref b5), .val (.int (gmid p0 p1)), .val (.int (gfr p3)), .val (.int (gto p0 p1 p3 p4)), .val (.int (gex p0 p1 p3))] [(.ref b5)])) _
    refine XS.iload X25.here hx rfl (hb hby at_191) rfl ?_
    show Steps p.tables e below (T25.setTop (mkF m 193 #[.val (.int p0), .val (.int p1), .val (.int p2), .val (.int p3), .val (.int p4), .val (.int (f1 p0)), .val (.int (f1 p1)), .val (.int (f2 (f1 p0))), .val (.int (f2 (f1 p1))), .val (.int (gst p0 p1)), .val (.int (gpad p2)), .val (.ref b5), .val (.int (gmid p0 p1)), .val (.int (gfr p3)), .val (.int (gto p0 p1 p3 p4)), .val (.int (gex p0 p1 p3))] [(.int (gfr p3)), (.ref b5)])) _
    refine XS.iload X25.here hx rfl (hb hby at_193) rfl ?_
    show Steps p.tables e below (T25.setTop (mkF m 195 #[.val (.int p0), .val (.int p1), .val (.int p2), .val (.int p3), .val (.int p4), .val (.int (f1 p0)), .val (.int (f1 p1)), .val (.int (f2 (f1 p0))), .val (.int (f2 (f1 p1))), .val (.int (gst p0 p1)), .val (.int (gpad p2)), .val (.ref b5), .val (.int (gmid p0 p1)), .val (.int (gfr p3)), .val (.int (gto p0 p1 p3 p4)), .val (.int (gex p0 p1 p3))] [(.int (gto p0 p1 p3 p4)), (.int (gfr p3)), (.ref b5)])) _
    refine st35 _ ?_
    show Steps p.tables e below (T35.setTop (mkF m 198 #[.val (.int p0), .val (.int p1), .val (.int p2), .val (.int p3), .val (.int p4), .val (.int (f1 p0)), .val (.int (f1 p1)), .val (.int (f2 (f1 p0))), .val (.int (f2 (f1 p1))), .val (.int (gst p0 p1)), .val (.int (gpad p2)), .val (.ref b5), .val (.int (gmid p0 p1)), .val (.int (gfr p3)), .val (.int (gto p0 p1 p3 p4)), .val (.int (gex p0 p1 p3))] [(.int (f4 (gfr p3) (gto p0 p1 p3 p4) (putF (putF (fun _ => nar .byte (gpad p2)) ((gst p0 p1).toInt.toNat) (f1 p0)) (((gst p0 p1) + (f2 (f1 p0))).toInt.toNat) (f1 p1)) ((gfr p3).toInt.toNat)))])) _
    refine XS.iload X35.here hx rfl (hb hby at_198) rfl ?_
    show Steps p.tables e below (T35.setTop (mkF m 200 #[.val (.int p0), .val (.int p1), .val (.int p2), .val (.int p3), .val (.int p4), .val (.int (f1 p0)), .val (.int (f1 p1)), .val (.int (f2 (f1 p0))), .val (.int (f2 (f1 p1))), .val (.int (gst p0 p1)), .val (.int (gpad p2)), .val (.ref b5), .val (.int (gmid p0 p1)), .val (.int (gfr p3)), .val (.int (gto p0 p1 p3 p4)), .val (.int (gex p0 p1 p3))] [(.int (gex p0 p1 p3)), (.int (f4 (gfr p3) (gto p0 p1 p3 p4) (putF (putF (fun _ => nar .byte (gpad p2)) ((gst p0 p1).toInt.toNat) (f1 p0)) (((gst p0 p1) + (f2 (f1 p0))).toInt.toNat) (f1 p1)) ((gfr p3).toInt.toNat)))])) _
    refine XS.icmpNo X35.here hx rfl (hb hby at_200) rfl (teq (show (f4 (gfr p3) (gto p0 p1 p3 p4) (putF (putF (fun _ => nar .byte (gpad p2)) ((gst p0 p1).toInt.toNat) (f1 p0)) (((gst p0 p1) + (f2 (f1 p0))).toInt.toNat) (f1 p1)) ((gfr p3).toInt.toNat)) = (gex p0 p1 p3) from (own_law p0 p1 p2 p3 p4))).2 ?_
    show Steps p.tables e below (T35.setTop (mkF m 203 #[.val (.int p0), .val (.int p1), .val (.int p2), .val (.int p3), .val (.int p4), .val (.int (f1 p0)), .val (.int (f1 p1)), .val (.int (f2 (f1 p0))), .val (.int (f2 (f1 p1))), .val (.int (gst p0 p1)), .val (.int (gpad p2)), .val (.ref b5), .val (.int (gmid p0 p1)), .val (.int (gfr p3)), .val (.int (gto p0 p1 p3 p4)), .val (.int (gex p0 p1 p3))] [])) _
    refine XS.iconst X35.here hx rfl (hb hby at_203) ?_
    show Steps p.tables e below (T35.setTop (mkF m 204 #[.val (.int p0), .val (.int p1), .val (.int p2), .val (.int p3), .val (.int p4), .val (.int (f1 p0)), .val (.int (f1 p1)), .val (.int (f2 (f1 p0))), .val (.int (f2 (f1 p1))), .val (.int (gst p0 p1)), .val (.int (gpad p2)), .val (.ref b5), .val (.int (gmid p0 p1)), .val (.int (gfr p3)), .val (.int (gto p0 p1 p3 p4)), .val (.int (gex p0 p1 p3))] [(.int (1 : Int32))])) _
    refine XS.goto X35.here hx rfl (pc0 := 204) (pc' := 208) rfl (hb hby at_204) (by decide) (by decide) ?_
    exact kt
  obtain ⟨fs, hr, hrun, hended, hW, hsame⟩ := X35.leave (v := some (.int (1 : Int32))) (fun h => by rw [Bd.returns] at h; cases h)
  refine ⟨_, _, pre0 _ (K36 _ ?_), hrun, hended, _, _, rfl, ?_, ⟨_, rfl⟩, hW, hsame.mono (by decide) (by decide)⟩
  · show Steps p.tables e below (T35.setTop (mkF m 208 #[.val (.int p0), .val (.int p1), .val (.int p2), .val (.int p3), .val (.int p4), .val (.int (f1 p0)), .val (.int (f1 p1)), .val (.int (f2 (f1 p0))), .val (.int (f2 (f1 p1))), .val (.int (gst p0 p1)), .val (.int (gpad p2)), .val (.ref b5), .val (.int (gmid p0 p1)), .val (.int (gfr p3)), .val (.int (gto p0 p1 p3 p4)), .val (.int (gex p0 p1 p3))] [(.int (1 : Int32))])) _
    exact retN X35 hx (t := .boolean) Bd.returns (by simp) (hb hby at_208) hr
  · show Q0 Z p0 p1 p2 p3 p4  h0 n0 _ T35.heap _
    rw [e35]
    exact ⟨rfl, N25⟩
set_option maxRecDepth 65536 in
set_option maxHeartbeats 40000000 in
theorem comes_1 {Post : Tables → Env → Array Value → State → Outcome → State → Prop} (hpost : ∀ tb e args s v u, (limb_1_1.after args s (.returned v) u = true ∧ limb_1_2.after args s (.returned v) u = true ∧ True) → FrameEnd s (.returned v) u (Jvm.fieldLocs frame_1_writes args s ++ Jvm.arrayLocs frame_1_arrays args s ++ Jvm.staticLocs frame_1_statics s) 16 128 → Post tb e args s (.returned v) u) :
    ArmFor flags0 classFile x code maxLocals ret World_1 tables_1 room_1 Calls_1 rest_1 Pre_1 Post := by
  intro l hfl _ _ p e ha hc hk s m args below hf hA hF happ hP
  obtain ⟨hcalls, hrest, hpre⟩ := hP
  obtain ⟨-, -, -, hnamed, -, -, -, hat⟩ := (Spec.applies_iff hf).mp happ
  obtain ⟨hg, hn⟩ := and_e (Cond.before_iff.mp (show (Jvm.Cond.and given_1 narrow_1).before args s = true from hpre))
  obtain ⟨hcount, hk0⟩ := and_e hg
  obtain ⟨hi0, hk1⟩ := and_e hk0
  obtain ⟨hi1, hk2⟩ := and_e hk1
  obtain ⟨hi2, hk3⟩ := and_e hk2
  obtain ⟨hi3, hk4⟩ := and_e hk3
  have hi4 := hk4
  obtain ⟨w0, w1, w2, w3, w4, rfl⟩ : ∃ w0 w1 w2 w3 w4 : Value, args = #[w0, w1, w2, w3, w4] := by
    have hs : args.size = 5 := by simpa [Cond.value, given_1] using hcount
    obtain ⟨L⟩ := args
    match L, hs with
    | [w0, w1, w2, w3, w4], _ => exact ⟨w0, w1, w2, w3, w4, rfl⟩
  have hw := fun d (hd : d ∈ tables_1) => atoms_spec (ws := Jvm.Cond.code x code maxLocals ret :: tables_1) hat d (List.mem_cons_of_mem _ hd)
  obtain ⟨i0, ei0⟩ := is_v hi0
  obtain rfl : w0 = (.int i0) := Option.some.inj ei0
  obtain ⟨i1, ei1⟩ := is_v hi1
  obtain rfl : w1 = (.int i1) := Option.some.inj ei1
  obtain ⟨i2, ei2⟩ := is_v hi2
  obtain rfl : w2 = (.int i2) := Option.some.inj ei2
  obtain ⟨i3, ei3⟩ := is_v hi3
  obtain rfl : w3 = (.int i3) := Option.some.inj ei3
  obtain ⟨i4, ei4⟩ := is_v hi4
  obtain rfl : w4 = (.int i4) := Option.some.inj ei4
  obtain ⟨n, o, h1, h2, h3, v, L, rfl, hQ, hq⟩ := rm0 l s _ hw tables_1 i0 i1 i2 i3 i4 s.heap s.heap.size (Nat.le_refl _) p e ha hc hk s m _ below hf ((Spec.applies_iff_loose hf).mp happ).1 ⟨rfl, State.Warmed39.refl s, rfl⟩ trivial
  obtain ⟨rfl, N⟩ : v = some (.int 1) ∧ Fr s.heap.size L := by
    exact ⟨hQ.1, hQ.2⟩
  refine ⟨n, _, h1, h2, h3, hpost _ _ _ _ _ _ ⟨Cond.after_iff.mpr rfl, Cond.after_iff.mpr (eq_i res_at (Term.int_eval (1)) rfl), trivial⟩ ⟨hq.1, hq.2.1, (hq.2.2.sift fun y hy => Or.inr (N y hy)).mono (by decide) (by decide)⟩⟩
theorem main_1_1 : Claimed_1_1 := comes_1 fun _ _ _ _ _ _ h hF => ⟨h.1, hF⟩
theorem main_1_2 : Claimed_1_2 := comes_1 fun _ _ _ _ _ _ h hF => ⟨h.2.1, hF⟩
end Jvm.Pilot.@@N@@
namespace Jvm.Pilot.@@N@@
open Jvm Jvm.ClassFile Sem Op Lib Jvm.Free Jvm.Stand Jvm.Pilot.@@N@@.Jvm.D
/-! MADE BY PROGRAM (witnessworld.py) out of the Statement's table words and the real class files: 9 classes; the members and pool entries that the words name. The judged class is class 1, her method 4. -/
namespace start1
open Jvm.ClassFile
def u (s : String) : CpInfo := .utf8 (stringToUtf16 s)
/-- a pool by its gaps: so many unusable entries, then the entry; so many at the end -/
def gap : Nat → List CpInfo → List CpInfo
  | 0, r => r
  | n + 1, r => .unusable :: gap n r
def poolList (es : List (Nat × CpInfo)) (last : Nat) : List CpInfo := es.foldr (fun e r => gap e.1 (e.2 :: r)) (gap last [])
def pool (es : List (Nat × CpInfo)) (last : Nat) : Array CpInfo := ⟨poolList es last⟩
def fileOf (pool : Array CpInfo) (this : Nat) (attrs : Array Attribute := #[]) (ms : Array MethodInfo := #[]) (fl : Nat := 33) (sup : Nat := 0) (ifs : Array Nat := #[]) (fds : Array FieldInfo := #[]) : ClassFile where
  minorVersion := 0
  majorVersion := 65
  constantPool := pool
  accessFlags := fl
  thisClass := this
  superClass := sup
  interfaces := ifs
  fields := fds
  methods := ms
  attributes := attrs
def plain (name : String) (sup : Option ClassId) : Class where
  name := name
  kind := .ordinary
  loader := none
  accessFlags := 33
  super := sup
  interfaces := #[]
  cf := none
  fields := #[]
  methods := #[]
  instanceTypes := #[]
  staticTypes := #[]
  resolved := #[]
  callSites := []
  init := .initialized
  statics := none
  mirror := none

def pool0 : Array CpInfo := pool [(5, u "<init>"), (0, u "()V"), (1, .class_ 10), (1, u "java/lang/Object")] 113

def k0m0 : Method := { name := "<init>", desc := "()V", sig := { parameters := [], returnType := none }, accessFlags := 1, code := none }
/-- java/lang/Object -/
def k0 : Class := { plain "java/lang/Object" none with
  accessFlags := 33
  interfaces := #[]
  cf := some (fileOf pool0 8 #[] #[{ accessFlags := 1, nameIndex := 5, descriptorIndex := 6, attributes := #[] }] 33 0 #[] #[])
  fields := #[]
  methods := #[k0m0]
  instanceTypes := #[]
  staticTypes := #[]
  resolved := Array.replicate 124 none
  statics := none }

def pool1 : Array CpInfo := pool [(2, .class_ 4), (1, u "java/lang/Object"), (0, u "<init>"), (0, u "()V"), (0, .integer 2097151), (0, .integer 1114112), (0, .integer 55296), (0, .integer 57343), (0, .integer 65536), (0, .methodref 13 14), (0, .class_ 15), (0, .nameAndType 16 17), (0, u "com/example/seriestrace/seriestrace/marc/Utf8IsUtf8InsidePinLaw"), (0, u "len"), (0, u "(I)I"), (0, .methodref 13 19), (0, .nameAndType 20 17), (0, u "scalar"), (0, .methodref 13 22), (0, .nameAndType 23 24), (0, u "put"), (0, u "([BII)V"), (0, .integer 2147483647), (0, .methodref 27 28), (0, .class_ 29), (0, .nameAndType 30 31), (0, u "com/example/seriestrace/seriestrace/marc/Utf8"), (0, u "isUtf8Inside"), (0, u "([BII)Z"), (3, u "law"), (0, u "(IIIII)Z")] 4

def k1m0 : Method := { name := "<init>", desc := "()V", sig := { parameters := [], returnType := none }, accessFlags := 1, code := none }
def k1c1 : Code := { maxStack := 2, maxLocals := 2, code := method_2_code, exceptionTable := #[], attributes := #[] }
def k1m1 : Method := { name := "scalar", desc := "(I)I", sig := { parameters := [.int], returnType := some .int }, accessFlags := 10, code := some k1c1 }
def k1c2 : Code := { maxStack := 2, maxLocals := 1, code := method_3_code, exceptionTable := #[], attributes := #[] }
def k1m2 : Method := { name := "len", desc := "(I)I", sig := { parameters := [.int], returnType := some .int }, accessFlags := 10, code := some k1c2 }
def k1c3 : Code := { maxStack := 5, maxLocals := 4, code := method_4_code, exceptionTable := #[], attributes := #[] }
def k1m3 : Method := { name := "put", desc := "([BII)V", sig := { parameters := [(.array .byte), .int, .int], returnType := none }, accessFlags := 10, code := some k1c3 }
def k1c4 : Code := { maxStack := 3, maxLocals := 16, code := code, exceptionTable := #[], attributes := #[] }
def k1m4 : Method := { name := "law", desc := "(IIIII)Z", sig := { parameters := [.int, .int, .int, .int, .int], returnType := some .boolean }, accessFlags := 9, code := some k1c4 }
/-- com/example/seriestrace/seriestrace/marc/Utf8IsUtf8InsidePinLaw -/
def k1 : Class := { plain "com/example/seriestrace/seriestrace/marc/Utf8IsUtf8InsidePinLaw" (some 0) with
  accessFlags := 49
  interfaces := #[]
  cf := some (fileOf pool1 13 #[] #[{ accessFlags := 1, nameIndex := 5, descriptorIndex := 6, attributes := #[] }, { accessFlags := 10, nameIndex := 20, descriptorIndex := 17, attributes := #[] }, { accessFlags := 10, nameIndex := 16, descriptorIndex := 17, attributes := #[] }, { accessFlags := 10, nameIndex := 23, descriptorIndex := 24, attributes := #[] }, { accessFlags := 9, nameIndex := 35, descriptorIndex := 36, attributes := #[] }] 49 2 #[] #[])
  fields := #[]
  methods := #[k1m0, k1m1, k1m2, k1m3, k1m4]
  instanceTypes := #[]
  staticTypes := #[]
  resolved := Array.replicate 41 none
  statics := none }

def pool2 : Array CpInfo := pool [(2, .class_ 4), (1, u "java/lang/Object"), (0, u "<init>"), (0, u "()V"), (0, .class_ 8), (0, u "com/example/seriestrace/seriestrace/marc/Utf8"), (10, u "([BII)Z"), (21, u "REPLACEMENT"), (0, u "C"), (6, u "isUtf8Inside")] 4

def k2m0 : Method := { name := "<init>", desc := "()V", sig := { parameters := [], returnType := none }, accessFlags := 2, code := none }
def k2c1 : Code := { maxStack := 2, maxLocals := 3, code := prog_51_method_4_code, exceptionTable := #[], attributes := #[] }
def k2m1 : Method := { name := "isUtf8Inside", desc := "([BII)Z", sig := { parameters := [(.array .byte), .int, .int], returnType := some .boolean }, accessFlags := 8, code := some k2c1 }
/-- com/example/seriestrace/seriestrace/marc/Utf8 -/
def k2 : Class := { plain "com/example/seriestrace/seriestrace/marc/Utf8" (some 0) with
  accessFlags := 48
  interfaces := #[]
  cf := some (fileOf pool2 7 #[] #[{ accessFlags := 2, nameIndex := 5, descriptorIndex := 6, attributes := #[] }, { accessFlags := 8, nameIndex := 49, descriptorIndex := 19, attributes := #[] }] 48 2 #[] #[{ accessFlags := 24, nameIndex := 41, descriptorIndex := 42, attributes := #[] }])
  fields := #[{ name := "REPLACEMENT", type := .char, accessFlags := 24, slot := 0, constantValue := 0 }]
  methods := #[k2m0, k2m1]
  instanceTypes := #[]
  staticTypes := #[.char]
  resolved := Array.replicate 54 none
  statics := none }

def pool3 : Array CpInfo := pool [(1, u "java/lang/Cloneable"), (0, .class_ 1), (0, u "java/lang/Object"), (0, .class_ 3)] 3

/-- java/lang/Cloneable -/
def k3 : Class := { plain "java/lang/Cloneable" (some 0) with
  accessFlags := 1537
  interfaces := #[]
  cf := some (fileOf pool3 2 #[] #[] 1537 4 #[] #[])
  fields := #[]
  methods := #[]
  instanceTypes := #[]
  staticTypes := #[]
  resolved := Array.replicate 8 none
  statics := none }

def pool4 : Array CpInfo := pool [(1, u "java/io/Serializable"), (0, .class_ 1), (0, u "java/lang/Object"), (0, .class_ 3)] 3

/-- java/io/Serializable -/
def k4 : Class := { plain "java/io/Serializable" (some 0) with
  accessFlags := 1537
  interfaces := #[]
  cf := some (fileOf pool4 2 #[] #[] 1537 4 #[] #[])
  fields := #[]
  methods := #[]
  instanceTypes := #[]
  staticTypes := #[]
  resolved := Array.replicate 8 none
  statics := none }

/-- the primitive byte -/
def k5 : Class := { plain "byte" none with kind := .primitive 'B', accessFlags := 0x411 }
/-- [B -/
def k6 : Class := { plain "[B" (some 0) with kind := .array 5 .byte, interfaces := #[3, 4], accessFlags := 1041 }

/-- the primitive int -/
def k7 : Class := { plain "int" none with kind := .primitive 'I', accessFlags := 0x411 }
/-- [I -/
def k8 : Class := { plain "[I" (some 0) with kind := .array 7 .int, interfaces := #[3, 4], accessFlags := 1041 }

def heap : Heap := #[]
def classes : Array Class := #[k0, k1, k2, k3, k4, k5, k6, k7, k8]
def interned : List (Array UInt16 × Addr) := []
def slotsUsed : Nat := 0
def theMethod : MethodId := ⟨1, 4⟩
def args0 : Array Value := #[.int 5, .int 5, .int 5, .int 5, .int 5]
def aboutOver (below : List Frame) : State where
  vm := { classes := classes, interned := interned.toArray }
  heap := heap
  slotsUsed := slotsUsed
  threads := #[{ frames := .invoking theMethod args0 :: below }]
def below0 : List Frame := [.native { method := ⟨0, 0⟩, args := #[] }]
def about1 : State := aboutOver below0
def p0 : Program := .bare "" "" ""
def e0 : Env := launch0.env 0 0 0
theorem w_frames : about1.frames = Frame.invoking theMethod args0 :: below0 := rfl
set_option maxRecDepth 65536 in
theorem w_args : argsFit about1.vm theMethod args0 = true := by decide +kernel
set_option maxRecDepth 65536 in
theorem w_heap : heapFits about1 = true := by decide +kernel
set_option maxRecDepth 65536 in
theorem w_runnable : about1.curStatus? = some .runnable := by decide +kernel
set_option maxRecDepth 65536 in
theorem w_alone : about1.alone = true := by decide +kernel
set_option maxRecDepth 65536 in
theorem w_named : about1.methodNamed? x = some theMethod := by decide +kernel
set_option maxRecDepth 65536 in
theorem w_hears : about1.hears theMethod below0 = true := by decide +kernel
set_option maxRecDepth 65536 in
theorem w_ripe : about1.ripe theMethod args0 below0 = true := by decide +kernel
theorem w_running : about1.status = .running := rfl
set_option maxRecDepth 65536 in
theorem w_room : about1.hasRoom e0.platform room_1 = true :=
  launch0.hasRoom_least _ room_1 (by decide +kernel) (by decide +kernel) (by decide +kernel) (by decide +kernel) (by decide +kernel) (by decide +kernel)
theorem allAtoms_all (ts : List Jvm.Cond) (a : Array Jvm.Value) (st : Jvm.State) : (allAtoms ts).before a st = ts.all (fun c => c.before a st) := by
  induction ts with
  | nil => rfl
  | cons c t ih =>
    show (Jvm.Cond.and c (allAtoms t)).before a st = _
    rw [Jvm.Cond.before_and, ih, List.all_cons]
def words1 : List Jvm.Cond := Jvm.Cond.code x code maxLocals ret :: tables_1
/-- a 'code' word, met by the world's own term for the bytes: nothing is compared byte by byte -/
theorem code_word {y : MethodName} {bytes : ByteArray} {mx : Nat} {rt : Option FieldType} {a : Array Value} {s : State} {m : MethodId} {meth : Method} {c : Code} (h1 : s.methodNamed? y = some m) (h2 : s.vm.method? m = some meth) (h3 : meth.code = some c) (h4 : c.code = bytes)
    (h5 : (c.maxLocals == mx && c.exceptionTable.isEmpty && decide (c.maxStack ≤ mostOperands) && decide (meth.sig.returnType = rt) && !meth.locks && decide (parseMethodDescriptor y.desc = some meth.sig)) = true) : (Jvm.Cond.code y bytes mx rt).before a s = true := by
  simp only [Bool.and_eq_true, beq_iff_eq, Bool.not_eq_true', decide_eq_true_eq] at h5
  obtain ⟨⟨⟨⟨⟨g1, g2⟩, g3⟩, g4⟩, g5⟩, g6⟩ := h5
  simp [Cond.before, Cond.holds, Cond.value, h1, h2, h3, h4, g1, g2, g3, g4, g5, g6]
def isCode : Jvm.Cond → Bool
  | .code _ _ _ _ => true
  | _ => false
theorem all_split {L : List Jvm.Cond} {P : Jvm.Cond → Bool} (h1 : L.all (fun c => isCode c || P c) = true) (h2 : ∀ c ∈ L.filter isCode, P c = true) : L.all P = true := by
  refine List.all_eq_true.mpr fun c hc => ?_
  have h := List.all_eq_true.mp h1 c hc
  rcases Bool.eq_false_or_eq_true (isCode c) with hi | hi
  · exact h2 c (List.mem_filter.mpr ⟨hc, hi⟩)
  · simpa [hi] using h
set_option maxRecDepth 65536 in
theorem w_c0 : (Jvm.Cond.code x code maxLocals ret).before args0 about1 = true := code_word (m := ⟨1, 4⟩) (meth := k1m4) (c := k1c4) (by decide +kernel) rfl rfl rfl (by decide +kernel)
set_option maxRecDepth 65536 in
theorem w_c1 : (Jvm.Cond.code ({ cls := "com/example/seriestrace/seriestrace/marc/Utf8IsUtf8InsidePinLaw", name := "scalar", desc := "(I)I" } : Jvm.MethodName) method_2_code (2 : Nat) (Option.some Jvm.ClassFile.FieldType.int)).before args0 about1 = true := code_word (m := ⟨1, 1⟩) (meth := k1m1) (c := k1c1) (by decide +kernel) rfl rfl rfl (by decide +kernel)
set_option maxRecDepth 65536 in
theorem w_c2 : (Jvm.Cond.code ({ cls := "com/example/seriestrace/seriestrace/marc/Utf8IsUtf8InsidePinLaw", name := "len", desc := "(I)I" } : Jvm.MethodName) method_3_code (1 : Nat) (Option.some Jvm.ClassFile.FieldType.int)).before args0 about1 = true := code_word (m := ⟨1, 2⟩) (meth := k1m2) (c := k1c2) (by decide +kernel) rfl rfl rfl (by decide +kernel)
set_option maxRecDepth 65536 in
theorem w_c3 : (Jvm.Cond.code ({ cls := "com/example/seriestrace/seriestrace/marc/Utf8IsUtf8InsidePinLaw", name := "put", desc := "([BII)V" } : Jvm.MethodName) method_4_code (4 : Nat) (Option.none : Option Jvm.ClassFile.FieldType)).before args0 about1 = true := code_word (m := ⟨1, 3⟩) (meth := k1m3) (c := k1c3) (by decide +kernel) rfl rfl rfl (by decide +kernel)
set_option maxRecDepth 65536 in
theorem w_c4 : (Jvm.Cond.code ({ cls := "com/example/seriestrace/seriestrace/marc/Utf8", name := "isUtf8Inside", desc := "([BII)Z" } : Jvm.MethodName) prog_51_method_4_code (3 : Nat) (Option.some Jvm.ClassFile.FieldType.boolean)).before args0 about1 = true := code_word (m := ⟨2, 1⟩) (meth := k2m1) (c := k2c1) (by decide +kernel) rfl rfl rfl (by decide +kernel)
def codes1 : List Jvm.Cond := [Jvm.Cond.code x code maxLocals ret, Jvm.Cond.code ({ cls := "com/example/seriestrace/seriestrace/marc/Utf8IsUtf8InsidePinLaw", name := "scalar", desc := "(I)I" } : Jvm.MethodName) method_2_code (2 : Nat) (Option.some Jvm.ClassFile.FieldType.int), Jvm.Cond.code ({ cls := "com/example/seriestrace/seriestrace/marc/Utf8IsUtf8InsidePinLaw", name := "len", desc := "(I)I" } : Jvm.MethodName) method_3_code (1 : Nat) (Option.some Jvm.ClassFile.FieldType.int), Jvm.Cond.code ({ cls := "com/example/seriestrace/seriestrace/marc/Utf8IsUtf8InsidePinLaw", name := "put", desc := "([BII)V" } : Jvm.MethodName) method_4_code (4 : Nat) (Option.none : Option Jvm.ClassFile.FieldType), Jvm.Cond.code ({ cls := "com/example/seriestrace/seriestrace/marc/Utf8", name := "isUtf8Inside", desc := "([BII)Z" } : Jvm.MethodName) prog_51_method_4_code (3 : Nat) (Option.some Jvm.ClassFile.FieldType.boolean)]
set_option maxRecDepth 65536 in
theorem codes_eq : words1.filter isCode = codes1 := rfl
theorem w_codes : ∀ c ∈ words1.filter isCode, c.before args0 about1 = true := by
  rw [codes_eq]
  intro c hc
  simp only [codes1, List.mem_cons, List.not_mem_nil, or_false] at hc
  rcases hc with rfl | rfl | rfl | rfl | rfl
  · exact w_c0
  · exact w_c1
  · exact w_c2
  · exact w_c3
  · exact w_c4
set_option maxRecDepth 65536 in
theorem w_t1 : words1.all (fun c => isCode c || c.before args0 about1) = true := by decide +kernel
theorem w_tables : (allAtoms (Jvm.Cond.code x code maxLocals ret :: tables_1)).before args0 about1 = true := by
  rw [allAtoms_all]
  show words1.all (fun c => c.before args0 about1) = true
  refine all_split ?_ w_codes
  rw [w_t1]
set_option maxRecDepth 65536 in
theorem w_case : (Jvm.Cond.and given_1 narrow_1).before args0 about1 = true := by decide +kernel
theorem w_applies : (headSpec (Jvm.Cond.code x code maxLocals ret :: tables_1) room_1).applies x e0.platform about1 = true :=
  (Spec.applies_iff w_frames).mpr ⟨w_running, w_runnable, w_alone, w_named, w_hears, w_ripe, w_room, w_tables⟩
theorem atStart : AtStart classFile x code maxLocals ret World_1 tables_1 room_1 Calls_1 rest_1 Pre_1 launch0 p0 e0 about1 theMethod args0 below0 :=
  ⟨lists_1, trivial, launch0.admits_env _ _ _, launch0.least_env, fairChoices_fair.cas, fairChoices_fair.clock, w_frames, w_args, w_heap, w_applies, trivial, trivial, w_case⟩
end start1
theorem witness_1 : WitnessClaimed_1 := ⟨start1.p0, start1.e0, start1.about1, start1.theMethod, start1.args0, start1.below0, start1.atStart⟩
end Jvm.Pilot.@@N@@
