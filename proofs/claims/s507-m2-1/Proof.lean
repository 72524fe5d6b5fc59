import JvmDerived
import JvmDerived.Pilot.@@N@@Statement
import JvmDerived.Pilot.@@N@@Code
set_option linter.unusedVariables false
set_option linter.unusedSimpArgs false
namespace Jvm.Pilot.@@N@@
open Jvm Jvm.ClassFile Sem Op Lib Jvm.Free Jvm.Stand Jvm.LawKit Jvm.RoadKit Bundle Jvm.Pilot.@@N@@.Jvm.D
-- BY HAND: an array of ints, bytes or chars, by the function that says what lies in each place
def up (f : Nat → Int32) (i : Nat) (v : Int32) : Nat → Int32 := fun j => if j = i then v else f j
theorem up_at (f : Nat → Int32) (i : Nat) (v : Int32) : up f i v i = v := if_pos rfl
theorem up_ne (f : Nat → Int32) {i j : Nat} (v : Int32) (h : j ≠ i) : up f i v j = f j := if_neg h
def Ia (Z : State) (h : Heap) (a : Addr) (ty : FieldType) (n : Nat) (f : Nat → Int32) : Prop :=
  ∃ c : Cell, Arr Z h a c ty ∧ c.slots.size = n ∧ n < 2147483648 ∧ ∀ j, j < n → c.slots[j]? = some (.int (f j)) ∧ fits ty (.int (f j)) = true
theorem clamp_of {j : Int32} {i : Nat} (h : j.toInt = (i : Int)) : j.toNatClampNeg = i := by
  rw [Int32.toNatClampNeg, h]; rfl
theorem inb {j : Int32} {i n : Nat} {c : Cell} (h : j.toInt = (i : Int)) (hn : i < n) (S : c.slots.size = n) : ¬ (j < 0 ∨ c.slots.size ≤ j.toNatClampNeg) := by
  rw [clamp_of h, Int32.lt_iff_toInt_lt, h, S, show (0 : Int32).toInt = 0 from rfl]
  omega
section OwnArr
variable {Z : State} {h h' : Heap} {a b : Addr} {ty : FieldType} {n : Nat} {f : Nat → Int32} {ws : List Addr} {sl : Nat} {v : Value}
theorem Ia.lt (F : Ia Z h a ty n f) : a < h.size := by obtain ⟨c, A, -⟩ := F; exact A.lt
theorem Ia.ext (F : Ia Z h a ty n f) (E : Ext h h') : Ia Z h' a ty n f := by obtain ⟨c, A, r⟩ := F; exact ⟨c, A.ext E, r⟩
theorem Ia.other (F : Ia Z h b ty n f) (W : Wr h h' a sl v) (q : b ≠ a) : Ia Z h' b ty n f := by obtain ⟨c, A, r⟩ := F; exact ⟨c, A.other W q, r⟩
theorem Ia.keep (F : Ia Z h a ty n f) (K : Keep h h' ws) (q : a ∉ ws) : Ia Z h' a ty n f := by obtain ⟨c, A, r⟩ := F; exact ⟨c, ⟨K.2.1 a c A.1 q, A.2⟩, r⟩
theorem Ia.fun {g : Nat → Int32} (F : Ia Z h a ty n f) (e : ∀ j, j < n → f j = g j) : Ia Z h a ty n g := by
  obtain ⟨c, A, S, q, H⟩ := F; exact ⟨c, A, S, q, fun j hj => by rw [← e j hj]; exact H j hj⟩
theorem Ia.set {c : Cell} (A : Arr Z h a c ty) (S : c.slots.size = n) (q : n < 2147483648) (H : ∀ j, j < n → c.slots[j]? = some (.int (f j)) ∧ fits ty (.int (f j)) = true) {i : Nat} {x : Int32} (W : Wr h h' a i (.int x)) (hf : fits ty (.int x) = true) : Ia Z h' a ty n (up f i x) := by
  refine ⟨c.setSlot i (.int x), A.same W, by rw [sz_set]; exact S, q, fun j hj => ?_⟩
  by_cases e : j = i
  · subst e
    rw [up_at]
    refine ⟨?_, hf⟩
    have : j < c.slots.size := by omega
    simp [Cell.setSlot, this]
  · rw [up_ne _ _ e]
    refine ⟨?_, (H j hj).2⟩
    have : ¬ i = j := fun z => e z.symm
    rw [← (H j hj).1]
    simp [Cell.setSlot, this]
theorem Ia.mk0 {k : ClassId} {z : Int32} (A : Arr Z h a (newA k ty z) ty) (hz : z.toInt = (n : Int)) (hd : defaultValue ty = .int 0) (hf : fits ty (.int 0) = true) : Ia Z h a ty n (fun _ => 0) := by
  have e := clamp_of hz
  have := rng32 z
  refine ⟨_, A, by rw [sz_new, e], by omega, fun j hj => ⟨?_, hf⟩⟩
  show (Array.replicate z.toNatClampNeg (defaultValue ty))[j]? = _
  rw [e, hd]
  simp [hj]
end OwnArr
section OwnSteps
variable {p : Program} {l : Launch} {e : Env} {R : Room} {s : State} {m : MethodId} {args : Array Value} {below : List Frame} {meth : Method} {c : Code} {T : State} {locs : List Loc} {cells slots : Nat} {Z : State} {a0 : Array Value} {h : Heap} {a : Addr} {n : Nat} {f : Nat → Int32} {ty : FieldType}
theorem iaI (X : Stand p l e R s m args below meth c T locs cells slots) (hx : p.tables.exec = Jvm.exec) (hZ : Z.Warmed39 s.vm) (eT : T.heap = h) (A : Ia Z h a .int n f) {j x : Int32} (i : Nat) (hi : j.toInt = (i : Int)) (hn : i < n) {g : JFrame} (hg : g.method = m) {rest : List Value} (hs : g.stack = .int x :: .int j :: .ref a :: rest) (hd : decode c.code g.pc = .ok (.iastore, 1)) :
    ∃ T' h', Stand p l e R s m args below meth c T' (locs ++ [⟨a, i⟩]) cells slots ∧ T'.heap = h' ∧ Wr h h' a i (.int x) ∧ Ia Z h' a .int n (up f i x) ∧ ∀ target, Steps p.tables e below (T'.setTop { g with pc := g.pc + 1, stack := rest }) target → Steps p.tables e below (T.setTop g) target := by
  obtain ⟨cl, A1, S, q, H⟩ := A
  obtain ⟨T', h', X', e', W, st⟩ := stI X hx hZ eT A1 (j := j) (inb hi hn S) hg hs hd
  rw [clamp_of hi] at X' W
  exact ⟨T', h', X', e', W, Ia.set A1 S q H W rfl, st⟩
theorem iaB (X : Stand p l e R s m args below meth c T locs cells slots) (hx : p.tables.exec = Jvm.exec) (hZ : Z.Warmed39 s.vm) (eT : T.heap = h) (A : Ia Z h a .byte n f) {j x : Int32} (i : Nat) (hi : j.toInt = (i : Int)) (hn : i < n) {g : JFrame} (hg : g.method = m) {rest : List Value} (hs : g.stack = .int x :: .int j :: .ref a :: rest) (hd : decode c.code g.pc = .ok (.bastore, 1)) :
    ∃ T' h', Stand p l e R s m args below meth c T' (locs ++ [⟨a, i⟩]) cells slots ∧ T'.heap = h' ∧ Wr h h' a i (.int (nar .byte x)) ∧ Ia Z h' a .byte n (up f i (nar .byte x)) ∧ ∀ target, Steps p.tables e below (T'.setTop { g with pc := g.pc + 1, stack := rest }) target → Steps p.tables e below (T.setTop g) target := by
  obtain ⟨cl, A1, S, q, H⟩ := A
  obtain ⟨T', h', X', e', W, st⟩ := stB X hx hZ eT A1 (j := j) (inb hi hn S) hg hs hd
  rw [clamp_of hi] at X' W
  exact ⟨T', h', X', e', W, Ia.set A1 S q H W (fits_nar_byte _), st⟩
theorem iaC (X : Stand p l e R s m args below meth c T locs cells slots) (hx : p.tables.exec = Jvm.exec) (hZ : Z.Warmed39 s.vm) (eT : T.heap = h) (A : Ia Z h a .char n f) {j x : Int32} (i : Nat) (hi : j.toInt = (i : Int)) (hn : i < n) {g : JFrame} (hg : g.method = m) {rest : List Value} (hs : g.stack = .int x :: .int j :: .ref a :: rest) (hd : decode c.code g.pc = .ok (.castore, 1)) :
    ∃ T' h', Stand p l e R s m args below meth c T' (locs ++ [⟨a, i⟩]) cells slots ∧ T'.heap = h' ∧ Wr h h' a i (.int (nar .char x)) ∧ Ia Z h' a .char n (up f i (nar .char x)) ∧ ∀ target, Steps p.tables e below (T'.setTop { g with pc := g.pc + 1, stack := rest }) target → Steps p.tables e below (T.setTop g) target := by
  obtain ⟨cl, A1, S, q, H⟩ := A
  obtain ⟨T', h', X', e', W, st⟩ := stC X hx hZ eT A1 (j := j) (inb hi hn S) hg hs hd
  rw [clamp_of hi] at X' W
  exact ⟨T', h', X', e', W, Ia.set A1 S q H W (fits_nar_char _), st⟩
theorem iaLI (X : Stand p l e R s m args below meth c T locs cells slots) (hx : p.tables.exec = Jvm.exec) (hZ : Z.Warmed39 s.vm) (eT : T.heap = h) (A : Ia Z h a .int n f) {j : Int32} (i : Nat) (hi : j.toInt = (i : Int)) (hn : i < n) {g : JFrame} (hg : g.method = m) {rest : List Value} (hs : g.stack = .int j :: .ref a :: rest) (hd : decode c.code g.pc = .ok (.iaload, 1)) (target : State)
    (k : Steps p.tables e below (T.setTop { g with pc := g.pc + 1, stack := .int (f i) :: rest }) target) : Steps p.tables e below (T.setTop g) target := by
  obtain ⟨cl, A1, S, q, H⟩ := A
  exact X.iaload hx (j := j) (v := .int (f i)) (by rw [eT]; exact A1.1) (State.isArrayOf_alike hZ.alike A1.2.1) A1.2.2 (inb hi hn S) (by rw [clamp_of hi]; exact (H i hn).1) hg hs hd target k
theorem iaLB (X : Stand p l e R s m args below meth c T locs cells slots) (hx : p.tables.exec = Jvm.exec) (hZ : Z.Warmed39 s.vm) (eT : T.heap = h) (A : Ia Z h a .byte n f) {j : Int32} (i : Nat) (hi : j.toInt = (i : Int)) (hn : i < n) {g : JFrame} (hg : g.method = m) {rest : List Value} (hs : g.stack = .int j :: .ref a :: rest) (hd : decode c.code g.pc = .ok (.baload, 1)) (target : State)
    (k : Steps p.tables e below (T.setTop { g with pc := g.pc + 1, stack := .int (f i) :: rest }) target) : Steps p.tables e below (T.setTop g) target := by
  obtain ⟨cl, A1, S, q, H⟩ := A
  exact X.baloadBytes hx (j := j) (v := .int (f i)) (by rw [eT]; exact A1.1) (State.isArrayOf_alike hZ.alike A1.2.1) A1.2.2 (inb hi hn S) (by rw [clamp_of hi]; exact (H i hn).1) hg hs hd target k
theorem iaLC (X : Stand p l e R s m args below meth c T locs cells slots) (hx : p.tables.exec = Jvm.exec) (hZ : Z.Warmed39 s.vm) (eT : T.heap = h) (A : Ia Z h a .char n f) {j : Int32} (i : Nat) (hi : j.toInt = (i : Int)) (hn : i < n) {g : JFrame} (hg : g.method = m) {rest : List Value} (hs : g.stack = .int j :: .ref a :: rest) (hd : decode c.code g.pc = .ok (.caload, 1)) (target : State)
    (k : Steps p.tables e below (T.setTop { g with pc := g.pc + 1, stack := .int (f i) :: rest }) target) : Steps p.tables e below (T.setTop g) target := by
  obtain ⟨cl, A1, S, q, H⟩ := A
  exact X.caload hx (j := j) (v := .int (f i)) (by rw [eT]; exact A1.1) (State.isArrayOf_alike hZ.alike A1.2.1) A1.2.2 (inb hi hn S) (by rw [clamp_of hi]; exact (H i hn).1) hg hs hd target k
theorem iaLen (X : Stand p l e R s m args below meth c T locs cells slots) (hx : p.tables.exec = Jvm.exec) (hZ : Z.Warmed39 s.vm) (eT : T.heap = h) (A : Ia Z h a ty n f) {g : JFrame} (hg : g.method = m) {rest : List Value} (hs : g.stack = .ref a :: rest) (hd : decode c.code g.pc = .ok (.arraylength, 1)) (target : State)
    (k : Steps p.tables e below (T.setTop { g with pc := g.pc + 1, stack := .int (Int32.ofNat n) :: rest }) target) : Steps p.tables e below (T.setTop g) target := by
  obtain ⟨cl, A1, S, q, H⟩ := A
  refine X.arraylength hx (by rw [eT]; exact A1.1) (State.isArrayOf_alike hZ.alike A1.2.1) hg hs hd target ?_
  rw [S]
  exact k
theorem iaNew (X : Stand p l e R s m args below meth c T locs cells slots) (hx : p.tables.exec = Jvm.exec) (hZ : Z.Warmed39 s.vm) {aty : ArrayType} (w : (Cond.arrayClass (newarray.typeOf aty)).before a0 Z = true) (eT : T.heap = h) {g : JFrame} (hg : g.method = m) (hd : decode c.code g.pc = .ok (.newarray aty, 2)) {z : Int32} {rest : List Value} (hs : g.stack = .int z :: rest)
    (n : Nat) (hz : z.toInt = (n : Int)) (cap : Nat) (hcap : n ≤ cap) (hb : cap * 8 ≤ 536870912) (hc : cells + 1 ≤ R.cells) (hl : slots + cap ≤ R.slots) (h1 : defaultValue (newarray.typeOf aty) = .int 0) (h2 : fits (newarray.typeOf aty) (.int 0) = true) :
    ∃ T' h', Stand p l e R s m args below meth c T' locs (cells + 1) (slots + cap) ∧ T'.heap = h' ∧ Ext h h' ∧ Ia Z h' h.size (newarray.typeOf aty) n (fun _ => 0) ∧
      ∀ target, Steps p.tables e below (T'.setTop { g with pc := g.pc + 2, stack := .ref h.size :: rest }) target → Steps p.tables e below (T.setTop g) target := by
  obtain ⟨T', h', cA, X', e', E, A, st⟩ := newP X hx hZ w eT hg hd hs (by rw [Int32.lt_iff_toInt_lt, hz, show (0 : Int32).toInt = 0 from rfl]; omega) (cap := cap) (by rw [clamp_of hz]; exact hcap) hb hc hl
  exact ⟨T', h', X', e', E, Ia.mk0 A hz h1 h2, st⟩
end OwnSteps
theorem own_sel {Z s : State} {a0 args : Array Value} {y : MethodName} {n : Nat} (hZ : Z.Warmed39 s.vm) (wi : (Jvm.Cond.instantiable y.cls n).before a0 Z = true) (wp : (Jvm.Cond.privateMethod y).before a0 Z = true) (wm : (Jvm.Cond.instanceMethod y).before a0 Z = true) (hy : y.cls ≠ "java/lang/invoke/MethodHandle" ∧ y.cls ≠ "java/lang/invoke/VarHandle") : (Jvm.Cond.selects y.cls y y).before args s = true := by
  obtain ⟨c, k, h1, h2, -, h4, -⟩ := Cond.instantiable_spec wi
  have h5 : k.isInterface = false := by cases h : k.isInterface <;> simp [h] at h4 ⊢
  exact mvT hZ (selects_self_of_private (args := a0) h1 h2 h5 (Cond.privateMethod_at wp) wm hy)
-- BY HAND: small numbers as ints
theorem own_ti {i n : Nat} (h : i < n) (h8 : n ≤ 8) : (Int32.ofNat i).toInt = (i : Int) := Int32.toInt_ofNat_of_lt (by omega)
theorem own_tn {n : Nat} (h8 : n ≤ 8) : (Int32.ofNat n).toInt = (n : Int) := Int32.toInt_ofNat_of_lt (by omega)
theorem own_ltn {i n : Nat} (h : i < n) (h8 : n ≤ 8) : Int32.ofNat i < Int32.ofNat n := by
  rw [Int32.lt_iff_toInt_lt, own_ti h h8, own_tn h8]; omega
theorem own_irr (x : Int32) : ¬ x < x := by rw [Int32.lt_iff_toInt_lt]; omega
theorem own_one (i : Nat) : Int32.ofNat i + (1 : Int32) = Int32.ofNat (i + 1) := (Int32.ofNat_add i 1).symm
theorem own_le8 {n : Nat} (h : n = 4 ∨ n = 8) : n ≤ 8 := by omega
theorem own_mask {n : Nat} (hn : n = 4 ∨ n = 8) (x : Int32) : x &&& (Int32.ofNat n - (1 : Int32)) = Int32.ofNat ((x.toInt % (n : Int)).toNat) := by
  apply Int32.toInt_inj.mp
  rw [Int32.toInt_ofNat_of_lt (by rcases hn with rfl | rfl <;> omega)]
  rcases hn with rfl | rfl
  · have h := c_mask x (Int32.ofNat 4 - (1 : Int32)) 2 (by decide) (by decide)
    rw [h]
    omega
  · have h := c_mask x (Int32.ofNat 8 - (1 : Int32)) 3 (by decide) (by decide)
    rw [h]
    omega
theorem own_next {n sl : Nat} (hn : n = 4 ∨ n = 8) (h : sl < n) : (Int32.ofNat sl + (1 : Int32)) &&& (Int32.ofNat n - (1 : Int32)) = Int32.ofNat ((sl + 1) % n) := by
  rw [own_mask hn, own_one, Int32.toInt_ofNat_of_lt (by omega)]
  rcases hn with rfl | rfl <;> (congr 1 <;> omega)
-- BY HAND: a map by open addressing, without any program: H: where a key's search begins; k: the keys' array (-1: empty); v: the values'; M: what the map says
theorem own_least (P : Nat → Prop) (h : ∃ i, P i) : ∃ i, P i ∧ ∀ i', i' < i → ¬ P i' := by
  obtain ⟨i, hi⟩ := h
  induction i using Nat.strongRecOn with
  | ind i ih =>
    by_cases q : ∃ i', i' < i ∧ P i'
    · obtain ⟨i', h1, h2⟩ := q
      exact ih i' h1 h2
    · exact ⟨i, hi, fun i' h1 h2 => q ⟨i', h1, h2⟩⟩
def At' (H : Int32 → Nat) (k : Nat → Int32) (n : Nat) (key : Int32) (s : Nat) : Prop :=
  (k s = key ∨ k s = -1) ∧ ∃ i, s = (H key + i) % n ∧ ∀ i', i' < i → k ((H key + i') % n) ≠ key ∧ k ((H key + i') % n) ≠ -1
def Inv (H : Int32 → Nat) (k : Nat → Int32) (n : Nat) : Prop := (∀ j, j < n → k j ≠ -1 → At' H k n (k j) j) ∧ ∃ j, j < n ∧ k j = -1
def Rel (H : Int32 → Nat) (k v : Nat → Int32) (n : Nat) (M : Int32 → Option Int32) : Prop := ∀ key s, key ≠ -1 → At' H k n key s → M key = if k s = key then some (v s) else none
def ins (M : Int32 → Option Int32) (key x : Int32) : Int32 → Option Int32 := fun q => if q = key then some x else M q
section OwnMap
variable {H : Int32 → Nat} {k v : Nat → Int32} {n : Nat} {key : Int32} {s s' : Nat} {M : Int32 → Option Int32} {x : Int32}
theorem at_uniq (h : At' H k n key s) (h' : At' H k n key s') : s = s' := by
  obtain ⟨a, i, rfl, hp⟩ := h
  obtain ⟨a', i', rfl, hp'⟩ := h'
  rcases Nat.lt_trichotomy i i' with q | q | q
  · obtain ⟨b1, b2⟩ := hp' i q
    rcases a with a | a
    · exact absurd a b1
    · exact absurd a b2
  · rw [q]
  · obtain ⟨b1, b2⟩ := hp i' q
    rcases a' with a | a
    · exact absurd a b1
    · exact absurd a b2
theorem at_lt (hn : 0 < n) (h : At' H k n key s) : s < n := by
  obtain ⟨-, i, rfl, -⟩ := h
  exact Nat.mod_lt _ hn
theorem at_ex (h : ∃ j, j < n ∧ k j = -1) : ∃ s, At' H k n key s := by
  obtain ⟨j, hj, he⟩ := h
  have hn : 0 < n := by omega
  have e : (H key + (n + j - H key % n)) % n = j := by
    have h1 := Nat.div_add_mod (H key) n
    have h2 := Nat.mod_lt (H key) hn
    have h3 : H key + (n + j - H key % n) = j + n * (H key / n + 1) := by rw [Nat.mul_add, Nat.mul_one]; omega
    rw [h3, Nat.add_mul_mod_self_left, Nat.mod_eq_of_lt hj]
  obtain ⟨i, hi, hl⟩ := own_least (fun i => k ((H key + i) % n) = key ∨ k ((H key + i) % n) = -1) ⟨_, Or.inr (by rw [e]; exact he)⟩
  exact ⟨_, hi, i, rfl, fun i' hi' => ⟨fun q => hl i' hi' (Or.inl q), fun q => hl i' hi' (Or.inr q)⟩⟩
theorem at_up (h : At' H k n key s) (h' : s' ≠ s) (he : k s' = -1) {y : Int32} : At' H (up k s' y) n key s := by
  obtain ⟨a, i, rfl, hp⟩ := h
  refine ⟨by rw [up_ne _ _ (Ne.symm h')]; exact a, i, rfl, fun i' hi' => ?_⟩
  have := hp i' hi'
  rw [up_ne _ _ (fun q => this.2 (by rw [q]; exact he))]
  exact this
theorem at_here (h : At' H k n key s) (he : k s = -1) : At' H (up k s key) n key s := by
  obtain ⟨a, i, rfl, hp⟩ := h
  refine ⟨Or.inl (up_at _ _ _), i, rfl, fun i' hi' => ?_⟩
  have := hp i' hi'
  rw [up_ne _ _ (fun q => this.2 (by rw [q]; exact he))]
  exact this
theorem ins_ok (hI : Inv H k n) (hR : Rel H k v n M) (hk : key ≠ -1) (ha : At' H k n key s) (he : k s = -1) (hx : ∃ j, j < n ∧ up k s key j = -1) : Inv H (up k s key) n ∧ Rel H (up k s key) (up v s x) n (ins M key x) := by
  have hh := at_here ha he
  refine ⟨⟨fun j hj hne => ?_, hx⟩, fun key2 s2 hk2 ha2 => ?_⟩
  · by_cases q : j = s
    · subst q
      rw [up_at]
      exact hh
    · rw [up_ne _ _ q] at hne ⊢
      exact at_up (hI.1 j hj hne) (fun z => q z.symm) he
  · by_cases q : key2 = key
    · subst q
      obtain rfl := at_uniq ha2 hh
      rw [up_at, up_at, if_pos rfl]
      exact if_pos rfl
    · obtain ⟨s', hs'⟩ := at_ex (H := H) (k := k) (n := n) (key := key2) hI.2
      have e := hR key2 s' hk2 hs'
      rw [show ins M key x key2 = M key2 from if_neg q, e]
      by_cases z : s' = s
      · subst z
        rw [he, if_neg (fun z => hk2 z.symm)]
        by_cases y : up k s' key s2 = key2
        · have hne : s2 ≠ s' := fun w => by rw [w, up_at] at y; exact q y.symm
          rw [up_ne _ _ hne] at y
          have hn : 0 < n := by obtain ⟨j, hj, -⟩ := hI.2; omega
          have h3 := hI.1 s2 (at_lt hn ha2) (by rw [y]; exact hk2)
          rw [y] at h3
          exact absurd (at_uniq h3 hs') hne
        · rw [if_neg y]
      · have h4 := at_up (y := key) hs' (fun w => z w.symm) he
        obtain rfl := at_uniq ha2 h4
        rw [up_ne _ _ z, up_ne _ _ z]
theorem set_ok (hI : Inv H k n) (hR : Rel H k v n M) (hk : key ≠ -1) (ha : At' H k n key s) (he : k s = key) : Rel H k (up v s x) n (ins M key x) := by
  intro key2 s2 hk2 ha2
  by_cases q : key2 = key
  · subst q
    obtain rfl := at_uniq ha2 ha
    rw [up_at, if_pos he]
    exact if_pos rfl
  · rw [show ins M key x key2 = M key2 from if_neg q, hR key2 s2 hk2 ha2]
    by_cases z : k s2 = key2
    · have hne : s2 ≠ s := fun w => by rw [w, he] at z; exact q z.symm
      rw [if_pos z, if_pos z, up_ne _ _ hne]
    · rw [if_neg z, if_neg z]
theorem inv_inj (hI : Inv H k n) {i j : Nat} (hi : i < n) (hj : j < n) (hne : k i ≠ -1) (e : k j = k i) : j = i := by
  have h1 := hI.1 i hi hne
  have h2 := hI.1 j hj (by rw [e]; exact hne)
  rw [e] at h2
  exact at_uniq h2 h1
end OwnMap
def cnt (k : Nat → Int32) : Nat → Nat
  | 0 => 0
  | n + 1 => cnt k n + (if k n = -1 then 0 else 1)
theorem cnt_step {k : Nat → Int32} {i : Nat} (z : ¬ k i = -1) : cnt k (i + 1) = cnt k i + 1 := by simp only [cnt, if_neg z]
theorem cnt_le (k : Nat → Int32) : ∀ n, cnt k n ≤ n
  | 0 => Nat.le_refl _
  | n + 1 => by
    have := cnt_le k n
    simp only [cnt]
    split <;> omega
theorem cnt_lt (k : Nat → Int32) : ∀ n, cnt k n < n → ∃ j, j < n ∧ k j = -1
  | 0, h => absurd h (Nat.not_lt_zero _)
  | n + 1, h => by
    by_cases q : k n = -1
    · exact ⟨n, Nat.lt_succ_self _, q⟩
    · simp only [cnt, if_neg q] at h
      obtain ⟨j, hj, e⟩ := cnt_lt k n (by omega)
      exact ⟨j, by omega, e⟩
theorem cnt_far (k : Nat → Int32) (s : Nat) (x : Int32) : ∀ n, n ≤ s → cnt (up k s x) n = cnt k n
  | 0, _ => rfl
  | n + 1, h => by
    simp only [cnt]
    rw [cnt_far k s x n (by omega), up_ne _ _ (by omega)]
theorem cnt_up (k : Nat → Int32) (s : Nat) (x : Int32) : ∀ n, cnt (up k s x) n ≤ cnt k n + 1
  | 0 => by simp [cnt]
  | n + 1 => by
    by_cases q : n = s
    · subst q
      simp only [cnt]
      rw [cnt_far k n x n (Nat.le_refl _)]
      split <;> split <;> omega
    · have := cnt_up k s x n
      simp only [cnt]
      rw [up_ne _ _ q]
      omega
theorem cnt_const : ∀ n, cnt (fun _ => -1) n = 0
  | 0 => rfl
  | n + 1 => by
    simp only [cnt]
    rw [cnt_const n]
    rfl
/-- what the first i places of two arrays say -/
def Mf (k v : Nat → Int32) : Nat → Int32 → Option Int32
  | 0, _ => none
  | i + 1, key => if key = k i then some (v i) else Mf k v i key
theorem mf_some {k v : Nat → Int32} {key : Int32} : ∀ {i : Nat}, Mf k v i key ≠ none → ∃ j, j < i ∧ k j = key
  | 0, h => absurd rfl h
  | i + 1, h => by
    by_cases q : key = k i
    · exact ⟨i, Nat.lt_succ_self _, q.symm⟩
    · simp only [Mf, if_neg q] at h
      obtain ⟨j, hj, e⟩ := mf_some h
      exact ⟨j, by omega, e⟩
theorem mf_at {n : Nat} {k v : Nat → Int32} {key : Int32} {s : Nat} (hu : ∀ j, k j = key → j < n → j = s) : ∀ {i : Nat}, i ≤ n → s < i → k s = key → Mf k v i key = some (v s)
  | 0, _, h, _ => absurd h (Nat.not_lt_zero _)
  | i + 1, hn, h, e => by
    by_cases q : key = k i
    · obtain rfl := hu i q.symm (by omega)
      simp only [Mf, if_pos q]
    · simp only [Mf, if_neg q]
      have : s ≠ i := fun z => q (by rw [← z]; exact e.symm)
      exact mf_at hu (by omega) (by omega) e
theorem mf_all {H : Int32 → Nat} {k v : Nat → Int32} {n : Nat} {M : Int32 → Option Int32} (hI : Inv H k n) (hR : Rel H k v n M) {key : Int32} (hk : key ≠ -1) : Mf k v n key = M key := by
  obtain ⟨s, hs⟩ := at_ex (H := H) (k := k) (n := n) (key := key) hI.2
  have hn : 0 < n := by obtain ⟨j, hj, -⟩ := hI.2; omega
  rw [hR key s hk hs]
  by_cases q : k s = key
  · rw [if_pos q]
    exact mf_at (n := n) (fun j e hj => inv_inj hI (at_lt hn hs) hj (by rw [q]; exact hk) (by rw [e, q])) (Nat.le_refl _) (at_lt hn hs) q
  · rw [if_neg q]
    refine Classical.byContradiction fun z => ?_
    obtain ⟨j, hj, e⟩ := mf_some z
    have h1 := hI.1 j hj (by rw [e]; exact hk)
    rw [e] at h1
    obtain rfl := at_uniq h1 hs
    exact q e
theorem mf_new {H : Int32 → Nat} {k v : Nat → Int32} {n : Nat} (hI : Inv H k n) {i : Nat} (hi : i < n) (hne : k i ≠ -1) : Mf k v i (k i) = none := by
  refine Classical.byContradiction fun z => ?_
  obtain ⟨j, hj, e⟩ := mf_some z
  have := inv_inj hI hi (by omega) hne e
  omega
theorem empty_ok {H : Int32 → Nat} {v : Nat → Int32} {n : Nat} (hn : 0 < n) : Inv H (fun _ => -1) n ∧ Rel H (fun _ => -1) v n (fun _ => none) :=
  ⟨⟨fun j _ h => absurd rfl h, 0, hn, rfl⟩, fun key s hk _ => by rw [if_neg (fun z => hk z.symm)]⟩
theorem rel_congr {H : Int32 → Nat} {k v : Nat → Int32} {n : Nat} {M M' : Int32 → Option Int32} (hR : Rel H k v n M) (e : ∀ key, key ≠ -1 → M key = M' key) : Rel H k v n M' := fun key s hk ha => by rw [← e key hk]; exact hR key s hk ha
theorem d4_5 : decode jdk_65_method_103_code 5 = .ok (.iload_n 2, 1) := by decide +kernel
theorem d4_6 : decode jdk_65_method_103_code 6 = .ok (.iload_n 3, 1) := by decide +kernel
theorem d4_7 : decode jdk_65_method_103_code 7 = .ok (.if_icmp .ge 13, 3) := by decide +kernel
theorem d4_10 : decode jdk_65_method_103_code 10 = .ok (.aload_n 0, 1) := by decide +kernel
theorem d4_11 : decode jdk_65_method_103_code 11 = .ok (.iload_n 2, 1) := by decide +kernel
theorem d4_12 : decode jdk_65_method_103_code 12 = .ok (.iload_n 1, 1) := by decide +kernel
theorem d4_13 : decode jdk_65_method_103_code 13 = .ok (.iastore, 1) := by decide +kernel
theorem d4_14 : decode jdk_65_method_103_code 14 = .ok (.iinc 2 1, 3) := by decide +kernel
theorem d4_17 : decode jdk_65_method_103_code 17 = .ok (.goto (-12), 3) := by decide +kernel
set_option maxRecDepth 65536 in
set_option maxHeartbeats 40000000 in
theorem tnF {p : Program} {l : Launch} {e : Env} {s : State} {m : MethodId} {args : Array Value} {below : List Frame} {meth : Method} {c : Code} {T0 : State} {locs : List Loc} {Z : State} {a0 : Array Value} {h0 : Heap} (o0 : Addr) (p1 : Int32) (n : Nat) (f : Nat → Int32) (i : Nat) (n0 : Nat)
    (X0 : Stand p l e ({ frames := 0, cells := 0, slots := 0, locals := 0 } : Room) s m args below meth c T0 locs 0 0) (hx : p.tables.exec = Jvm.exec) (hZ : Z.Warmed39 s.vm) (hw : ∀ d ∈ tables_1, d.before a0 Z = true) (hby : c.code = jdk_65_method_103_code) (hml : c.maxLocals = 4) (hown : s.vm.findClass "java/util/Arrays" = some m.cls) (e0 : T0.heap = h0) (N0 : Fr n0 locs) (Z0 : n0 ≤ h0.size) (A1 : Ia Z h0 o0 .int n f) (g1 : n0 ≤ o0) (h8 : n ≤ 8) (hi : i < n) :
    ∃ (T' : State) (h' : Heap) (locs' : List Loc), Stand p l e ({ frames := 0, cells := 0, slots := 0, locals := 0 } : Room) s m args below meth c T' locs' 0 0 ∧ T'.heap = h' ∧ Fr n0 locs' ∧ n0 ≤ h'.size ∧ Keep h0 h' [o0] ∧ Ia Z h' o0 .int n (up f i p1) ∧
      ∀ t, Steps p.tables e below (T'.setTop (mkF m 5 #[.val (.ref o0), .val (.int p1), .val (.int ((Int32.ofNat i) + (1 : Int32))), .val (.int (Int32.ofNat n))] [])) t → Steps p.tables e below (T0.setTop (mkF m 5 #[.val (.ref o0), .val (.int p1), .val (.int (Int32.ofNat i)), .val (.int (Int32.ofNat n))] [])) t := by
  have KP0 : Keep h0 h0 [o0] := Keep.refl _ _
  obtain ⟨T1, h1, X1, e1, W1, A1, st1⟩ := iaI X0 hx hZ e0 A1 (j := (Int32.ofNat i)) i (own_ti hi h8) hi (g := (mkF m 13 #[.val (.ref o0), .val (.int p1), .val (.int (Int32.ofNat i)), .val (.int (Int32.ofNat n))] [(.int p1), (.int (Int32.ofNat i)), (.ref o0)])) rfl rfl (hb hby d4_13)
  have G2 : Ia Z h1 o0 .int n (up f i p1) := A1
  have Z1 : n0 ≤ h1.size := Nat.le_trans Z0 (Keep.of_wr W1).1
  have N1 := Fr.snoc X1 N0 g1
  have KP1 : Keep h0 h1 [o0] := KP0.wr W1 (Or.inl (List.mem_of_getElem? (i := 0) rfl))
  have K3 : ∀ t, Steps p.tables e below (T1.setTop (mkF m 5 #[.val (.ref o0), .val (.int p1), .val (.int ((Int32.ofNat i) + (1 : Int32))), .val (.int (Int32.ofNat n))] [])) t → Steps p.tables e below (T0.setTop (mkF m 5 #[.val (.ref o0), .val (.int p1), .val (.int (Int32.ofNat i)), .val (.int (Int32.ofNat n))] [])) t := by
    intro t kt
    show Steps p.tables e below (T0.setTop (mkF m 5 #[.val (.ref o0), .val (.int p1), .val (.int (Int32.ofNat i)), .val (.int (Int32.ofNat n))] [])) _
    refine XS.iloadN X0.here hx rfl (hb hby d4_5) rfl ?_
    show Steps p.tables e below (T0.setTop (mkF m 6 #[.val (.ref o0), .val (.int p1), .val (.int (Int32.ofNat i)), .val (.int (Int32.ofNat n))] [(.int (Int32.ofNat i))])) _
    refine XS.iloadN X0.here hx rfl (hb hby d4_6) rfl ?_
    show Steps p.tables e below (T0.setTop (mkF m 7 #[.val (.ref o0), .val (.int p1), .val (.int (Int32.ofNat i)), .val (.int (Int32.ofNat n))] [(.int (Int32.ofNat n)), (.int (Int32.ofNat i))])) _
    refine XS.icmpNo X0.here hx rfl (hb hby d4_7) rfl (tlt (show (Int32.ofNat i) < (Int32.ofNat n) from (own_ltn hi h8))).2.1 ?_
    show Steps p.tables e below (T0.setTop (mkF m 10 #[.val (.ref o0), .val (.int p1), .val (.int (Int32.ofNat i)), .val (.int (Int32.ofNat n))] [])) _
    refine XS.aloadN X0.here hx rfl (hb hby d4_10) rfl rfl ?_
    show Steps p.tables e below (T0.setTop (mkF m 11 #[.val (.ref o0), .val (.int p1), .val (.int (Int32.ofNat i)), .val (.int (Int32.ofNat n))] [(.ref o0)])) _
    refine XS.iloadN X0.here hx rfl (hb hby d4_11) rfl ?_
    show Steps p.tables e below (T0.setTop (mkF m 12 #[.val (.ref o0), .val (.int p1), .val (.int (Int32.ofNat i)), .val (.int (Int32.ofNat n))] [(.int (Int32.ofNat i)), (.ref o0)])) _
    refine XS.iloadN X0.here hx rfl (hb hby d4_12) rfl ?_
    show Steps p.tables e below (T0.setTop (mkF m 13 #[.val (.ref o0), .val (.int p1), .val (.int (Int32.ofNat i)), .val (.int (Int32.ofNat n))] [(.int p1), (.int (Int32.ofNat i)), (.ref o0)])) _
    refine st1 _ ?_
    show Steps p.tables e below (T1.setTop (mkF m 14 #[.val (.ref o0), .val (.int p1), .val (.int (Int32.ofNat i)), .val (.int (Int32.ofNat n))] [])) _
    refine XS.iinc X1.here hx rfl (hb hby d4_14) rfl (l' := #[.val (.ref o0), .val (.int p1), .val (.int ((Int32.ofNat i) + (1 : Int32))), .val (.int (Int32.ofNat n))]) rfl ?_
    show Steps p.tables e below (T1.setTop (mkF m 17 #[.val (.ref o0), .val (.int p1), .val (.int ((Int32.ofNat i) + (1 : Int32))), .val (.int (Int32.ofNat n))] [])) _
    refine XS.goto X1.here hx rfl (pc0 := 17) (pc' := 5) rfl (hb hby d4_17) (by decide) (by decide) ?_
    exact kt
  exact ⟨T1, h1, _, X1, e1, N1, Z1, KP1, G2, K3⟩
-- BY HAND: the array filled
theorem own_fill {p : Program} {l : Launch} {e : Env} {s : State} {m : MethodId} {args : Array Value} {below : List Frame} {meth : Method} {c : Code} {Z : State} {a0 : Array Value} (d : Nat) : ∀ {T0 : State} {locs : List Loc} {h0 : Heap} (o0 : Addr) (p1 : Int32) (n : Nat) (f : Nat → Int32) (i : Nat) (n0 : Nat)
    (X0 : Stand p l e ({ frames := 0, cells := 0, slots := 0, locals := 0 } : Room) s m args below meth c T0 locs 0 0) (hx : p.tables.exec = Jvm.exec) (hZ : Z.Warmed39 s.vm) (hw : ∀ d ∈ tables_1, d.before a0 Z = true) (hby : c.code = jdk_65_method_103_code) (hml : c.maxLocals = 4) (hown : s.vm.findClass "java/util/Arrays" = some m.cls) (e0 : T0.heap = h0) (N0 : Fr n0 locs) (Z0 : n0 ≤ h0.size)
    (A1 : Ia Z h0 o0 .int n f) (g1 : n0 ≤ o0) (h8 : n ≤ 8) (hd : i + d = n),
    ∃ (g : Nat → Int32) (T' : State) (h' : Heap) (locs' : List Loc), Stand p l e ({ frames := 0, cells := 0, slots := 0, locals := 0 } : Room) s m args below meth c T' locs' 0 0 ∧ T'.heap = h' ∧ Fr n0 locs' ∧ n0 ≤ h'.size ∧ Keep h0 h' [o0] ∧ Ia Z h' o0 .int n g ∧ (∀ j, j < n → g j = if i ≤ j then p1 else f j) ∧
      ∀ t, Steps p.tables e below (T'.setTop (mkF m 5 #[.val (.ref o0), .val (.int p1), .val (.int (Int32.ofNat n)), .val (.int (Int32.ofNat n))] [])) t → Steps p.tables e below (T0.setTop (mkF m 5 #[.val (.ref o0), .val (.int p1), .val (.int (Int32.ofNat i)), .val (.int (Int32.ofNat n))] [])) t := by
  induction d with
  | zero =>
    intro T0 locs h0 o0 p1 n f i n0 X0 hx hZ hw hby hml hown e0 N0 Z0 A1 g1 h8 hd
    obtain rfl : i = n := by omega
    exact ⟨f, T0, h0, locs, X0, e0, N0, Z0, Keep.refl _ _, A1, fun j hj => by rw [if_neg (by omega)], fun t kt => kt⟩
  | succ d ih =>
    intro T0 locs h0 o0 p1 n f i n0 X0 hx hZ hw hby hml hown e0 N0 Z0 A1 g1 h8 hd
    obtain ⟨T1, h1, L1, X1, e1, N1, Z1, K1, A1', st1⟩ := tnF o0 p1 n f i n0 X0 hx hZ hw hby hml hown e0 N0 Z0 A1 g1 h8 (by omega)
    rw [own_one i] at st1
    obtain ⟨g, T2, h2, L2, X2, e2, N2, Z2, K2, A2, hg, st2⟩ := ih o0 p1 n (up f i p1) (i + 1) n0 X1 hx hZ hw hby hml hown e1 N1 Z1 A1' g1 h8 (by omega)
    refine ⟨g, T2, h2, L2, X2, e2, N2, Z2, K1.trans K2 (fun x hx => Or.inl hx), A2, fun j hj => ?_, fun t kt => st1 t (st2 t kt)⟩
    rw [hg j hj]
    by_cases q : i + 1 ≤ j
    · rw [if_pos q, if_pos (by omega)]
    · rw [if_neg q]
      by_cases z : i = j
      · subst z
        rw [up_at, if_pos (Nat.le_refl _)]
      · rw [up_ne _ _ (fun w => z w.symm), if_neg (by omega)]
theorem ef_4 (m : MethodId) (x0 : Addr) (x1 : Int32) : entryFrame m #[(.ref x0), (.int x1)] 4 = mkF m 0 #[.val (.ref x0), .val (.int x1), .unset, .unset] [] := by first | (simp [entryFrame, mkF, argsToLocals, Value.category]; done) | rfl
theorem pn_0 : plainName "java/util/Arrays" = true := by first | (simp [plainName, overriddenIn]; done) | decide +kernel
theorem d4_0 : decode jdk_65_method_103_code 0 = .ok (.iconst 0, 1) := by decide +kernel
theorem d4_1 : decode jdk_65_method_103_code 1 = .ok (.istore_n 2, 1) := by decide +kernel
theorem d4_2 : decode jdk_65_method_103_code 2 = .ok (.aload_n 0, 1) := by decide +kernel
theorem d4_3 : decode jdk_65_method_103_code 3 = .ok (.arraylength, 1) := by decide +kernel
theorem d4_4 : decode jdk_65_method_103_code 4 = .ok (.istore_n 3, 1) := by decide +kernel
theorem d4_20 : decode jdk_65_method_103_code 20 = .ok (.return_, 1) := by decide +kernel
def Q4 (Z : State) (o0 : Addr) (p1 : Int32) (n : Nat) (f : Nat → Int32) (h0 : Heap) (n0 : Nat) (v : Option Value) (h : Heap) (L : List Loc) : Prop := v = none ∧ Fr n0 L ∧ Keep h0 h [o0] ∧ Ia Z h o0 .int n (fun _ => p1)
set_option maxRecDepth 65536 in
set_option maxHeartbeats 40000000 in
theorem rm4 (l : Launch) (Z : State) (a0 : Array Value) (hw : ∀ d ∈ tables_1, d.before a0 Z = true) (ws : List Jvm.Cond) (o0 : Addr) (p1 : Int32) (n : Nat) (f : Nat → Int32) (h0 : Heap) (n0 : Nat) (Z0 : n0 ≤ h0.size) (A1 : Ia Z h0 o0 .int n f) (g1 : n0 ≤ o0) (h8 : n ≤ 8) :
    MetFree l (⟨"java/util/Arrays", "fill", "([II)V"⟩ : MethodName) (head1 (Jvm.Cond.code (⟨"java/util/Arrays", "fill", "([II)V"⟩ : MethodName) jdk_65_method_103_code 4 none :: ws) ({ frames := 0, cells := 0, slots := 0, locals := 0 } : Room)) (fun a U => a = #[(.ref o0), (.int p1)] ∧ Z.Warmed39 U.vm ∧ U.heap = h0) (fun _ _ _ _ _ => True) (fun _ U o U' => ∃ v L, o = .returned v ∧ Q4 Z o0 p1 n f h0 n0 v U'.heap L ∧ FrameEnd U o U' L ({ frames := 0, cells := 0, slots := 0, locals := 0 } : Room).cells ({ frames := 0, cells := 0, slots := 0, locals := 0 } : Room).slots) := by
  refine MetFree.of_bodySF (plainFor_of_name pn_0) hisR ?_
  intro p e s m args below meth c s₁ Bd hml0 hP hK
  obtain ⟨rfl, hZ, hh⟩ := hP
  have hx := Bd.exec
  have hby := Bd.bytes
  have hml : c.maxLocals = 4 := hml0
  have hown : s.vm.findClass "java/util/Arrays" = some m.cls := findClass_of_methodNamed Bd.named
  have hnm := (name_of_methodNamed Bd.named Bd.method).1
  have X0 : Stand p l e ({ frames := 0, cells := 0, slots := 0, locals := 0 } : Room) s m #[(.ref o0), (.int p1)] below meth c s₁ [] 0 0 := Stand.of_body Bd
  have e0 : s₁.heap = h0 := by rw [← hh, Bd.state]; rfl
  have pre0 : ∀ t, Steps p.tables e below (s₁.setTop (mkF m 0 #[.val (.ref o0), .val (.int p1), .unset, .unset] [])) t → Steps p.tables e below (s₁.setTop (entryFrame m #[(.ref o0), (.int p1)] 4)) t := fun t k => castTop (ef_4 m o0 p1) k
  have N0 := Fr.nil n0
  have KP0 : Keep h0 h0 [o0] := Keep.refl _ _
  have K1 : ∀ t, Steps p.tables e below (s₁.setTop (mkF m 5 #[.val (.ref o0), .val (.int p1), .val (.int (0 : Int32)), .val (.int (Int32.ofNat n))] [])) t → Steps p.tables e below (s₁.setTop (mkF m 0 #[.val (.ref o0), .val (.int p1), .unset, .unset] [])) t := by
    intro t kt
    show Steps p.tables e below (s₁.setTop (mkF m 0 #[.val (.ref o0), .val (.int p1), .unset, .unset] [])) _
    refine XS.iconst X0.here hx rfl (hb hby d4_0) ?_
    show Steps p.tables e below (s₁.setTop (mkF m 1 #[.val (.ref o0), .val (.int p1), .unset, .unset] [(.int (0 : Int32))])) _
    refine XS.istoreN X0.here hx rfl (hb hby d4_1) rfl (l' := #[.val (.ref o0), .val (.int p1), .val (.int (0 : Int32)), .unset]) rfl ?_
    show Steps p.tables e below (s₁.setTop (mkF m 2 #[.val (.ref o0), .val (.int p1), .val (.int (0 : Int32)), .unset] [])) _
    refine XS.aloadN X0.here hx rfl (hb hby d4_2) rfl rfl ?_
    show Steps p.tables e below (s₁.setTop (mkF m 3 #[.val (.ref o0), .val (.int p1), .val (.int (0 : Int32)), .unset] [(.ref o0)])) _
    refine iaLen X0 hx hZ e0 A1 (g := (mkF m 3 #[.val (.ref o0), .val (.int p1), .val (.int (0 : Int32)), .unset] [(.ref o0)])) rfl rfl (hb hby d4_3) _ ?_
    show Steps p.tables e below (s₁.setTop (mkF m 4 #[.val (.ref o0), .val (.int p1), .val (.int (0 : Int32)), .unset] [(.int (Int32.ofNat n))])) _
    refine XS.istoreN X0.here hx rfl (hb hby d4_4) rfl (l' := #[.val (.ref o0), .val (.int p1), .val (.int (0 : Int32)), .val (.int (Int32.ofNat n))]) rfl ?_
    exact kt
  obtain ⟨gf, T9, h9, L9, X9, e9, N9, Z9, K9, A9, hg9, st9⟩ := own_fill n o0 p1 n f 0 n0 X0 hx hZ hw hby hml hown e0 N0 Z0 A1 g1 h8 (by omega)
  have K2 : ∀ t, Steps p.tables e below (T9.setTop (mkF m 20 #[.val (.ref o0), .val (.int p1), .val (.int (Int32.ofNat n)), .val (.int (Int32.ofNat n))] [])) t → Steps p.tables e below (s₁.setTop (mkF m 0 #[.val (.ref o0), .val (.int p1), .unset, .unset] [])) t := by
    intro t kt
    refine K1 _ ?_
    show Steps p.tables e below (s₁.setTop (mkF m 5 #[.val (.ref o0), .val (.int p1), .val (.int (0 : Int32)), .val (.int (Int32.ofNat n))] [])) _
    refine st9 _ ?_
    show Steps p.tables e below (T9.setTop (mkF m 5 #[.val (.ref o0), .val (.int p1), .val (.int (Int32.ofNat n)), .val (.int (Int32.ofNat n))] [])) _
    refine XS.iloadN X9.here hx rfl (hb hby d4_5) rfl ?_
    show Steps p.tables e below (T9.setTop (mkF m 6 #[.val (.ref o0), .val (.int p1), .val (.int (Int32.ofNat n)), .val (.int (Int32.ofNat n))] [(.int (Int32.ofNat n))])) _
    refine XS.iloadN X9.here hx rfl (hb hby d4_6) rfl ?_
    show Steps p.tables e below (T9.setTop (mkF m 7 #[.val (.ref o0), .val (.int p1), .val (.int (Int32.ofNat n)), .val (.int (Int32.ofNat n))] [(.int (Int32.ofNat n)), (.int (Int32.ofNat n))])) _
    refine XS.icmpYes X9.here hx rfl (pc0 := 7) (pc' := 20) rfl (hb hby d4_7) rfl (flt (show ¬ ((Int32.ofNat n) < (Int32.ofNat n)) from (own_irr _))).2.1 (by decide) (by decide) ?_
    exact kt
  obtain ⟨fs, hr, hrun, hended, hW, hsame⟩ := X9.leave (v := none) (fun _ => rfl)
  refine ⟨_, _, pre0 _ (K2 _ ?_), hrun, hended, _, _, rfl, ?_, ⟨_, rfl⟩, hW, hsame.mono (by decide) (by decide)⟩
  · show Steps p.tables e below (T9.setTop (mkF m 20 #[.val (.ref o0), .val (.int p1), .val (.int (Int32.ofNat n)), .val (.int (Int32.ofNat n))] [])) _
    exact X9.returnOut hx Bd.returns (hb hby d4_20) hr
  · show Q4 Z o0 p1 n f h0 n0 _ T9.heap _
    rw [e9]
    exact ⟨rfl, N9, K9, A9.fun (fun j hj => by rw [hg9 j hj, if_pos (Nat.zero_le _)])⟩
theorem ef_3 (m : MethodId) (x0 : Int32) : entryFrame m #[(.int x0)] 2 = mkF m 0 #[.val (.int x0), .unset] [] := by first | (simp [entryFrame, mkF, argsToLocals, Value.category]; done) | rfl
theorem pn_1 : plainName "com/example/mastiff/mastiff/IntMap" = true := by first | (simp [plainName, overriddenIn]; done) | decide +kernel
theorem d3_0 : decode prog_6_method_13_code 0 = .ok (.iload_n 0, 1) := by decide +kernel
theorem d3_1 : decode prog_6_method_13_code 1 = .ok (.newarray .int, 2) := by decide +kernel
theorem d3_3 : decode prog_6_method_13_code 3 = .ok (.astore_n 1, 1) := by decide +kernel
theorem d3_4 : decode prog_6_method_13_code 4 = .ok (.aload_n 1, 1) := by decide +kernel
theorem d3_5 : decode prog_6_method_13_code 5 = .ok (.iconst (-1), 1) := by decide +kernel
theorem d3_6 : decode prog_6_method_13_code 6 = .ok (.invokestatic 39, 3) := by decide +kernel
theorem pd_0 : parseMethodDescriptor "([II)V" = some ⟨[(.array .int), .int], none⟩ := by decide +kernel
theorem d3_9 : decode prog_6_method_13_code 9 = .ok (.aload_n 1, 1) := by decide +kernel
theorem d3_10 : decode prog_6_method_13_code 10 = .ok (.areturn, 1) := by decide +kernel
def Q3 (Z : State) (p0 : Int32) (n : Nat) (h0 : Heap) (n0 : Nat) (v : Option Value) (h : Heap) (L : List Loc) : Prop := ∃ b, v = some (.ref b) ∧ Fr n0 L ∧ Keep h0 h [] ∧ h0.size ≤ b ∧ Ia Z h b .int n (fun _ => (-1 : Int32))
set_option maxRecDepth 65536 in
set_option maxHeartbeats 40000000 in
theorem rm3 (l : Launch) (Z : State) (a0 : Array Value) (hw : ∀ d ∈ tables_1, d.before a0 Z = true) (ws : List Jvm.Cond) (p0 : Int32) (n : Nat) (h0 : Heap) (n0 : Nat) (Z0 : n0 ≤ h0.size) (hz : p0.toInt = (n : Int)) (h8 : n ≤ 8) :
    MetFree l (⟨"com/example/mastiff/mastiff/IntMap", "empty", "(I)[I"⟩ : MethodName) (head1 (Jvm.Cond.code (⟨"com/example/mastiff/mastiff/IntMap", "empty", "(I)[I"⟩ : MethodName) prog_6_method_13_code 2 (some (.array .int)) :: ws) ({ frames := 1, cells := 1, slots := 8, locals := 15 } : Room)) (fun a U => a = #[(.int p0)] ∧ Z.Warmed39 U.vm ∧ U.heap = h0) (fun _ _ _ _ _ => True) (fun _ U o U' => ∃ v L, o = .returned v ∧ Q3 Z p0 n h0 n0 v U'.heap L ∧ FrameEnd U o U' L ({ frames := 1, cells := 1, slots := 8, locals := 15 } : Room).cells ({ frames := 1, cells := 1, slots := 8, locals := 15 } : Room).slots) := by
  refine MetFree.of_bodySF (plainFor_of_name pn_1) hisR ?_
  intro p e s m args below meth c s₁ Bd hml0 hP hK
  obtain ⟨rfl, hZ, hh⟩ := hP
  have hx := Bd.exec
  have hby := Bd.bytes
  have hml : c.maxLocals = 2 := hml0
  have hown : s.vm.findClass "com/example/mastiff/mastiff/IntMap" = some m.cls := findClass_of_methodNamed Bd.named
  have hnm := (name_of_methodNamed Bd.named Bd.method).1
  have X0 : Stand p l e ({ frames := 1, cells := 1, slots := 8, locals := 15 } : Room) s m #[(.int p0)] below meth c s₁ [] 0 0 := Stand.of_body Bd
  have e0 : s₁.heap = h0 := by rw [← hh, Bd.state]; rfl
  have pre0 : ∀ t, Steps p.tables e below (s₁.setTop (mkF m 0 #[.val (.int p0), .unset] [])) t → Steps p.tables e below (s₁.setTop (entryFrame m #[(.int p0)] 2)) t := fun t k => castTop (ef_3 m p0) k
  have N0 := Fr.nil n0
  have KP0 : Keep h0 h0 [] := Keep.refl _ _
  obtain ⟨T1, h1, X1, e1, E1, A1, st1⟩ := iaNew X0 hx hZ (hw _ (List.mem_of_getElem? (i := 13) rfl)) e0 (g := (mkF m 1 #[.val (.int p0), .unset] [(.int p0)])) rfl (hb hby d3_1) rfl n hz 8 h8 (by decide) (by decide) (by decide) rfl (by decide)
  obtain ⟨b1, g1⟩ : ∃ z, z = h0.size := ⟨_, rfl⟩
  rw [← g1] at A1 st1
  have gn1 : n0 ≤ b1 := Nat.le_trans Z0 (Nat.le_of_eq g1.symm)
  have sz1 : h0.size ≤ b1 := Nat.le_trans KP0.1 (Nat.le_of_eq g1.symm)
  have Z1 : n0 ≤ h1.size := Nat.le_trans Z0 E1.1
  have KP1 : Keep h0 h1 [] := KP0.ext E1
  have G2 : Ia Z h1 b1 .int n (fun _ => (0 : Int32)) := A1
  obtain ⟨_, _, ⟨T3, L3, k3, n3⟩, -, X3, ⟨Lc3, hQ3, l3, y3, z3⟩, st3⟩ := Jvm.LawKit.callS X1 hx (y := (⟨"java/util/Arrays", "fill", "([II)V"⟩ : MethodName)) hown (mvT hZ (hw _ (List.mem_of_getElem? (i := 14) rfl))) (mvT hZ (hw _ (List.mem_of_getElem? (i := 15) rfl))) (mvT hZ (hw _ (List.mem_of_getElem? (i := 16) rfl))) (mvT hZ (hw _ (List.mem_of_getElem? (i := 17) rfl))) (by decide) (backOf (W := 0) (rm4 l Z a0 hw [] b1 (-1 : Int32) n (fun _ => (0 : Int32)) h1 n0 Z1 G2 gn1 h8) hZ (hw _ (List.mem_of_getElem? (i := 17) rfl)) (hw _ (List.mem_of_getElem? (i := 16) rfl)) (by decide) (by decide)) (g := (mkF m 6 #[.val (.int p0), .val (.ref b1)] [(.int (-1 : Int32)), (.ref b1)])) rfl (by rw [hml]; rfl) (argsL := [(.ref b1), (.int (-1 : Int32))]) (rest := []) (lenOf pd_0 rfl) rfl (by show 2 * 0 + _ ≤ _; exact Nat.le_of_eq rfl) (hb hby d3_6) (fun _ _ => ⟨rfl, e1, (by decide : 1 + 0 ≤ _), (by decide : 8 + 0 ≤ _)⟩)
  dsimp only [Pt.U, Pt.locs, Pt.cells, Pt.slots] at X3 l3 y3 z3 st3 hQ3
  subst l3 y3 z3
  obtain ⟨rfl, N3q, K3q, A3q⟩ := hQ3
  have N3 := Fr.app N0 N3q
  have Z3 : n0 ≤ T3.heap.size := Nat.le_trans Z1 K3q.1
  have KP3 : Keep h0 T3.heap [] := KP1.trans K3q (allS (Or.inr sz1) all0)
  have K4 : ∀ t, Steps p.tables e below (T3.setTop (mkF m 10 #[.val (.int p0), .val (.ref b1)] [(.ref b1)])) t → Steps p.tables e below (s₁.setTop (mkF m 0 #[.val (.int p0), .unset] [])) t := by
    intro t kt
    show Steps p.tables e below (s₁.setTop (mkF m 0 #[.val (.int p0), .unset] [])) _
    refine XS.iloadN X0.here hx rfl (hb hby d3_0) rfl ?_
    show Steps p.tables e below (s₁.setTop (mkF m 1 #[.val (.int p0), .unset] [(.int p0)])) _
    refine st1 _ ?_
    show Steps p.tables e below (T1.setTop (mkF m 3 #[.val (.int p0), .unset] [(.ref b1)])) _
    refine XS.astoreN X1.here hx rfl (hb hby d3_3) rfl rfl (l' := #[.val (.int p0), .val (.ref b1)]) rfl ?_
    show Steps p.tables e below (T1.setTop (mkF m 4 #[.val (.int p0), .val (.ref b1)] [])) _
    refine XS.aloadN X1.here hx rfl (hb hby d3_4) rfl rfl ?_
    show Steps p.tables e below (T1.setTop (mkF m 5 #[.val (.int p0), .val (.ref b1)] [(.ref b1)])) _
    refine XS.iconst X1.here hx rfl (hb hby d3_5) ?_
    show Steps p.tables e below (T1.setTop (mkF m 6 #[.val (.int p0), .val (.ref b1)] [(.int (-1 : Int32)), (.ref b1)])) _
    refine st3 _ ?_
    show Steps p.tables e below (T3.setTop (mkF m 9 #[.val (.int p0), .val (.ref b1)] [])) _
    refine XS.aloadN X3.here hx rfl (hb hby d3_9) rfl rfl ?_
    exact kt
  obtain ⟨fs, hr, hrun, hended, hW, hsame⟩ := X3.leave (v := some (.ref b1)) (fun h => by rw [Bd.returns] at h; cases h)
  refine ⟨_, _, pre0 _ (K4 _ ?_), hrun, hended, _, _, rfl, ?_, ⟨_, rfl⟩, hW, hsame.mono (by decide) (by decide)⟩
  · show Steps p.tables e below (T3.setTop (mkF m 10 #[.val (.int p0), .val (.ref b1)] [(.ref b1)])) _
    exact retOut X3 hx Bd.returns rfl (Or.inr (Or.inr (Or.inr (Or.inr ⟨rfl, rfl, rfl⟩)))) (hb hby d3_10) hr
  · show Q3 Z p0 n h0 n0 _ T3.heap _
    exact ⟨_, rfl, N3, KP3, sz1, A3q⟩
theorem ef_7 (m : MethodId) (x0 : Int32) : entryFrame m #[(.int x0)] 2 = mkF m 0 #[.val (.int x0), .unset] [] := by first | (simp [entryFrame, mkF, argsToLocals, Value.category]; done) | rfl
theorem d7_0 : decode prog_6_method_12_code 0 = .ok (.iload_n 0, 1) := by decide +kernel
theorem d7_1 : decode prog_6_method_12_code 1 = .ok (.ldc 38, 2) := by decide +kernel
theorem d7_3 : decode prog_6_method_12_code 3 = .ok (.imul, 1) := by decide +kernel
theorem d7_4 : decode prog_6_method_12_code 4 = .ok (.istore_n 1, 1) := by decide +kernel
theorem d7_5 : decode prog_6_method_12_code 5 = .ok (.iload_n 1, 1) := by decide +kernel
theorem d7_6 : decode prog_6_method_12_code 6 = .ok (.iload_n 1, 1) := by decide +kernel
theorem d7_7 : decode prog_6_method_12_code 7 = .ok (.bipush 16, 2) := by decide +kernel
theorem d7_9 : decode prog_6_method_12_code 9 = .ok (.iushr, 1) := by decide +kernel
theorem d7_10 : decode prog_6_method_12_code 10 = .ok (.ixor, 1) := by decide +kernel
theorem d7_11 : decode prog_6_method_12_code 11 = .ok (.ireturn, 1) := by decide +kernel
def f7 (p0 : Int32) : Int32 := ((p0 * (-1640531527 : Int32)) ^^^ (((p0 * (-1640531527 : Int32)).toUInt32 >>> ((16 : Int32) &&& 31).toUInt32).toInt32))
def Q7 (Z : State) (p0 : Int32)  (h0 : Heap) (v : Option Value) (h : Heap) (L : List Loc) : Prop := v = some (.int (f7 p0)) ∧ L = [] ∧ h = h0
set_option maxRecDepth 65536 in
set_option maxHeartbeats 40000000 in
theorem rm7 (l : Launch) (Z : State) (a0 : Array Value) (hw : ∀ d ∈ tables_1, d.before a0 Z = true) (ws : List Jvm.Cond) (p0 : Int32)  (h0 : Heap)  :
    MetFree l (⟨"com/example/mastiff/mastiff/IntMap", "mix", "(I)I"⟩ : MethodName) (head1 (Jvm.Cond.code (⟨"com/example/mastiff/mastiff/IntMap", "mix", "(I)I"⟩ : MethodName) prog_6_method_12_code 2 (some .int) :: ws) ({ frames := 0, cells := 0, slots := 0, locals := 0 } : Room)) (fun a U => a = #[(.int p0)] ∧ Z.Warmed39 U.vm ∧ U.heap = h0) (fun _ _ _ _ _ => True) (fun _ U o U' => ∃ v L, o = .returned v ∧ Q7 Z p0  h0 v U'.heap L ∧ FrameEnd U o U' L ({ frames := 0, cells := 0, slots := 0, locals := 0 } : Room).cells ({ frames := 0, cells := 0, slots := 0, locals := 0 } : Room).slots) := by
  refine MetFree.of_bodySF (plainFor_of_name pn_1) hisR ?_
  intro p e s m args below meth c s₁ Bd hml0 hP hK
  obtain ⟨rfl, hZ, hh⟩ := hP
  have hx := Bd.exec
  have hby := Bd.bytes
  have hml : c.maxLocals = 2 := hml0
  have hown : s.vm.findClass "com/example/mastiff/mastiff/IntMap" = some m.cls := findClass_of_methodNamed Bd.named
  have hnm := (name_of_methodNamed Bd.named Bd.method).1
  have X0 : Stand p l e ({ frames := 0, cells := 0, slots := 0, locals := 0 } : Room) s m #[(.int p0)] below meth c s₁ [] 0 0 := Stand.of_body Bd
  have e0 : s₁.heap = h0 := by rw [← hh, Bd.state]; rfl
  have pre0 : ∀ t, Steps p.tables e below (s₁.setTop (mkF m 0 #[.val (.int p0), .unset] [])) t → Steps p.tables e below (s₁.setTop (entryFrame m #[(.int p0)] 2)) t := fun t k => castTop (ef_7 m p0) k
  have K1 : ∀ t, Steps p.tables e below (s₁.setTop (mkF m 11 #[.val (.int p0), .val (.int (p0 * (-1640531527 : Int32)))] [(.int ((p0 * (-1640531527 : Int32)) ^^^ (((p0 * (-1640531527 : Int32)).toUInt32 >>> ((16 : Int32) &&& 31).toUInt32).toInt32)))])) t → Steps p.tables e below (s₁.setTop (mkF m 0 #[.val (.int p0), .unset] [])) t := by
    intro t kt
    show Steps p.tables e below (s₁.setTop (mkF m 0 #[.val (.int p0), .unset] [])) _
    refine XS.iloadN X0.here hx rfl (hb hby d7_0) rfl ?_
    show Steps p.tables e below (s₁.setTop (mkF m 1 #[.val (.int p0), .unset] [(.int p0)])) _
    refine X0.ldcInt hx hown (mvT hZ (hw _ (List.mem_of_getElem? (i := 34) rfl))) (g := (mkF m 1 #[.val (.int p0), .unset] [(.int p0)])) rfl (hb hby d7_1) _ ?_
    show Steps p.tables e below (s₁.setTop (mkF m 3 #[.val (.int p0), .unset] [(.int (-1640531527 : Int32)), (.int p0)])) _
    refine XS.imul X0.here hx rfl (hb hby d7_3) rfl ?_
    show Steps p.tables e below (s₁.setTop (mkF m 4 #[.val (.int p0), .unset] [(.int (p0 * (-1640531527 : Int32)))])) _
    refine XS.istoreN X0.here hx rfl (hb hby d7_4) rfl (l' := #[.val (.int p0), .val (.int (p0 * (-1640531527 : Int32)))]) rfl ?_
    show Steps p.tables e below (s₁.setTop (mkF m 5 #[.val (.int p0), .val (.int (p0 * (-1640531527 : Int32)))] [])) _
    refine XS.iloadN X0.here hx rfl (hb hby d7_5) rfl ?_
    show Steps p.tables e below (s₁.setTop (mkF m 6 #[.val (.int p0), .val (.int (p0 * (-1640531527 : Int32)))] [(.int (p0 * (-1640531527 : Int32)))])) _
    refine XS.iloadN X0.here hx rfl (hb hby d7_6) rfl ?_
    show Steps p.tables e below (s₁.setTop (mkF m 7 #[.val (.int p0), .val (.int (p0 * (-1640531527 : Int32)))] [(.int (p0 * (-1640531527 : Int32))), (.int (p0 * (-1640531527 : Int32)))])) _
    refine XS.bipush X0.here hx rfl (hb hby d7_7) ?_
    show Steps p.tables e below (s₁.setTop (mkF m 9 #[.val (.int p0), .val (.int (p0 * (-1640531527 : Int32)))] [(.int (16 : Int32)), (.int (p0 * (-1640531527 : Int32))), (.int (p0 * (-1640531527 : Int32)))])) _
    refine XS.iushr X0.here hx rfl (hb hby d7_9) rfl ?_
    show Steps p.tables e below (s₁.setTop (mkF m 10 #[.val (.int p0), .val (.int (p0 * (-1640531527 : Int32)))] [(.int (((p0 * (-1640531527 : Int32)).toUInt32 >>> ((16 : Int32) &&& 31).toUInt32).toInt32)), (.int (p0 * (-1640531527 : Int32)))])) _
    refine XS.ixor X0.here hx rfl (hb hby d7_10) rfl ?_
    exact kt
  have hv : f7 p0 = ((p0 * (-1640531527 : Int32)) ^^^ (((p0 * (-1640531527 : Int32)).toUInt32 >>> ((16 : Int32) &&& 31).toUInt32).toInt32)) := rfl
  obtain ⟨fs, hr, hrun, hended, hW, hsame⟩ := X0.leave (v := some (.int ((p0 * (-1640531527 : Int32)) ^^^ (((p0 * (-1640531527 : Int32)).toUInt32 >>> ((16 : Int32) &&& 31).toUInt32).toInt32)))) (fun h => by rw [Bd.returns] at h; cases h)
  refine ⟨_, _, pre0 _ (K1 _ ?_), hrun, hended, _, _, rfl, ?_, ⟨_, rfl⟩, hW, hsame.mono (by decide) (by decide)⟩
  · show Steps p.tables e below (s₁.setTop (mkF m 11 #[.val (.int p0), .val (.int (p0 * (-1640531527 : Int32)))] [(.int ((p0 * (-1640531527 : Int32)) ^^^ (((p0 * (-1640531527 : Int32)).toUInt32 >>> ((16 : Int32) &&& 31).toUInt32).toInt32)))])) _
    exact retOut X0 hx Bd.returns rfl (Or.inl ⟨rfl, Or.inl rfl, _, rfl⟩) (hb hby d7_11) hr
  · show Q7 Z p0  h0 _ s₁.heap _
    rw [e0]
    exact ⟨by rw [hv], rfl, rfl⟩
theorem d6_15 : decode prog_6_method_10_code 15 = .ok (.aload_n 0, 1) := by decide +kernel
theorem d6_16 : decode prog_6_method_10_code 16 = .ok (.getfield 13, 3) := by decide +kernel
theorem d6_19 : decode prog_6_method_10_code 19 = .ok (.iload_n 3, 1) := by decide +kernel
theorem d6_20 : decode prog_6_method_10_code 20 = .ok (.iaload, 1) := by decide +kernel
theorem d6_21 : decode prog_6_method_10_code 21 = .ok (.iload_n 1, 1) := by decide +kernel
theorem d6_22 : decode prog_6_method_10_code 22 = .ok (.if_icmp .eq 22, 3) := by decide +kernel
set_option maxRecDepth 65536 in
set_option maxHeartbeats 40000000 in
theorem tnK {p : Program} {l : Launch} {e : Env} {s : State} {m : MethodId} {args : Array Value} {below : List Frame} {meth : Method} {c : Code} {T0 : State} {locs : List Loc} {Z : State} {a0 : Array Value} {h0 : Heap} (o0 : Addr) (p1 : Int32) (ka : Addr) (n : Nat) (k : Nat → Int32) (sl : Nat) (n0 : Nat)
    (X0 : Stand p l e ({ frames := 1, cells := 0, slots := 0, locals := 13 } : Room) s m args below meth c T0 locs 0 0) (hx : p.tables.exec = Jvm.exec) (hZ : Z.Warmed39 s.vm) (hw : ∀ d ∈ tables_1, d.before a0 Z = true) (hby : c.code = prog_6_method_10_code) (hml : c.maxLocals = 4) (hown : s.vm.findClass "com/example/mastiff/mastiff/IntMap" = some m.cls) (e0 : T0.heap = h0) (N0 : Fr n0 locs) (Z0 : n0 ≤ h0.size) (F1 : Fld Z h0 o0 "com/example/mastiff/mastiff/IntMap" "keys" "[I" (.ref ka)) (A1 : Ia Z h0 ka .int n k) (hn : n = 4 ∨ n = 8) (hsl : sl < n) (hk : k sl = p1) :
    ∃ (T' : State) (h' : Heap) (locs' : List Loc), Stand p l e ({ frames := 1, cells := 0, slots := 0, locals := 13 } : Room) s m args below meth c T' locs' 0 0 ∧ T'.heap = h' ∧ Fr n0 locs' ∧ n0 ≤ h'.size ∧ h' = h0 ∧ locs' = locs ∧
      ∀ t, Steps p.tables e below (T'.setTop (mkF m 44 #[.val (.ref o0), .val (.int p1), .val (.int ((Int32.ofNat n) - (1 : Int32))), .val (.int (Int32.ofNat sl))] [])) t → Steps p.tables e below (T0.setTop (mkF m 15 #[.val (.ref o0), .val (.int p1), .val (.int ((Int32.ofNat n) - (1 : Int32))), .val (.int (Int32.ofNat sl))] [])) t := by
  obtain ⟨T1, X1, e1, st1⟩ := getF X0 hx hZ hown (host := "") (Or.inl (hw _ (List.mem_of_getElem? (i := 18) rfl))) Via.refl e0 F1 (g := (mkF m 16 #[.val (.ref o0), .val (.int p1), .val (.int ((Int32.ofNat n) - (1 : Int32))), .val (.int (Int32.ofNat sl))] [(.ref o0)])) rfl rfl (hb hby d6_16)
  have K2 : ∀ t, Steps p.tables e below (T1.setTop (mkF m 44 #[.val (.ref o0), .val (.int p1), .val (.int ((Int32.ofNat n) - (1 : Int32))), .val (.int (Int32.ofNat sl))] [])) t → Steps p.tables e below (T0.setTop (mkF m 15 #[.val (.ref o0), .val (.int p1), .val (.int ((Int32.ofNat n) - (1 : Int32))), .val (.int (Int32.ofNat sl))] [])) t := by
    intro t kt
    show Steps p.tables e below (T0.setTop (mkF m 15 #[.val (.ref o0), .val (.int p1), .val (.int ((Int32.ofNat n) - (1 : Int32))), .val (.int (Int32.ofNat sl))] [])) _
    refine XS.aloadN X0.here hx rfl (hb hby d6_15) rfl rfl ?_
    show Steps p.tables e below (T0.setTop (mkF m 16 #[.val (.ref o0), .val (.int p1), .val (.int ((Int32.ofNat n) - (1 : Int32))), .val (.int (Int32.ofNat sl))] [(.ref o0)])) _
    refine st1 _ ?_
    show Steps p.tables e below (T1.setTop (mkF m 19 #[.val (.ref o0), .val (.int p1), .val (.int ((Int32.ofNat n) - (1 : Int32))), .val (.int (Int32.ofNat sl))] [(.ref ka)])) _
    refine XS.iloadN X1.here hx rfl (hb hby d6_19) rfl ?_
    show Steps p.tables e below (T1.setTop (mkF m 20 #[.val (.ref o0), .val (.int p1), .val (.int ((Int32.ofNat n) - (1 : Int32))), .val (.int (Int32.ofNat sl))] [(.int (Int32.ofNat sl)), (.ref ka)])) _
    refine iaLI X1 hx hZ e1 A1 (j := (Int32.ofNat sl)) sl (own_ti hsl (own_le8 hn)) hsl (g := (mkF m 20 #[.val (.ref o0), .val (.int p1), .val (.int ((Int32.ofNat n) - (1 : Int32))), .val (.int (Int32.ofNat sl))] [(.int (Int32.ofNat sl)), (.ref ka)])) rfl rfl (hb hby d6_20) _ ?_
    show Steps p.tables e below (T1.setTop (mkF m 21 #[.val (.ref o0), .val (.int p1), .val (.int ((Int32.ofNat n) - (1 : Int32))), .val (.int (Int32.ofNat sl))] [(.int (k sl))])) _
    refine XS.iloadN X1.here hx rfl (hb hby d6_21) rfl ?_
    show Steps p.tables e below (T1.setTop (mkF m 22 #[.val (.ref o0), .val (.int p1), .val (.int ((Int32.ofNat n) - (1 : Int32))), .val (.int (Int32.ofNat sl))] [(.int p1), (.int (k sl))])) _
    refine XS.icmpYes X1.here hx rfl (pc0 := 22) (pc' := 44) rfl (hb hby d6_22) rfl (teq (show (k sl) = p1 from hk)).1 (by decide) (by decide) ?_
    exact kt
  exact ⟨T1, h0, _, X1, e1, N0, Z0, rfl, rfl, K2⟩
theorem d6_25 : decode prog_6_method_10_code 25 = .ok (.aload_n 0, 1) := by decide +kernel
theorem d6_26 : decode prog_6_method_10_code 26 = .ok (.getfield 13, 3) := by decide +kernel
theorem d6_29 : decode prog_6_method_10_code 29 = .ok (.iload_n 3, 1) := by decide +kernel
theorem d6_30 : decode prog_6_method_10_code 30 = .ok (.iaload, 1) := by decide +kernel
theorem d6_31 : decode prog_6_method_10_code 31 = .ok (.iconst (-1), 1) := by decide +kernel
theorem d6_32 : decode prog_6_method_10_code 32 = .ok (.if_icmp .eq 12, 3) := by decide +kernel
set_option maxRecDepth 65536 in
set_option maxHeartbeats 40000000 in
theorem tnE {p : Program} {l : Launch} {e : Env} {s : State} {m : MethodId} {args : Array Value} {below : List Frame} {meth : Method} {c : Code} {T0 : State} {locs : List Loc} {Z : State} {a0 : Array Value} {h0 : Heap} (o0 : Addr) (p1 : Int32) (ka : Addr) (n : Nat) (k : Nat → Int32) (sl : Nat) (n0 : Nat)
    (X0 : Stand p l e ({ frames := 1, cells := 0, slots := 0, locals := 13 } : Room) s m args below meth c T0 locs 0 0) (hx : p.tables.exec = Jvm.exec) (hZ : Z.Warmed39 s.vm) (hw : ∀ d ∈ tables_1, d.before a0 Z = true) (hby : c.code = prog_6_method_10_code) (hml : c.maxLocals = 4) (hown : s.vm.findClass "com/example/mastiff/mastiff/IntMap" = some m.cls) (e0 : T0.heap = h0) (N0 : Fr n0 locs) (Z0 : n0 ≤ h0.size) (F1 : Fld Z h0 o0 "com/example/mastiff/mastiff/IntMap" "keys" "[I" (.ref ka)) (A1 : Ia Z h0 ka .int n k) (hn : n = 4 ∨ n = 8) (hsl : sl < n) (hk : ¬ k sl = p1) (he : k sl = -1) :
    ∃ (T' : State) (h' : Heap) (locs' : List Loc), Stand p l e ({ frames := 1, cells := 0, slots := 0, locals := 13 } : Room) s m args below meth c T' locs' 0 0 ∧ T'.heap = h' ∧ Fr n0 locs' ∧ n0 ≤ h'.size ∧ h' = h0 ∧ locs' = locs ∧
      ∀ t, Steps p.tables e below (T'.setTop (mkF m 44 #[.val (.ref o0), .val (.int p1), .val (.int ((Int32.ofNat n) - (1 : Int32))), .val (.int (Int32.ofNat sl))] [])) t → Steps p.tables e below (T0.setTop (mkF m 15 #[.val (.ref o0), .val (.int p1), .val (.int ((Int32.ofNat n) - (1 : Int32))), .val (.int (Int32.ofNat sl))] [])) t := by
  obtain ⟨T1, X1, e1, st1⟩ := getF X0 hx hZ hown (host := "") (Or.inl (hw _ (List.mem_of_getElem? (i := 18) rfl))) Via.refl e0 F1 (g := (mkF m 16 #[.val (.ref o0), .val (.int p1), .val (.int ((Int32.ofNat n) - (1 : Int32))), .val (.int (Int32.ofNat sl))] [(.ref o0)])) rfl rfl (hb hby d6_16)
  obtain ⟨T2, X2, e2, st2⟩ := getF X1 hx hZ hown (host := "") (Or.inl (hw _ (List.mem_of_getElem? (i := 18) rfl))) Via.refl e1 F1 (g := (mkF m 26 #[.val (.ref o0), .val (.int p1), .val (.int ((Int32.ofNat n) - (1 : Int32))), .val (.int (Int32.ofNat sl))] [(.ref o0)])) rfl rfl (hb hby d6_26)
  have K3 : ∀ t, Steps p.tables e below (T2.setTop (mkF m 44 #[.val (.ref o0), .val (.int p1), .val (.int ((Int32.ofNat n) - (1 : Int32))), .val (.int (Int32.ofNat sl))] [])) t → Steps p.tables e below (T0.setTop (mkF m 15 #[.val (.ref o0), .val (.int p1), .val (.int ((Int32.ofNat n) - (1 : Int32))), .val (.int (Int32.ofNat sl))] [])) t := by
    intro t kt
    show Steps p.tables e below (T0.setTop (mkF m 15 #[.val (.ref o0), .val (.int p1), .val (.int ((Int32.ofNat n) - (1 : Int32))), .val (.int (Int32.ofNat sl))] [])) _
    refine XS.aloadN X0.here hx rfl (hb hby d6_15) rfl rfl ?_
    show Steps p.tables e below (T0.setTop (mkF m 16 #[.val (.ref o0), .val (.int p1), .val (.int ((Int32.ofNat n) - (1 : Int32))), .val (.int (Int32.ofNat sl))] [(.ref o0)])) _
    refine st1 _ ?_
    show Steps p.tables e below (T1.setTop (mkF m 19 #[.val (.ref o0), .val (.int p1), .val (.int ((Int32.ofNat n) - (1 : Int32))), .val (.int (Int32.ofNat sl))] [(.ref ka)])) _
    refine XS.iloadN X1.here hx rfl (hb hby d6_19) rfl ?_
    show Steps p.tables e below (T1.setTop (mkF m 20 #[.val (.ref o0), .val (.int p1), .val (.int ((Int32.ofNat n) - (1 : Int32))), .val (.int (Int32.ofNat sl))] [(.int (Int32.ofNat sl)), (.ref ka)])) _
    refine iaLI X1 hx hZ e1 A1 (j := (Int32.ofNat sl)) sl (own_ti hsl (own_le8 hn)) hsl (g := (mkF m 20 #[.val (.ref o0), .val (.int p1), .val (.int ((Int32.ofNat n) - (1 : Int32))), .val (.int (Int32.ofNat sl))] [(.int (Int32.ofNat sl)), (.ref ka)])) rfl rfl (hb hby d6_20) _ ?_
    show Steps p.tables e below (T1.setTop (mkF m 21 #[.val (.ref o0), .val (.int p1), .val (.int ((Int32.ofNat n) - (1 : Int32))), .val (.int (Int32.ofNat sl))] [(.int (k sl))])) _
    refine XS.iloadN X1.here hx rfl (hb hby d6_21) rfl ?_
    show Steps p.tables e below (T1.setTop (mkF m 22 #[.val (.ref o0), .val (.int p1), .val (.int ((Int32.ofNat n) - (1 : Int32))), .val (.int (Int32.ofNat sl))] [(.int p1), (.int (k sl))])) _
    refine XS.icmpNo X1.here hx rfl (hb hby d6_22) rfl (feq (show ¬ ((k sl) = p1) from hk)).1 ?_
    show Steps p.tables e below (T1.setTop (mkF m 25 #[.val (.ref o0), .val (.int p1), .val (.int ((Int32.ofNat n) - (1 : Int32))), .val (.int (Int32.ofNat sl))] [])) _
    refine XS.aloadN X1.here hx rfl (hb hby d6_25) rfl rfl ?_
    show Steps p.tables e below (T1.setTop (mkF m 26 #[.val (.ref o0), .val (.int p1), .val (.int ((Int32.ofNat n) - (1 : Int32))), .val (.int (Int32.ofNat sl))] [(.ref o0)])) _
    refine st2 _ ?_
    show Steps p.tables e below (T2.setTop (mkF m 29 #[.val (.ref o0), .val (.int p1), .val (.int ((Int32.ofNat n) - (1 : Int32))), .val (.int (Int32.ofNat sl))] [(.ref ka)])) _
    refine XS.iloadN X2.here hx rfl (hb hby d6_29) rfl ?_
    show Steps p.tables e below (T2.setTop (mkF m 30 #[.val (.ref o0), .val (.int p1), .val (.int ((Int32.ofNat n) - (1 : Int32))), .val (.int (Int32.ofNat sl))] [(.int (Int32.ofNat sl)), (.ref ka)])) _
    refine iaLI X2 hx hZ e2 A1 (j := (Int32.ofNat sl)) sl (own_ti hsl (own_le8 hn)) hsl (g := (mkF m 30 #[.val (.ref o0), .val (.int p1), .val (.int ((Int32.ofNat n) - (1 : Int32))), .val (.int (Int32.ofNat sl))] [(.int (Int32.ofNat sl)), (.ref ka)])) rfl rfl (hb hby d6_30) _ ?_
    show Steps p.tables e below (T2.setTop (mkF m 31 #[.val (.ref o0), .val (.int p1), .val (.int ((Int32.ofNat n) - (1 : Int32))), .val (.int (Int32.ofNat sl))] [(.int (k sl))])) _
    refine XS.iconst X2.here hx rfl (hb hby d6_31) ?_
    show Steps p.tables e below (T2.setTop (mkF m 32 #[.val (.ref o0), .val (.int p1), .val (.int ((Int32.ofNat n) - (1 : Int32))), .val (.int (Int32.ofNat sl))] [(.int (-1 : Int32)), (.int (k sl))])) _
    refine XS.icmpYes X2.here hx rfl (pc0 := 32) (pc' := 44) rfl (hb hby d6_32) rfl (teq (show (k sl) = (-1 : Int32) from he)).1 (by decide) (by decide) ?_
    exact kt
  exact ⟨T2, h0, _, X2, e2, N0, Z0, rfl, rfl, K3⟩
theorem d6_35 : decode prog_6_method_10_code 35 = .ok (.iload_n 3, 1) := by decide +kernel
theorem d6_36 : decode prog_6_method_10_code 36 = .ok (.iconst 1, 1) := by decide +kernel
theorem d6_37 : decode prog_6_method_10_code 37 = .ok (.iadd, 1) := by decide +kernel
theorem d6_38 : decode prog_6_method_10_code 38 = .ok (.iload_n 2, 1) := by decide +kernel
theorem d6_39 : decode prog_6_method_10_code 39 = .ok (.iand, 1) := by decide +kernel
theorem d6_40 : decode prog_6_method_10_code 40 = .ok (.istore_n 3, 1) := by decide +kernel
theorem d6_41 : decode prog_6_method_10_code 41 = .ok (.goto (-26), 3) := by decide +kernel
set_option maxRecDepth 65536 in
set_option maxHeartbeats 40000000 in
theorem tnT {p : Program} {l : Launch} {e : Env} {s : State} {m : MethodId} {args : Array Value} {below : List Frame} {meth : Method} {c : Code} {T0 : State} {locs : List Loc} {Z : State} {a0 : Array Value} {h0 : Heap} (o0 : Addr) (p1 : Int32) (ka : Addr) (n : Nat) (k : Nat → Int32) (sl : Nat) (n0 : Nat)
    (X0 : Stand p l e ({ frames := 1, cells := 0, slots := 0, locals := 13 } : Room) s m args below meth c T0 locs 0 0) (hx : p.tables.exec = Jvm.exec) (hZ : Z.Warmed39 s.vm) (hw : ∀ d ∈ tables_1, d.before a0 Z = true) (hby : c.code = prog_6_method_10_code) (hml : c.maxLocals = 4) (hown : s.vm.findClass "com/example/mastiff/mastiff/IntMap" = some m.cls) (e0 : T0.heap = h0) (N0 : Fr n0 locs) (Z0 : n0 ≤ h0.size) (F1 : Fld Z h0 o0 "com/example/mastiff/mastiff/IntMap" "keys" "[I" (.ref ka)) (A1 : Ia Z h0 ka .int n k) (hn : n = 4 ∨ n = 8) (hsl : sl < n) (hk : ¬ k sl = p1) (he : ¬ k sl = -1) :
    ∃ (T' : State) (h' : Heap) (locs' : List Loc), Stand p l e ({ frames := 1, cells := 0, slots := 0, locals := 13 } : Room) s m args below meth c T' locs' 0 0 ∧ T'.heap = h' ∧ Fr n0 locs' ∧ n0 ≤ h'.size ∧ h' = h0 ∧ locs' = locs ∧
      ∀ t, Steps p.tables e below (T'.setTop (mkF m 15 #[.val (.ref o0), .val (.int p1), .val (.int ((Int32.ofNat n) - (1 : Int32))), .val (.int (((Int32.ofNat sl) + (1 : Int32)) &&& ((Int32.ofNat n) - (1 : Int32))))] [])) t → Steps p.tables e below (T0.setTop (mkF m 15 #[.val (.ref o0), .val (.int p1), .val (.int ((Int32.ofNat n) - (1 : Int32))), .val (.int (Int32.ofNat sl))] [])) t := by
  obtain ⟨T1, X1, e1, st1⟩ := getF X0 hx hZ hown (host := "") (Or.inl (hw _ (List.mem_of_getElem? (i := 18) rfl))) Via.refl e0 F1 (g := (mkF m 16 #[.val (.ref o0), .val (.int p1), .val (.int ((Int32.ofNat n) - (1 : Int32))), .val (.int (Int32.ofNat sl))] [(.ref o0)])) rfl rfl (hb hby d6_16)
  obtain ⟨T2, X2, e2, st2⟩ := getF X1 hx hZ hown (host := "") (Or.inl (hw _ (List.mem_of_getElem? (i := 18) rfl))) Via.refl e1 F1 (g := (mkF m 26 #[.val (.ref o0), .val (.int p1), .val (.int ((Int32.ofNat n) - (1 : Int32))), .val (.int (Int32.ofNat sl))] [(.ref o0)])) rfl rfl (hb hby d6_26)
  have K3 : ∀ t, Steps p.tables e below (T2.setTop (mkF m 15 #[.val (.ref o0), .val (.int p1), .val (.int ((Int32.ofNat n) - (1 : Int32))), .val (.int (((Int32.ofNat sl) + (1 : Int32)) &&& ((Int32.ofNat n) - (1 : Int32))))] [])) t → Steps p.tables e below (T0.setTop (mkF m 15 #[.val (.ref o0), .val (.int p1), .val (.int ((Int32.ofNat n) - (1 : Int32))), .val (.int (Int32.ofNat sl))] [])) t := by
    intro t kt
    show Steps p.tables e below (T0.setTop (mkF m 15 #[.val (.ref o0), .val (.int p1), .val (.int ((Int32.ofNat n) - (1 : Int32))), .val (.int (Int32.ofNat sl))] [])) _
    refine XS.aloadN X0.here hx rfl (hb hby d6_15) rfl rfl ?_
    show Steps p.tables e below (T0.setTop (mkF m 16 #[.val (.ref o0), .val (.int p1), .val (.int ((Int32.ofNat n) - (1 : Int32))), .val (.int (Int32.ofNat sl))] [(.ref o0)])) _
    refine st1 _ ?_
    show Steps p.tables e below (T1.setTop (mkF m 19 #[.val (.ref o0), .val (.int p1), .val (.int ((Int32.ofNat n) - (1 : Int32))), .val (.int (Int32.ofNat sl))] [(.ref ka)])) _
    refine XS.iloadN X1.here hx rfl (hb hby d6_19) rfl ?_
    show Steps p.tables e below (T1.setTop (mkF m 20 #[.val (.ref o0), .val (.int p1), .val (.int ((Int32.ofNat n) - (1 : Int32))), .val (.int (Int32.ofNat sl))] [(.int (Int32.ofNat sl)), (.ref ka)])) _
    refine iaLI X1 hx hZ e1 A1 (j := (Int32.ofNat sl)) sl (own_ti hsl (own_le8 hn)) hsl (g := (mkF m 20 #[.val (.ref o0), .val (.int p1), .val (.int ((Int32.ofNat n) - (1 : Int32))), .val (.int (Int32.ofNat sl))] [(.int (Int32.ofNat sl)), (.ref ka)])) rfl rfl (hb hby d6_20) _ ?_
    show Steps p.tables e below (T1.setTop (mkF m 21 #[.val (.ref o0), .val (.int p1), .val (.int ((Int32.ofNat n) - (1 : Int32))), .val (.int (Int32.ofNat sl))] [(.int (k sl))])) _
    refine XS.iloadN X1.here hx rfl (hb hby d6_21) rfl ?_
    show Steps p.tables e below (T1.setTop (mkF m 22 #[.val (.ref o0), .val (.int p1), .val (.int ((Int32.ofNat n) - (1 : Int32))), .val (.int (Int32.ofNat sl))] [(.int p1), (.int (k sl))])) _
    refine XS.icmpNo X1.here hx rfl (hb hby d6_22) rfl (feq (show ¬ ((k sl) = p1) from hk)).1 ?_
    show Steps p.tables e below (T1.setTop (mkF m 25 #[.val (.ref o0), .val (.int p1), .val (.int ((Int32.ofNat n) - (1 : Int32))), .val (.int (Int32.ofNat sl))] [])) _
    refine XS.aloadN X1.here hx rfl (hb hby d6_25) rfl rfl ?_
    show Steps p.tables e below (T1.setTop (mkF m 26 #[.val (.ref o0), .val (.int p1), .val (.int ((Int32.ofNat n) - (1 : Int32))), .val (.int (Int32.ofNat sl))] [(.ref o0)])) _
    refine st2 _ ?_
    show Steps p.tables e below (T2.setTop (mkF m 29 #[.val (.ref o0), .val (.int p1), .val (.int ((Int32.ofNat n) - (1 : Int32))), .val (.int (Int32.ofNat sl))] [(.ref ka)])) _
    refine XS.iloadN X2.here hx rfl (hb hby d6_29) rfl ?_
    show Steps p.tables e below (T2.setTop (mkF m 30 #[.val (.ref o0), .val (.int p1), .val (.int ((Int32.ofNat n) - (1 : Int32))), .val (.int (Int32.ofNat sl))] [(.int (Int32.ofNat sl)), (.ref ka)])) _
    refine iaLI X2 hx hZ e2 A1 (j := (Int32.ofNat sl)) sl (own_ti hsl (own_le8 hn)) hsl (g := (mkF m 30 #[.val (.ref o0), .val (.int p1), .val (.int ((Int32.ofNat n) - (1 : Int32))), .val (.int (Int32.ofNat sl))] [(.int (Int32.ofNat sl)), (.ref ka)])) rfl rfl (hb hby d6_30) _ ?_
    show Steps p.tables e below (T2.setTop (mkF m 31 #[.val (.ref o0), .val (.int p1), .val (.int ((Int32.ofNat n) - (1 : Int32))), .val (.int (Int32.ofNat sl))] [(.int (k sl))])) _
    refine XS.iconst X2.here hx rfl (hb hby d6_31) ?_
    show Steps p.tables e below (T2.setTop (mkF m 32 #[.val (.ref o0), .val (.int p1), .val (.int ((Int32.ofNat n) - (1 : Int32))), .val (.int (Int32.ofNat sl))] [(.int (-1 : Int32)), (.int (k sl))])) _
    refine XS.icmpNo X2.here hx rfl (hb hby d6_32) rfl (feq (show ¬ ((k sl) = (-1 : Int32)) from he)).1 ?_
    show Steps p.tables e below (T2.setTop (mkF m 35 #[.val (.ref o0), .val (.int p1), .val (.int ((Int32.ofNat n) - (1 : Int32))), .val (.int (Int32.ofNat sl))] [])) _
    refine XS.iloadN X2.here hx rfl (hb hby d6_35) rfl ?_
    show Steps p.tables e below (T2.setTop (mkF m 36 #[.val (.ref o0), .val (.int p1), .val (.int ((Int32.ofNat n) - (1 : Int32))), .val (.int (Int32.ofNat sl))] [(.int (Int32.ofNat sl))])) _
    refine XS.iconst X2.here hx rfl (hb hby d6_36) ?_
    show Steps p.tables e below (T2.setTop (mkF m 37 #[.val (.ref o0), .val (.int p1), .val (.int ((Int32.ofNat n) - (1 : Int32))), .val (.int (Int32.ofNat sl))] [(.int (1 : Int32)), (.int (Int32.ofNat sl))])) _
    refine XS.iadd X2.here hx rfl (hb hby d6_37) rfl ?_
    show Steps p.tables e below (T2.setTop (mkF m 38 #[.val (.ref o0), .val (.int p1), .val (.int ((Int32.ofNat n) - (1 : Int32))), .val (.int (Int32.ofNat sl))] [(.int ((Int32.ofNat sl) + (1 : Int32)))])) _
    refine XS.iloadN X2.here hx rfl (hb hby d6_38) rfl ?_
    show Steps p.tables e below (T2.setTop (mkF m 39 #[.val (.ref o0), .val (.int p1), .val (.int ((Int32.ofNat n) - (1 : Int32))), .val (.int (Int32.ofNat sl))] [(.int ((Int32.ofNat n) - (1 : Int32))), (.int ((Int32.ofNat sl) + (1 : Int32)))])) _
    refine XS.iand X2.here hx rfl (hb hby d6_39) rfl ?_
    show Steps p.tables e below (T2.setTop (mkF m 40 #[.val (.ref o0), .val (.int p1), .val (.int ((Int32.ofNat n) - (1 : Int32))), .val (.int (Int32.ofNat sl))] [(.int (((Int32.ofNat sl) + (1 : Int32)) &&& ((Int32.ofNat n) - (1 : Int32))))])) _
    refine XS.istoreN X2.here hx rfl (hb hby d6_40) rfl (l' := #[.val (.ref o0), .val (.int p1), .val (.int ((Int32.ofNat n) - (1 : Int32))), .val (.int (((Int32.ofNat sl) + (1 : Int32)) &&& ((Int32.ofNat n) - (1 : Int32))))]) rfl ?_
    show Steps p.tables e below (T2.setTop (mkF m 41 #[.val (.ref o0), .val (.int p1), .val (.int ((Int32.ofNat n) - (1 : Int32))), .val (.int (((Int32.ofNat sl) + (1 : Int32)) &&& ((Int32.ofNat n) - (1 : Int32))))] [])) _
    refine XS.goto X2.here hx rfl (pc0 := 41) (pc' := 15) rfl (hb hby d6_41) (by decide) (by decide) ?_
    exact kt
  exact ⟨T2, h0, _, X2, e2, N0, Z0, rfl, rfl, K3⟩
-- BY HAND: where a key's search begins; the search
def Hn (n : Nat) (key : Int32) : Nat := ((f7 key).toInt % (n : Int)).toNat
theorem own_home {n : Nat} (hn : n = 4 ∨ n = 8) (x : Int32) : ((f7 x) &&& ((Int32.ofNat n) - (1 : Int32))) = Int32.ofNat (Hn n x) := own_mask hn _
theorem own_hlt {n : Nat} (hn : n = 4 ∨ n = 8) (x : Int32) : Hn n x < n := by unfold Hn; rcases hn with rfl | rfl <;> omega
theorem own_slot {p : Program} {l : Launch} {e : Env} {s : State} {m : MethodId} {args : Array Value} {below : List Frame} {meth : Method} {c : Code} {Z : State} {a0 : Array Value} {locs : List Loc} {h0 : Heap} (d : Nat) : ∀ {T0 : State} (o0 : Addr) (p1 : Int32) (ka : Addr) (n : Nat) (k : Nat → Int32) (sl i sN n0 : Nat)
    (X0 : Stand p l e ({ frames := 1, cells := 0, slots := 0, locals := 13 } : Room) s m args below meth c T0 locs 0 0) (hx : p.tables.exec = Jvm.exec) (hZ : Z.Warmed39 s.vm) (hw : ∀ d ∈ tables_1, d.before a0 Z = true) (hby : c.code = prog_6_method_10_code) (hml : c.maxLocals = 4) (hown : s.vm.findClass "com/example/mastiff/mastiff/IntMap" = some m.cls) (e0 : T0.heap = h0) (N0 : Fr n0 locs) (Z0 : n0 ≤ h0.size)
    (F1 : Fld Z h0 o0 "com/example/mastiff/mastiff/IntMap" "keys" "[I" (.ref ka)) (A1 : Ia Z h0 ka .int n k) (hn : n = 4 ∨ n = 8) (hsl : sl = (Hn n p1 + i) % n) (hpa : ∀ i', i' < i + d → k ((Hn n p1 + i') % n) ≠ p1 ∧ k ((Hn n p1 + i') % n) ≠ -1) (hor : k sN = p1 ∨ k sN = -1) (hs : sN = (Hn n p1 + (i + d)) % n),
    ∃ T' : State, Stand p l e ({ frames := 1, cells := 0, slots := 0, locals := 13 } : Room) s m args below meth c T' locs 0 0 ∧ T'.heap = h0 ∧
      ∀ t, Steps p.tables e below (T'.setTop (mkF m 44 #[.val (.ref o0), .val (.int p1), .val (.int ((Int32.ofNat n) - (1 : Int32))), .val (.int (Int32.ofNat sN))] [])) t → Steps p.tables e below (T0.setTop (mkF m 15 #[.val (.ref o0), .val (.int p1), .val (.int ((Int32.ofNat n) - (1 : Int32))), .val (.int (Int32.ofNat sl))] [])) t := by
  induction d with
  | zero =>
    intro T0 o0 p1 ka n k sl i sN n0 X0 hx hZ hw hby hml hown e0 N0 Z0 F1 A1 hn hsl hpa hor hs
    obtain rfl : sN = sl := by rw [hs, hsl, Nat.add_zero]
    have hlt : sN < n := by rw [hsl]; exact Nat.mod_lt _ (by omega)
    by_cases q : k sN = p1
    · obtain ⟨T', h', L', X', e', -, -, rfl, rfl, st⟩ := tnK o0 p1 ka n k sN n0 X0 hx hZ hw hby hml hown e0 N0 Z0 F1 A1 hn hlt q
      exact ⟨T', X', e', st⟩
    · obtain ⟨T', h', L', X', e', -, -, rfl, rfl, st⟩ := tnE o0 p1 ka n k sN n0 X0 hx hZ hw hby hml hown e0 N0 Z0 F1 A1 hn hlt q (hor.resolve_left q)
      exact ⟨T', X', e', st⟩
  | succ d ih =>
    intro T0 o0 p1 ka n k sl i sN n0 X0 hx hZ hw hby hml hown e0 N0 Z0 F1 A1 hn hsl hpa hor hs
    have hlt : sl < n := by rw [hsl]; exact Nat.mod_lt _ (by omega)
    have hno := hpa i (by omega)
    rw [← hsl] at hno
    obtain ⟨T1, h1, L1, X1, e1, N1, Z1, rfl, rfl, st1⟩ := tnT o0 p1 ka n k sl n0 X0 hx hZ hw hby hml hown e0 N0 Z0 F1 A1 hn hlt hno.1 hno.2
    rw [own_next hn hlt] at st1
    obtain ⟨T2, X2, e2, st2⟩ := ih o0 p1 ka n k ((sl + 1) % n) (i + 1) sN n0 X1 hx hZ hw hby hml hown e1 N1 Z1 F1 A1 hn (by rw [hsl, Nat.mod_add_mod]; rfl) (fun i' hi' => hpa i' (by omega)) hor (by rw [hs]; congr 1; omega)
    exact ⟨T2, X2, e2, fun t kt => st1 t (st2 t kt)⟩
theorem ef_6 (m : MethodId) (x0 : Addr) (x1 : Int32) : entryFrame m #[(.ref x0), (.int x1)] 4 = mkF m 0 #[.val (.ref x0), .val (.int x1), .unset, .unset] [] := by first | (simp [entryFrame, mkF, argsToLocals, Value.category]; done) | rfl
theorem d6_0 : decode prog_6_method_10_code 0 = .ok (.aload_n 0, 1) := by decide +kernel
theorem d6_1 : decode prog_6_method_10_code 1 = .ok (.getfield 13, 3) := by decide +kernel
theorem d6_4 : decode prog_6_method_10_code 4 = .ok (.arraylength, 1) := by decide +kernel
theorem d6_5 : decode prog_6_method_10_code 5 = .ok (.iconst 1, 1) := by decide +kernel
theorem d6_6 : decode prog_6_method_10_code 6 = .ok (.isub, 1) := by decide +kernel
theorem d6_7 : decode prog_6_method_10_code 7 = .ok (.istore_n 2, 1) := by decide +kernel
theorem d6_8 : decode prog_6_method_10_code 8 = .ok (.iload_n 1, 1) := by decide +kernel
theorem d6_9 : decode prog_6_method_10_code 9 = .ok (.invokestatic 35, 3) := by decide +kernel
theorem pd_1 : parseMethodDescriptor "(I)I" = some ⟨[.int], some .int⟩ := by decide +kernel
theorem d6_12 : decode prog_6_method_10_code 12 = .ok (.iload_n 2, 1) := by decide +kernel
theorem d6_13 : decode prog_6_method_10_code 13 = .ok (.iand, 1) := by decide +kernel
theorem d6_14 : decode prog_6_method_10_code 14 = .ok (.istore_n 3, 1) := by decide +kernel
theorem d6_44 : decode prog_6_method_10_code 44 = .ok (.iload_n 3, 1) := by decide +kernel
theorem d6_45 : decode prog_6_method_10_code 45 = .ok (.ireturn, 1) := by decide +kernel
def Q6 (Z : State) (o0 : Addr) (p1 : Int32) (ka : Addr) (n : Nat) (k : Nat → Int32) (h0 : Heap) (n0 : Nat) (v : Option Value) (h : Heap) (L : List Loc) : Prop := ∃ sN, v = some (.int (Int32.ofNat sN)) ∧ L = [] ∧ h = h0 ∧ At' (Hn n) k n p1 sN
set_option maxRecDepth 65536 in
set_option maxHeartbeats 40000000 in
theorem rm6 (l : Launch) (Z : State) (a0 : Array Value) (hw : ∀ d ∈ tables_1, d.before a0 Z = true) (ws : List Jvm.Cond) (o0 : Addr) (p1 : Int32) (ka : Addr) (n : Nat) (k : Nat → Int32) (h0 : Heap) (n0 : Nat) (Z0 : n0 ≤ h0.size) (F1 : Fld Z h0 o0 "com/example/mastiff/mastiff/IntMap" "keys" "[I" (.ref ka)) (A1 : Ia Z h0 ka .int n k) (hn : n = 4 ∨ n = 8) (hemp : ∃ j, j < n ∧ k j = -1) :
    MetFree l (⟨"com/example/mastiff/mastiff/IntMap", "slotOf", "(I)I"⟩ : MethodName) (head1 (Jvm.Cond.code (⟨"com/example/mastiff/mastiff/IntMap", "slotOf", "(I)I"⟩ : MethodName) prog_6_method_10_code 4 (some .int) :: ws) ({ frames := 1, cells := 0, slots := 0, locals := 13 } : Room)) (fun a U => a = #[(.ref o0), (.int p1)] ∧ Z.Warmed39 U.vm ∧ U.heap = h0) (fun _ _ _ _ _ => True) (fun _ U o U' => ∃ v L, o = .returned v ∧ Q6 Z o0 p1 ka n k h0 n0 v U'.heap L ∧ FrameEnd U o U' L ({ frames := 1, cells := 0, slots := 0, locals := 13 } : Room).cells ({ frames := 1, cells := 0, slots := 0, locals := 13 } : Room).slots) := by
  refine MetFree.of_bodySF (plainFor_of_name pn_1) hisR ?_
  intro p e s m args below meth c s₁ Bd hml0 hP hK
  obtain ⟨rfl, hZ, hh⟩ := hP
  have hx := Bd.exec
  have hby := Bd.bytes
  have hml : c.maxLocals = 4 := hml0
  have hown : s.vm.findClass "com/example/mastiff/mastiff/IntMap" = some m.cls := findClass_of_methodNamed Bd.named
  have hnm := (name_of_methodNamed Bd.named Bd.method).1
  have X0 : Stand p l e ({ frames := 1, cells := 0, slots := 0, locals := 13 } : Room) s m #[(.ref o0), (.int p1)] below meth c s₁ [] 0 0 := Stand.of_body Bd
  have e0 : s₁.heap = h0 := by rw [← hh, Bd.state]; rfl
  have pre0 : ∀ t, Steps p.tables e below (s₁.setTop (mkF m 0 #[.val (.ref o0), .val (.int p1), .unset, .unset] [])) t → Steps p.tables e below (s₁.setTop (entryFrame m #[(.ref o0), (.int p1)] 4)) t := fun t k => castTop (ef_6 m o0 p1) k
  have N0 := Fr.nil n0
  obtain ⟨T1, X1, e1, st1⟩ := getF X0 hx hZ hown (host := "") (Or.inl (hw _ (List.mem_of_getElem? (i := 18) rfl))) Via.refl e0 F1 (g := (mkF m 1 #[.val (.ref o0), .val (.int p1), .unset, .unset] [(.ref o0)])) rfl rfl (hb hby d6_1)
  obtain ⟨_, _, ⟨T2, L2, k2, n2⟩, -, X2, ⟨Lc2, hQ2, l2, y2, z2⟩, st2⟩ := Jvm.LawKit.callS X1 hx (y := (⟨"com/example/mastiff/mastiff/IntMap", "mix", "(I)I"⟩ : MethodName)) hown (mvT hZ (hw _ (List.mem_of_getElem? (i := 31) rfl))) (mvT hZ (hw _ (List.mem_of_getElem? (i := 32) rfl))) (mvT hZ (hw _ (List.mem_of_getElem? (i := 3) rfl))) (mvT hZ (hw _ (List.mem_of_getElem? (i := 33) rfl))) (by decide) (backOf (W := 0) (rm7 l Z a0 hw [] p1  h0 ) hZ (hw _ (List.mem_of_getElem? (i := 33) rfl)) (hw _ (List.mem_of_getElem? (i := 3) rfl)) (by decide) (by decide)) (g := (mkF m 9 #[.val (.ref o0), .val (.int p1), .val (.int ((Int32.ofNat n) - (1 : Int32))), .unset] [(.int p1)])) rfl (by rw [hml]; rfl) (argsL := [(.int p1)]) (rest := []) (lenOf pd_1 rfl) rfl (by show 2 * 0 + _ ≤ _; exact Nat.le_of_eq rfl) (hb hby d6_9) (fun _ _ => ⟨rfl, e1, (by decide : 0 + 0 ≤ _), (by decide : 0 + 0 ≤ _)⟩)
  dsimp only [Pt.U, Pt.locs, Pt.cells, Pt.slots] at X2 l2 y2 z2 st2 hQ2
  subst l2 y2 z2
  obtain ⟨rfl, rfl, e2⟩ := hQ2
  try rw [List.append_nil] at X2
  have K3 : ∀ t, Steps p.tables e below (T2.setTop (mkF m 15 #[.val (.ref o0), .val (.int p1), .val (.int ((Int32.ofNat n) - (1 : Int32))), .val (.int ((f7 p1) &&& ((Int32.ofNat n) - (1 : Int32))))] [])) t → Steps p.tables e below (s₁.setTop (mkF m 0 #[.val (.ref o0), .val (.int p1), .unset, .unset] [])) t := by
    intro t kt
    show Steps p.tables e below (s₁.setTop (mkF m 0 #[.val (.ref o0), .val (.int p1), .unset, .unset] [])) _
    refine XS.aloadN X0.here hx rfl (hb hby d6_0) rfl rfl ?_
    show Steps p.tables e below (s₁.setTop (mkF m 1 #[.val (.ref o0), .val (.int p1), .unset, .unset] [(.ref o0)])) _
    refine st1 _ ?_
    show Steps p.tables e below (T1.setTop (mkF m 4 #[.val (.ref o0), .val (.int p1), .unset, .unset] [(.ref ka)])) _
    refine iaLen X1 hx hZ e1 A1 (g := (mkF m 4 #[.val (.ref o0), .val (.int p1), .unset, .unset] [(.ref ka)])) rfl rfl (hb hby d6_4) _ ?_
    show Steps p.tables e below (T1.setTop (mkF m 5 #[.val (.ref o0), .val (.int p1), .unset, .unset] [(.int (Int32.ofNat n))])) _
    refine XS.iconst X1.here hx rfl (hb hby d6_5) ?_
    show Steps p.tables e below (T1.setTop (mkF m 6 #[.val (.ref o0), .val (.int p1), .unset, .unset] [(.int (1 : Int32)), (.int (Int32.ofNat n))])) _
    refine XS.isub X1.here hx rfl (hb hby d6_6) rfl ?_
    show Steps p.tables e below (T1.setTop (mkF m 7 #[.val (.ref o0), .val (.int p1), .unset, .unset] [(.int ((Int32.ofNat n) - (1 : Int32)))])) _
    refine XS.istoreN X1.here hx rfl (hb hby d6_7) rfl (l' := #[.val (.ref o0), .val (.int p1), .val (.int ((Int32.ofNat n) - (1 : Int32))), .unset]) rfl ?_
    show Steps p.tables e below (T1.setTop (mkF m 8 #[.val (.ref o0), .val (.int p1), .val (.int ((Int32.ofNat n) - (1 : Int32))), .unset] [])) _
    refine XS.iloadN X1.here hx rfl (hb hby d6_8) rfl ?_
    show Steps p.tables e below (T1.setTop (mkF m 9 #[.val (.ref o0), .val (.int p1), .val (.int ((Int32.ofNat n) - (1 : Int32))), .unset] [(.int p1)])) _
    refine st2 _ ?_
    show Steps p.tables e below (T2.setTop (mkF m 12 #[.val (.ref o0), .val (.int p1), .val (.int ((Int32.ofNat n) - (1 : Int32))), .unset] [(.int (f7 p1))])) _
    refine XS.iloadN X2.here hx rfl (hb hby d6_12) rfl ?_
    show Steps p.tables e below (T2.setTop (mkF m 13 #[.val (.ref o0), .val (.int p1), .val (.int ((Int32.ofNat n) - (1 : Int32))), .unset] [(.int ((Int32.ofNat n) - (1 : Int32))), (.int (f7 p1))])) _
    refine XS.iand X2.here hx rfl (hb hby d6_13) rfl ?_
    show Steps p.tables e below (T2.setTop (mkF m 14 #[.val (.ref o0), .val (.int p1), .val (.int ((Int32.ofNat n) - (1 : Int32))), .unset] [(.int ((f7 p1) &&& ((Int32.ofNat n) - (1 : Int32))))])) _
    refine XS.istoreN X2.here hx rfl (hb hby d6_14) rfl (l' := #[.val (.ref o0), .val (.int p1), .val (.int ((Int32.ofNat n) - (1 : Int32))), .val (.int ((f7 p1) &&& ((Int32.ofNat n) - (1 : Int32))))]) rfl ?_
    exact kt
  rw [own_home hn p1] at K3
  obtain ⟨sN, hat⟩ := at_ex (H := Hn n) (k := k) (n := n) (key := p1) hemp
  have hat2 := hat
  obtain ⟨hor, i0, hsi, hpa⟩ := hat2
  obtain ⟨T9, X9, e9, st9⟩ := own_slot i0 o0 p1 ka n k (Hn n p1) 0 sN n0 X2 hx hZ hw hby hml hown e2 N0 Z0 F1 A1 hn (by rw [Nat.add_zero, Nat.mod_eq_of_lt (own_hlt hn p1)]) (fun i' hi' => hpa i' (by omega)) hor (by rw [hsi, Nat.zero_add])
  have K4 : ∀ t, Steps p.tables e below (T9.setTop (mkF m 45 #[.val (.ref o0), .val (.int p1), .val (.int ((Int32.ofNat n) - (1 : Int32))), .val (.int (Int32.ofNat sN))] [(.int (Int32.ofNat sN))])) t → Steps p.tables e below (s₁.setTop (mkF m 0 #[.val (.ref o0), .val (.int p1), .unset, .unset] [])) t := by
    intro t kt
    refine K3 _ ?_
    show Steps p.tables e below (T2.setTop (mkF m 15 #[.val (.ref o0), .val (.int p1), .val (.int ((Int32.ofNat n) - (1 : Int32))), .val (.int (Int32.ofNat (Hn n p1)))] [])) _
    refine st9 _ ?_
    show Steps p.tables e below (T9.setTop (mkF m 44 #[.val (.ref o0), .val (.int p1), .val (.int ((Int32.ofNat n) - (1 : Int32))), .val (.int (Int32.ofNat sN))] [])) _
    refine XS.iloadN X9.here hx rfl (hb hby d6_44) rfl ?_
    exact kt
  obtain ⟨fs, hr, hrun, hended, hW, hsame⟩ := X9.leave (v := some (.int (Int32.ofNat sN))) (fun h => by rw [Bd.returns] at h; cases h)
  refine ⟨_, _, pre0 _ (K4 _ ?_), hrun, hended, _, _, rfl, ?_, ⟨_, rfl⟩, hW, hsame.mono (by decide) (by decide)⟩
  · show Steps p.tables e below (T9.setTop (mkF m 45 #[.val (.ref o0), .val (.int p1), .val (.int ((Int32.ofNat n) - (1 : Int32))), .val (.int (Int32.ofNat sN))] [(.int (Int32.ofNat sN))])) _
    exact retOut X9 hx Bd.returns rfl (Or.inl ⟨rfl, Or.inl rfl, _, rfl⟩) (hb hby d6_45) hr
  · show Q6 Z o0 p1 ka n k h0 n0 _ T9.heap _
    rw [e9]
    exact ⟨sN, rfl, rfl, rfl, hat⟩
-- BY HAND: an IntMap, whole
abbrev IM : String := "com/example/mastiff/mastiff/IntMap"
def Im (Z : State) (h : Heap) (n0 : Nat) (o : Addr) (M : Int32 → Option Int32) (q : Nat) : Prop :=
  ∃ (ka va : Addr) (n : Nat) (k v : Nat → Int32), Exa Z h o "com/example/mastiff/mastiff/IntMap" ∧ Fld Z h o "com/example/mastiff/mastiff/IntMap" "keys" "[I" (.ref ka) ∧ Fld Z h o "com/example/mastiff/mastiff/IntMap" "values" "[I" (.ref va) ∧ Fld Z h o "com/example/mastiff/mastiff/IntMap" "size" "I" (.int (Int32.ofNat q)) ∧ Ia Z h ka .int n k ∧ Ia Z h va .int n v ∧
    n0 ≤ o ∧ n0 ≤ ka ∧ n0 ≤ va ∧ o ≠ ka ∧ o ≠ va ∧ ka ≠ va ∧ (n = 4 ∨ n = 8) ∧ 2 * q ≤ n ∧ cnt k n ≤ q ∧ Inv (Hn n) k n ∧ Rel (Hn n) k v n M
theorem own_imE {Z : State} {h : Heap} {n0 : Nat} {o : Addr} {M : Int32 → Option Int32} {q : Nat} (I : Im Z h n0 o M q) : Exa Z h o "com/example/mastiff/mastiff/IntMap" := by
  obtain ⟨ka, va, n, k, v, E, -⟩ := I; exact E
def pia (M : Int32 → Option Int32) (key x : Int32) : Int32 → Option Int32 := if M key = none then ins M key x else M
section OwnIm
variable {H : Int32 → Nat} {k v : Nat → Int32} {n s q : Nat} {key x : Int32} {M : Int32 → Option Int32}
theorem own_there (hR : Rel H k v n M) (hk : key ≠ -1) (ha : At' H k n key s) (he : k s = key) : M key = some (v s) := by rw [hR key s hk ha, if_pos he]
theorem own_not (hR : Rel H k v n M) (hk : key ≠ -1) (ha : At' H k n key s) (he : ¬ k s = key) : M key = none := by rw [hR key s hk ha, if_neg he]
theorem own_pia1 (hR : Rel H k v n M) (hk : key ≠ -1) (ha : At' H k n key s) (he : k s = key) : Rel H k v n (pia M key x) := by
  rw [pia, if_neg (by rw [own_there hR hk ha he]; exact fun z => nomatch z)]; exact hR
theorem own_room (hn : n = 4 ∨ n = 8) (h2 : 2 * q ≤ n) (hq : q < 4) (hc : cnt k n ≤ q) : ∃ j, j < n ∧ up k s key j = -1 :=
  cnt_lt _ _ (by have := cnt_up k s key n; omega)
theorem own_cnt1 (hc : cnt k n ≤ q) : cnt (up k s key) n ≤ q + 1 := by have := cnt_up k s key n; omega
theorem own_pia2 (hI : Inv H k n) (hR : Rel H k v n M) (hk : key ≠ -1) (ha : At' H k n key s) (he : ¬ k s = key) (hx : ∃ j, j < n ∧ up k s key j = -1) : Inv H (up k s key) n ∧ Rel H (up k s key) (up v s x) n (pia M key x) := by
  rw [pia, if_pos (own_not hR hk ha he)]; exact ins_ok hI hR hk ha (ha.1.resolve_left he) hx
theorem own_big (hn : n = 4 ∨ n = 8) (hq : q < 4) (hc : (Int32.ofNat n) < ((2 : Int32) * ((Int32.ofNat q) + (1 : Int32)))) : n = 4 := by
  rw [own_one, Int32.lt_iff_toInt_lt, own_tn (own_le8 hn)] at hc
  have h1 := c_imul 2 (Int32.ofNat (q + 1))
  have h2 := rng32 ((2 : Int32) * Int32.ofNat (q + 1))
  rw [own_tn (show q + 1 ≤ 8 by omega), show (2 : Int32).toInt = 2 from rfl] at h1
  omega
theorem own_fit (hn : n = 4 ∨ n = 8) (hq : q < 4) (hc : ¬ (Int32.ofNat n) < ((2 : Int32) * ((Int32.ofNat q) + (1 : Int32)))) : 2 * (q + 1) ≤ n := by
  rw [own_one, Int32.lt_iff_toInt_lt, own_tn (own_le8 hn)] at hc
  have h1 := c_imul 2 (Int32.ofNat (q + 1))
  have h2 := rng32 ((2 : Int32) * Int32.ofNat (q + 1))
  rw [own_tn (show q + 1 ≤ 8 by omega), show (2 : Int32).toInt = 2 from rfl] at h1
  omega
end OwnIm
theorem ef_1 (m : MethodId) (x0 : Addr) : entryFrame m #[(.ref x0)] 1 = mkF m 0 #[.val (.ref x0)] [] := by first | (simp [entryFrame, mkF, argsToLocals, Value.category]; done) | rfl
theorem d1_0 : decode prog_6_method_1_code 0 = .ok (.aload_n 0, 1) := by decide +kernel
theorem d1_1 : decode prog_6_method_1_code 1 = .ok (.invokespecial 1, 3) := by decide +kernel
theorem d1_4 : decode prog_6_method_1_code 4 = .ok (.aload_n 0, 1) := by decide +kernel
theorem d1_5 : decode prog_6_method_1_code 5 = .ok (.iconst 4, 1) := by decide +kernel
theorem d1_6 : decode prog_6_method_1_code 6 = .ok (.invokestatic 7, 3) := by decide +kernel
theorem pd_2 : parseMethodDescriptor "(I)[I" = some ⟨[.int], some (.array .int)⟩ := by decide +kernel
theorem d1_9 : decode prog_6_method_1_code 9 = .ok (.putfield 13, 3) := by decide +kernel
theorem d1_12 : decode prog_6_method_1_code 12 = .ok (.aload_n 0, 1) := by decide +kernel
theorem d1_13 : decode prog_6_method_1_code 13 = .ok (.iconst 4, 1) := by decide +kernel
theorem d1_14 : decode prog_6_method_1_code 14 = .ok (.newarray .int, 2) := by decide +kernel
theorem d1_16 : decode prog_6_method_1_code 16 = .ok (.putfield 17, 3) := by decide +kernel
theorem d1_19 : decode prog_6_method_1_code 19 = .ok (.return_, 1) := by decide +kernel
def Q1 (Z : State) (o0 : Addr) (v1 : Value) (v2 : Value) (h0 : Heap) (n0 : Nat) (v : Option Value) (h : Heap) (L : List Loc) : Prop := v = none ∧ Fr n0 L ∧ n0 ≤ h.size ∧ Im Z h n0 o0 (fun _ => none) 0
set_option maxRecDepth 65536 in
set_option maxHeartbeats 40000000 in
theorem rm1 (l : Launch) (Z : State) (a0 : Array Value) (hw : ∀ d ∈ tables_1, d.before a0 Z = true) (ws : List Jvm.Cond) (o0 : Addr) (v1 : Value) (v2 : Value) (h0 : Heap) (n0 : Nat) (Z0 : n0 ≤ h0.size) (F1 : Fld Z h0 o0 "com/example/mastiff/mastiff/IntMap" "keys" "[I" v1) (F2 : Fld Z h0 o0 "com/example/mastiff/mastiff/IntMap" "values" "[I" v2) (F3 : Fld Z h0 o0 "com/example/mastiff/mastiff/IntMap" "size" "I" (.int (0 : Int32))) (E1 : Exa Z h0 o0 "com/example/mastiff/mastiff/IntMap") (g1 : n0 ≤ o0) :
    MetFree l (⟨"com/example/mastiff/mastiff/IntMap", "<init>", "()V"⟩ : MethodName) (head1 (Jvm.Cond.code (⟨"com/example/mastiff/mastiff/IntMap", "<init>", "()V"⟩ : MethodName) prog_6_method_1_code 1 none :: ws) ({ frames := 2, cells := 2, slots := 12, locals := 29 } : Room)) (fun a U => a = #[(.ref o0)] ∧ Z.Warmed39 U.vm ∧ U.heap = h0) (fun _ _ _ _ _ => True) (fun _ U o U' => ∃ v L, o = .returned v ∧ Q1 Z o0 v1 v2 h0 n0 v U'.heap L ∧ FrameEnd U o U' L ({ frames := 2, cells := 2, slots := 12, locals := 29 } : Room).cells ({ frames := 2, cells := 2, slots := 12, locals := 29 } : Room).slots) := by
  refine MetFree.of_bodySF (plainFor_of_name pn_1) hisR ?_
  intro p e s m args below meth c s₁ Bd hml0 hP hK
  obtain ⟨rfl, hZ, hh⟩ := hP
  have hx := Bd.exec
  have hby := Bd.bytes
  have hml : c.maxLocals = 1 := hml0
  have hown : s.vm.findClass "com/example/mastiff/mastiff/IntMap" = some m.cls := findClass_of_methodNamed Bd.named
  have hnm := (name_of_methodNamed Bd.named Bd.method).1
  have X0 : Stand p l e ({ frames := 2, cells := 2, slots := 12, locals := 29 } : Room) s m #[(.ref o0)] below meth c s₁ [] 0 0 := Stand.of_body Bd
  have e0 : s₁.heap = h0 := by rw [← hh, Bd.state]; rfl
  have pre0 : ∀ t, Steps p.tables e below (s₁.setTop (mkF m 0 #[.val (.ref o0)] [])) t → Steps p.tables e below (s₁.setTop (entryFrame m #[(.ref o0)] 1)) t := fun t k => castTop (ef_1 m o0) k
  have N0 := Fr.nil n0
  obtain ⟨T1, X1, e1, st1⟩ := initO X0 hx hZ hown (hw _ (List.mem_of_getElem? (i := 7) rfl)) (hw _ (List.mem_of_getElem? (i := 8) rfl)) (hw _ (List.mem_of_getElem? (i := 9) rfl)) e0 (g := (mkF m 1 #[.val (.ref o0)] [(.ref o0)])) rfl (by rw [hml]; rfl) rfl (hb hby d1_1) (by decide) (W := 0) (by show 2 * 0 + _ ≤ _; exact Nat.le_of_eq rfl) (by decide)
  obtain ⟨_, _, ⟨T2, L2, k2, n2⟩, -, X2, ⟨Lc2, hQ2, l2, y2, z2⟩, st2⟩ := Jvm.LawKit.callS X1 hx (y := (⟨"com/example/mastiff/mastiff/IntMap", "empty", "(I)[I"⟩ : MethodName)) hown (mvT hZ (hw _ (List.mem_of_getElem? (i := 10) rfl))) (mvT hZ (hw _ (List.mem_of_getElem? (i := 11) rfl))) (mvT hZ (hw _ (List.mem_of_getElem? (i := 3) rfl))) (mvT hZ (hw _ (List.mem_of_getElem? (i := 12) rfl))) (by decide) (backOf (W := 1) (rm3 l Z a0 hw [] (4 : Int32) 4 h0 n0 Z0 (by decide) (by decide)) hZ (hw _ (List.mem_of_getElem? (i := 12) rfl)) (hw _ (List.mem_of_getElem? (i := 3) rfl)) (by decide) (by decide)) (g := (mkF m 6 #[.val (.ref o0)] [(.int (4 : Int32)), (.ref o0)])) rfl (by rw [hml]; rfl) (argsL := [(.int (4 : Int32))]) (rest := [(.ref o0)]) (lenOf pd_2 rfl) rfl (by show 2 * 0 + _ ≤ _; exact Nat.le_of_eq rfl) (hb hby d1_6) (fun _ _ => ⟨rfl, e1, (by decide : 0 + 1 ≤ _), (by decide : 0 + 8 ≤ _)⟩)
  dsimp only [Pt.U, Pt.locs, Pt.cells, Pt.slots] at X2 l2 y2 z2 st2 hQ2
  subst l2 y2 z2
  obtain ⟨e2b, rfl, N2q, K2q, S2q, A2q⟩ := hQ2
  have ne3 : o0 ≠ e2b := Nat.ne_of_lt (Nat.lt_of_lt_of_le E1.lt S2q)
  have g2x : n0 ≤ e2b := Nat.le_trans Z0 S2q
  have N2 := Fr.app N0 N2q
  have Z2 : n0 ≤ T2.heap.size := Nat.le_trans Z0 K2q.1
  have G4 : Exa Z T2.heap o0 "com/example/mastiff/mastiff/IntMap" := E1.keep K2q
  have G5 : Fld Z T2.heap o0 "com/example/mastiff/mastiff/IntMap" "keys" "[I" v1 := F1.keep K2q nin0
  have G6 : Fld Z T2.heap o0 "com/example/mastiff/mastiff/IntMap" "values" "[I" v2 := F2.keep K2q nin0
  have G7 : Fld Z T2.heap o0 "com/example/mastiff/mastiff/IntMap" "size" "I" (.int (0 : Int32)) := F3.keep K2q nin0
  obtain ⟨T8, h8, X8, e8, W8, st8⟩ := putF X2 hx hZ hown (host := "") (Or.inl (hw _ (List.mem_of_getElem? (i := 18) rfl))) Via.refl rfl G5 G4 (Or.inl (hw _ (List.mem_of_getElem? (i := 19) rfl))) (hw _ (List.mem_of_getElem? (i := 2) rfl)) (ty := (.array .int)) (by decide) rfl rfl (g := (mkF m 9 #[.val (.ref o0)] [(.ref e2b), (.ref o0)])) rfl rfl (hb hby d1_9)
  have G9 : Exa Z h8 o0 "com/example/mastiff/mastiff/IntMap" := G4.wr W8
  have G10 : Fld Z h8 o0 "com/example/mastiff/mastiff/IntMap" "keys" "[I" (.ref e2b) := G5.same W8
  have G11 : Fld Z h8 o0 "com/example/mastiff/mastiff/IntMap" "values" "[I" v2 := G6.other W8 (Or.inr (slot_ne (Or.inl (hw _ (List.mem_of_getElem? (i := 21) rfl))) (Or.inl (hw _ (List.mem_of_getElem? (i := 19) rfl))) (by decide) (t := (.array .int)) (t' := (.array .int)) (by decide) (by decide)))
  have G12 : Fld Z h8 o0 "com/example/mastiff/mastiff/IntMap" "size" "I" (.int (0 : Int32)) := G7.other W8 (Or.inr (slot_ne (Or.inl (hw _ (List.mem_of_getElem? (i := 46) rfl))) (Or.inl (hw _ (List.mem_of_getElem? (i := 19) rfl))) (by decide) (t := .int) (t' := (.array .int)) (by decide) (by decide)))
  have G13 : Ia Z h8 e2b .int 4 (fun _ => (-1 : Int32)) := A2q.other W8 ne3.symm
  have Z8 : n0 ≤ h8.size := Nat.le_trans Z2 (Keep.of_wr W8).1
  have N8 := Fr.snoc X8 N2 g1
  obtain ⟨T14, h14, X14, e14, E14, A14, st14⟩ := iaNew X8 hx hZ (hw _ (List.mem_of_getElem? (i := 13) rfl)) e8 (g := (mkF m 14 #[.val (.ref o0)] [(.int (4 : Int32)), (.ref o0)])) rfl (hb hby d1_14) rfl 4 (by decide) 4 (Nat.le_refl _) (by decide) (by decide) (by decide) rfl (by decide)
  obtain ⟨b14, g14⟩ : ∃ z, z = h8.size := ⟨_, rfl⟩
  rw [← g14] at A14 st14
  have ne15 : e2b ≠ b14 := Nat.ne_of_lt (Nat.lt_of_lt_of_le G13.lt (Nat.le_of_eq g14.symm))
  have ne16 : o0 ≠ b14 := Nat.ne_of_lt (Nat.lt_of_lt_of_le G9.lt (Nat.le_of_eq g14.symm))
  have gn14 : n0 ≤ b14 := Nat.le_trans Z8 (Nat.le_of_eq g14.symm)
  have Z14 : n0 ≤ h14.size := Nat.le_trans Z8 E14.1
  have G17 : Exa Z h14 o0 "com/example/mastiff/mastiff/IntMap" := G9.ext E14
  have G18 : Fld Z h14 o0 "com/example/mastiff/mastiff/IntMap" "keys" "[I" (.ref e2b) := G10.ext E14
  have G19 : Fld Z h14 o0 "com/example/mastiff/mastiff/IntMap" "values" "[I" v2 := G11.ext E14
  have G20 : Fld Z h14 o0 "com/example/mastiff/mastiff/IntMap" "size" "I" (.int (0 : Int32)) := G12.ext E14
  have G21 : Ia Z h14 e2b .int 4 (fun _ => (-1 : Int32)) := G13.ext E14
  have G22 : Ia Z h14 b14 .int 4 (fun _ => (0 : Int32)) := A14
  obtain ⟨T23, h23, X23, e23, W23, st23⟩ := putF X14 hx hZ hown (host := "") (Or.inl (hw _ (List.mem_of_getElem? (i := 20) rfl))) Via.refl e14 G19 G17 (Or.inl (hw _ (List.mem_of_getElem? (i := 21) rfl))) (hw _ (List.mem_of_getElem? (i := 2) rfl)) (ty := (.array .int)) (by decide) rfl rfl (g := (mkF m 16 #[.val (.ref o0)] [(.ref b14), (.ref o0)])) rfl rfl (hb hby d1_16)
  have G24 : Exa Z h23 o0 "com/example/mastiff/mastiff/IntMap" := G17.wr W23
  have G25 : Fld Z h23 o0 "com/example/mastiff/mastiff/IntMap" "keys" "[I" (.ref e2b) := G18.other W23 (Or.inr (slot_ne (Or.inl (hw _ (List.mem_of_getElem? (i := 19) rfl))) (Or.inl (hw _ (List.mem_of_getElem? (i := 21) rfl))) (by decide) (t := (.array .int)) (t' := (.array .int)) (by decide) (by decide)))
  have G26 : Fld Z h23 o0 "com/example/mastiff/mastiff/IntMap" "values" "[I" (.ref b14) := G19.same W23
  have G27 : Fld Z h23 o0 "com/example/mastiff/mastiff/IntMap" "size" "I" (.int (0 : Int32)) := G20.other W23 (Or.inr (slot_ne (Or.inl (hw _ (List.mem_of_getElem? (i := 46) rfl))) (Or.inl (hw _ (List.mem_of_getElem? (i := 21) rfl))) (by decide) (t := .int) (t' := (.array .int)) (by decide) (by decide)))
  have G28 : Ia Z h23 e2b .int 4 (fun _ => (-1 : Int32)) := G21.other W23 ne3.symm
  have G29 : Ia Z h23 b14 .int 4 (fun _ => (0 : Int32)) := G22.other W23 ne16.symm
  have Z23 : n0 ≤ h23.size := Nat.le_trans Z14 (Keep.of_wr W23).1
  have N23 := Fr.snoc X23 N8 g1
  have K30 : ∀ t, Steps p.tables e below (T23.setTop (mkF m 19 #[.val (.ref o0)] [])) t → Steps p.tables e below (s₁.setTop (mkF m 0 #[.val (.ref o0)] [])) t := by
    intro t kt
    show Steps p.tables e below (s₁.setTop (mkF m 0 #[.val (.ref o0)] [])) _
    refine XS.aloadN X0.here hx rfl (hb hby d1_0) rfl rfl ?_
    show Steps p.tables e below (s₁.setTop (mkF m 1 #[.val (.ref o0)] [(.ref o0)])) _
    refine st1 _ ?_
    show Steps p.tables e below (T1.setTop (mkF m 4 #[.val (.ref o0)] [])) _
    refine XS.aloadN X1.here hx rfl (hb hby d1_4) rfl rfl ?_
    show Steps p.tables e below (T1.setTop (mkF m 5 #[.val (.ref o0)] [(.ref o0)])) _
    refine XS.iconst X1.here hx rfl (hb hby d1_5) ?_
    show Steps p.tables e below (T1.setTop (mkF m 6 #[.val (.ref o0)] [(.int (4 : Int32)), (.ref o0)])) _
    refine st2 _ ?_
    show Steps p.tables e below (T2.setTop (mkF m 9 #[.val (.ref o0)] [(.ref e2b), (.ref o0)])) _
    refine st8 _ ?_
    show Steps p.tables e below (T8.setTop (mkF m 12 #[.val (.ref o0)] [])) _
    refine XS.aloadN X8.here hx rfl (hb hby d1_12) rfl rfl ?_
    show Steps p.tables e below (T8.setTop (mkF m 13 #[.val (.ref o0)] [(.ref o0)])) _
    refine XS.iconst X8.here hx rfl (hb hby d1_13) ?_
    show Steps p.tables e below (T8.setTop (mkF m 14 #[.val (.ref o0)] [(.int (4 : Int32)), (.ref o0)])) _
    refine st14 _ ?_
    show Steps p.tables e below (T14.setTop (mkF m 16 #[.val (.ref o0)] [(.ref b14), (.ref o0)])) _
    refine st23 _ ?_
    exact kt
  obtain ⟨fs, hr, hrun, hended, hW, hsame⟩ := X23.leave (v := none) (fun _ => rfl)
  refine ⟨_, _, pre0 _ (K30 _ ?_), hrun, hended, _, _, rfl, ?_, ⟨_, rfl⟩, hW, hsame.mono (by decide) (by decide)⟩
  · show Steps p.tables e below (T23.setTop (mkF m 19 #[.val (.ref o0)] [])) _
    exact X23.returnOut hx Bd.returns (hb hby d1_19) hr
  · show Q1 Z o0 v1 v2 h0 n0 _ T23.heap _
    rw [e23]
    exact ⟨rfl, N23, Z23, ⟨e2b, b14, 4, (fun _ => (-1 : Int32)), (fun _ => (0 : Int32)), G24, G25, G26, G27, G28, G29, g1, g2x, gn14, ne3, ne16, ne15, Or.inl rfl, by decide, Nat.le_of_eq (cnt_const 4), (empty_ok (v := fun _ => (0 : Int32)) (by decide)).1, (empty_ok (by decide)).2⟩⟩
def Gl (Z : State) (h : Heap) (o ka va kb vb : Addr) (k v kN vN : Nat → Int32) (q : Nat) : Prop :=
  Exa Z h o "com/example/mastiff/mastiff/IntMap" ∧ Fld Z h o "com/example/mastiff/mastiff/IntMap" "keys" "[I" (.ref kb) ∧ Fld Z h o "com/example/mastiff/mastiff/IntMap" "values" "[I" (.ref vb) ∧ Fld Z h o "com/example/mastiff/mastiff/IntMap" "size" "I" (.int (Int32.ofNat q)) ∧ Ia Z h ka .int 4 k ∧ Ia Z h va .int 4 v ∧ Ia Z h kb .int 8 kN ∧ Ia Z h vb .int 8 vN
def Ne5 (o ka va kb vb : Addr) : Prop := o ≠ ka ∧ o ≠ va ∧ o ≠ kb ∧ o ≠ vb ∧ ka ≠ va ∧ ka ≠ kb ∧ ka ≠ vb ∧ va ≠ kb ∧ va ≠ vb ∧ kb ≠ vb
theorem own_st4 {x y z : Addr} {d v : Int32} {s4 : Slot} (h : One s4) : storeLocals #[.val (.ref x), .val (.ref y), .val (.ref z), .val (.int d), s4] 4 (.int v) = some #[.val (.ref x), .val (.ref y), .val (.ref z), .val (.int d), .val (.int v)] := by
  rcases h with rfl | ⟨w, rfl, hw⟩
  · rfl
  · cases w <;> first | rfl | (simp [Value.category] at hw)
theorem d11_34 : decode prog_6_method_11_code 34 = .ok (.iload_n 3, 1) := by decide +kernel
theorem d11_35 : decode prog_6_method_11_code 35 = .ok (.aload_n 1, 1) := by decide +kernel
theorem d11_36 : decode prog_6_method_11_code 36 = .ok (.arraylength, 1) := by decide +kernel
theorem d11_37 : decode prog_6_method_11_code 37 = .ok (.if_icmp .ge 45, 3) := by decide +kernel
theorem d11_40 : decode prog_6_method_11_code 40 = .ok (.aload_n 1, 1) := by decide +kernel
theorem d11_41 : decode prog_6_method_11_code 41 = .ok (.iload_n 3, 1) := by decide +kernel
theorem d11_42 : decode prog_6_method_11_code 42 = .ok (.iaload, 1) := by decide +kernel
theorem d11_43 : decode prog_6_method_11_code 43 = .ok (.iconst (-1), 1) := by decide +kernel
theorem d11_44 : decode prog_6_method_11_code 44 = .ok (.if_icmp .eq 32, 3) := by decide +kernel
theorem d11_76 : decode prog_6_method_11_code 76 = .ok (.iinc 3 1, 3) := by decide +kernel
theorem d11_79 : decode prog_6_method_11_code 79 = .ok (.goto (-45), 3) := by decide +kernel
set_option maxRecDepth 65536 in
set_option maxHeartbeats 40000000 in
theorem tnG0 {p : Program} {l : Launch} {e : Env} {s : State} {m : MethodId} {args : Array Value} {below : List Frame} {meth : Method} {c : Code} {T0 : State} {locs : List Loc} {Z : State} {a0 : Array Value} {h0 : Heap} (o0 : Addr) (ka : Addr) (va : Addr) (kb : Addr) (vb : Addr) (k : Nat → Int32) (v : Nat → Int32) (kN : Nat → Int32) (vN : Nat → Int32) (q : Nat) (i : Nat) (s4 : Slot) (n0 : Nat)
    (X0 : Stand p l e ({ frames := 2, cells := 2, slots := 16, locals := 40 } : Room) s m args below meth c T0 locs 2 16) (hx : p.tables.exec = Jvm.exec) (hZ : Z.Warmed39 s.vm) (hw : ∀ d ∈ tables_1, d.before a0 Z = true) (hby : c.code = prog_6_method_11_code) (hml : c.maxLocals = 5) (hown : s.vm.findClass "com/example/mastiff/mastiff/IntMap" = some m.cls) (e0 : T0.heap = h0) (N0 : Fr n0 locs) (Z0 : n0 ≤ h0.size) (G1 : Gl Z h0 o0 ka va kb vb k v kN vN q) (hne : Ne5 o0 ka va kb vb) (gk : n0 ≤ kb) (gv : n0 ≤ vb) (hi4 : i < 4) (hk : k i = -1) :
    ∃ (T' : State) (h' : Heap) (locs' : List Loc), Stand p l e ({ frames := 2, cells := 2, slots := 16, locals := 40 } : Room) s m args below meth c T' locs' 2 16 ∧ T'.heap = h' ∧ Fr n0 locs' ∧ n0 ≤ h'.size ∧ Gl Z h' o0 ka va kb vb k v kN vN q ∧
      ∀ t, Steps p.tables e below (T'.setTop (mkF m 34 #[.val (.ref o0), .val (.ref ka), .val (.ref va), .val (.int ((Int32.ofNat i) + (1 : Int32))), s4] [])) t → Steps p.tables e below (T0.setTop (mkF m 34 #[.val (.ref o0), .val (.ref ka), .val (.ref va), .val (.int (Int32.ofNat i)), s4] [])) t := by
  obtain ⟨E1, F1, F2, F3, A1, A2, A3, A4⟩ := G1
  obtain ⟨n1, n2, n3, n4, n5, n6, n7, n8, n9, n10⟩ := hne
  have K1 : ∀ t, Steps p.tables e below (T0.setTop (mkF m 34 #[.val (.ref o0), .val (.ref ka), .val (.ref va), .val (.int ((Int32.ofNat i) + (1 : Int32))), s4] [])) t → Steps p.tables e below (T0.setTop (mkF m 34 #[.val (.ref o0), .val (.ref ka), .val (.ref va), .val (.int (Int32.ofNat i)), s4] [])) t := by
    intro t kt
    show Steps p.tables e below (T0.setTop (mkF m 34 #[.val (.ref o0), .val (.ref ka), .val (.ref va), .val (.int (Int32.ofNat i)), s4] [])) _
    refine XS.iloadN X0.here hx rfl (hb hby d11_34) rfl ?_
    show Steps p.tables e below (T0.setTop (mkF m 35 #[.val (.ref o0), .val (.ref ka), .val (.ref va), .val (.int (Int32.ofNat i)), s4] [(.int (Int32.ofNat i))])) _
    refine XS.aloadN X0.here hx rfl (hb hby d11_35) rfl rfl ?_
    show Steps p.tables e below (T0.setTop (mkF m 36 #[.val (.ref o0), .val (.ref ka), .val (.ref va), .val (.int (Int32.ofNat i)), s4] [(.ref ka), (.int (Int32.ofNat i))])) _
    refine iaLen X0 hx hZ e0 A1 (g := (mkF m 36 #[.val (.ref o0), .val (.ref ka), .val (.ref va), .val (.int (Int32.ofNat i)), s4] [(.ref ka), (.int (Int32.ofNat i))])) rfl rfl (hb hby d11_36) _ ?_
    show Steps p.tables e below (T0.setTop (mkF m 37 #[.val (.ref o0), .val (.ref ka), .val (.ref va), .val (.int (Int32.ofNat i)), s4] [(.int (4 : Int32)), (.int (Int32.ofNat i))])) _
    refine XS.icmpNo X0.here hx rfl (hb hby d11_37) rfl (tlt (show (Int32.ofNat i) < (4 : Int32) from (own_ltn hi4 (by decide)))).2.1 ?_
    show Steps p.tables e below (T0.setTop (mkF m 40 #[.val (.ref o0), .val (.ref ka), .val (.ref va), .val (.int (Int32.ofNat i)), s4] [])) _
    refine XS.aloadN X0.here hx rfl (hb hby d11_40) rfl rfl ?_
    show Steps p.tables e below (T0.setTop (mkF m 41 #[.val (.ref o0), .val (.ref ka), .val (.ref va), .val (.int (Int32.ofNat i)), s4] [(.ref ka)])) _
    refine XS.iloadN X0.here hx rfl (hb hby d11_41) rfl ?_
    show Steps p.tables e below (T0.setTop (mkF m 42 #[.val (.ref o0), .val (.ref ka), .val (.ref va), .val (.int (Int32.ofNat i)), s4] [(.int (Int32.ofNat i)), (.ref ka)])) _
    refine iaLI X0 hx hZ e0 A1 (j := (Int32.ofNat i)) i (own_ti hi4 (by decide)) hi4 (g := (mkF m 42 #[.val (.ref o0), .val (.ref ka), .val (.ref va), .val (.int (Int32.ofNat i)), s4] [(.int (Int32.ofNat i)), (.ref ka)])) rfl rfl (hb hby d11_42) _ ?_
    show Steps p.tables e below (T0.setTop (mkF m 43 #[.val (.ref o0), .val (.ref ka), .val (.ref va), .val (.int (Int32.ofNat i)), s4] [(.int (k i))])) _
    refine XS.iconst X0.here hx rfl (hb hby d11_43) ?_
    show Steps p.tables e below (T0.setTop (mkF m 44 #[.val (.ref o0), .val (.ref ka), .val (.ref va), .val (.int (Int32.ofNat i)), s4] [(.int (-1 : Int32)), (.int (k i))])) _
    refine XS.icmpYes X0.here hx rfl (pc0 := 44) (pc' := 76) rfl (hb hby d11_44) rfl (teq (show (k i) = (-1 : Int32) from hk)).1 (by decide) (by decide) ?_
    show Steps p.tables e below (T0.setTop (mkF m 76 #[.val (.ref o0), .val (.ref ka), .val (.ref va), .val (.int (Int32.ofNat i)), s4] [])) _
    refine XS.iinc X0.here hx rfl (hb hby d11_76) rfl (l' := #[.val (.ref o0), .val (.ref ka), .val (.ref va), .val (.int ((Int32.ofNat i) + (1 : Int32))), s4]) rfl ?_
    show Steps p.tables e below (T0.setTop (mkF m 79 #[.val (.ref o0), .val (.ref ka), .val (.ref va), .val (.int ((Int32.ofNat i) + (1 : Int32))), s4] [])) _
    refine XS.goto X0.here hx rfl (pc0 := 79) (pc' := 34) rfl (hb hby d11_79) (by decide) (by decide) ?_
    exact kt
  exact ⟨T0, h0, _, X0, e0, N0, Z0, ⟨E1, F1, F2, F3, A1, A2, A3, A4⟩, K1⟩
theorem d11_47 : decode prog_6_method_11_code 47 = .ok (.aload_n 0, 1) := by decide +kernel
theorem d11_48 : decode prog_6_method_11_code 48 = .ok (.aload_n 1, 1) := by decide +kernel
theorem d11_49 : decode prog_6_method_11_code 49 = .ok (.iload_n 3, 1) := by decide +kernel
theorem d11_50 : decode prog_6_method_11_code 50 = .ok (.iaload, 1) := by decide +kernel
theorem d11_51 : decode prog_6_method_11_code 51 = .ok (.invokevirtual 20, 3) := by decide +kernel
theorem d11_54 : decode prog_6_method_11_code 54 = .ok (.istore 4, 2) := by decide +kernel
theorem d11_56 : decode prog_6_method_11_code 56 = .ok (.aload_n 0, 1) := by decide +kernel
theorem d11_57 : decode prog_6_method_11_code 57 = .ok (.getfield 13, 3) := by decide +kernel
theorem d11_60 : decode prog_6_method_11_code 60 = .ok (.iload 4, 2) := by decide +kernel
theorem d11_62 : decode prog_6_method_11_code 62 = .ok (.aload_n 1, 1) := by decide +kernel
theorem d11_63 : decode prog_6_method_11_code 63 = .ok (.iload_n 3, 1) := by decide +kernel
theorem d11_64 : decode prog_6_method_11_code 64 = .ok (.iaload, 1) := by decide +kernel
theorem d11_65 : decode prog_6_method_11_code 65 = .ok (.iastore, 1) := by decide +kernel
theorem d11_66 : decode prog_6_method_11_code 66 = .ok (.aload_n 0, 1) := by decide +kernel
theorem d11_67 : decode prog_6_method_11_code 67 = .ok (.getfield 17, 3) := by decide +kernel
theorem d11_70 : decode prog_6_method_11_code 70 = .ok (.iload 4, 2) := by decide +kernel
theorem d11_72 : decode prog_6_method_11_code 72 = .ok (.aload_n 2, 1) := by decide +kernel
theorem d11_73 : decode prog_6_method_11_code 73 = .ok (.iload_n 3, 1) := by decide +kernel
theorem d11_74 : decode prog_6_method_11_code 74 = .ok (.iaload, 1) := by decide +kernel
theorem d11_75 : decode prog_6_method_11_code 75 = .ok (.iastore, 1) := by decide +kernel
set_option maxRecDepth 65536 in
set_option maxHeartbeats 40000000 in
theorem tnG1 {p : Program} {l : Launch} {e : Env} {s : State} {m : MethodId} {args : Array Value} {below : List Frame} {meth : Method} {c : Code} {T0 : State} {locs : List Loc} {Z : State} {a0 : Array Value} {h0 : Heap} (o0 : Addr) (ka : Addr) (va : Addr) (kb : Addr) (vb : Addr) (k : Nat → Int32) (v : Nat → Int32) (kN : Nat → Int32) (vN : Nat → Int32) (q : Nat) (i : Nat) (s4 : Slot) (n0 : Nat)
    (X0 : Stand p l e ({ frames := 2, cells := 2, slots := 16, locals := 40 } : Room) s m args below meth c T0 locs 2 16) (hx : p.tables.exec = Jvm.exec) (hZ : Z.Warmed39 s.vm) (hw : ∀ d ∈ tables_1, d.before a0 Z = true) (hby : c.code = prog_6_method_11_code) (hml : c.maxLocals = 5) (hown : s.vm.findClass "com/example/mastiff/mastiff/IntMap" = some m.cls) (e0 : T0.heap = h0) (N0 : Fr n0 locs) (Z0 : n0 ≤ h0.size) (G1 : Gl Z h0 o0 ka va kb vb k v kN vN q) (hne : Ne5 o0 ka va kb vb) (gk : n0 ≤ kb) (gv : n0 ≤ vb) (hs4 : One s4) (hi4 : i < 4) (hk : ¬ k i = -1) (hem : ∃ j, j < 8 ∧ kN j = -1) :
    ∃ (sN : Nat) (T' : State) (h' : Heap) (locs' : List Loc), Stand p l e ({ frames := 2, cells := 2, slots := 16, locals := 40 } : Room) s m args below meth c T' locs' 2 16 ∧ T'.heap = h' ∧ Fr n0 locs' ∧ n0 ≤ h'.size ∧ At' (Hn 8) kN 8 (k i) sN ∧ Gl Z h' o0 ka va kb vb k v (up kN sN (k i)) (up vN sN (v i)) q ∧
      ∀ t, Steps p.tables e below (T'.setTop (mkF m 34 #[.val (.ref o0), .val (.ref ka), .val (.ref va), .val (.int ((Int32.ofNat i) + (1 : Int32))), .val (.int (Int32.ofNat sN))] [])) t → Steps p.tables e below (T0.setTop (mkF m 34 #[.val (.ref o0), .val (.ref ka), .val (.ref va), .val (.int (Int32.ofNat i)), s4] [])) t := by
  obtain ⟨E1, F1, F2, F3, A1, A2, A3, A4⟩ := G1
  obtain ⟨n1, n2, n3, n4, n5, n6, n7, n8, n9, n10⟩ := hne
  obtain ⟨cq1, q1, q1'⟩ := E1.cell
  obtain ⟨_, _, ⟨T1, L1, k1, n1⟩, -, X1, ⟨Lc1, hQ1, l1, y1, z1⟩, st1⟩ := X0.privateBack hx (y := (⟨"com/example/mastiff/mastiff/IntMap", "slotOf", "(I)I"⟩ : MethodName)) hown (mvT hZ (hw _ (List.mem_of_getElem? (i := 27) rfl))) (mvT hZ (hw _ (List.mem_of_getElem? (i := 28) rfl))) (own_sel hZ (hw _ (List.mem_of_getElem? (i := 2) rfl)) (hw _ (List.mem_of_getElem? (i := 29) rfl)) (hw _ (List.mem_of_getElem? (i := 28) rfl)) (by decide)) (Cond.privateMethod_at (mvP hZ (hw _ (List.mem_of_getElem? (i := 29) rfl)) (args := #[]))) (mvT hZ (hw _ (List.mem_of_getElem? (i := 30) rfl))) (by decide) (backOf (W := 0) (rm6 l Z a0 hw [] o0 (k i) kb 8 kN h0 n0 Z0 F1 A3 (Or.inr rfl) hem) hZ (hw _ (List.mem_of_getElem? (i := 30) rfl)) (hw _ (List.mem_of_getElem? (i := 3) rfl)) (by decide) (by decide)) (g := (mkF m 51 #[.val (.ref o0), .val (.ref ka), .val (.ref va), .val (.int (Int32.ofNat i)), s4] [(.int (k i)), (.ref o0)])) rfl (by rw [hml]; rfl) (Steps.refl _) (a := o0) (by rw [e0]; exact q1) q1' (argsL := [(.int (k i))]) (rest := []) (lenOf pd_1 rfl) rfl (by show 2 * 0 + _ ≤ _; exact Nat.le_of_eq rfl) (hb hby d11_51) (fun _ _ => ⟨rfl, e0, (by decide : 2 + 0 ≤ _), (by decide : 16 + 0 ≤ _)⟩)
  dsimp only [Pt.U, Pt.locs, Pt.cells, Pt.slots] at X1 l1 y1 z1 st1 hQ1
  subst l1 y1 z1
  obtain ⟨s1, rfl, rfl, e1, hat1⟩ := hQ1
  try rw [List.append_nil] at X1
  have hlt1 : s1 < 8 := at_lt (by omega) hat1
  obtain ⟨T2, X2, e2, st2⟩ := getF X1 hx hZ hown (host := "") (Or.inl (hw _ (List.mem_of_getElem? (i := 18) rfl))) Via.refl e1 F1 (g := (mkF m 57 #[.val (.ref o0), .val (.ref ka), .val (.ref va), .val (.int (Int32.ofNat i)), .val (.int (Int32.ofNat s1))] [(.ref o0)])) rfl rfl (hb hby d11_57)
  obtain ⟨T3, h3, X3, e3, W3, A3, st3⟩ := iaI X2 hx hZ e2 A3 (j := (Int32.ofNat s1)) s1 (own_ti hlt1 (by decide)) hlt1 (g := (mkF m 65 #[.val (.ref o0), .val (.ref ka), .val (.ref va), .val (.int (Int32.ofNat i)), .val (.int (Int32.ofNat s1))] [(.int (k i)), (.int (Int32.ofNat s1)), (.ref kb)])) rfl rfl (hb hby d11_65)
  have G4 : Exa Z h3 o0 "com/example/mastiff/mastiff/IntMap" := E1.wr W3
  have G5 : Fld Z h3 o0 "com/example/mastiff/mastiff/IntMap" "keys" "[I" (.ref kb) := F1.other W3 (Or.inl n3)
  have G6 : Fld Z h3 o0 "com/example/mastiff/mastiff/IntMap" "values" "[I" (.ref vb) := F2.other W3 (Or.inl n3)
  have G7 : Fld Z h3 o0 "com/example/mastiff/mastiff/IntMap" "size" "I" (.int (Int32.ofNat q)) := F3.other W3 (Or.inl n3)
  have G8 : Ia Z h3 ka .int 4 k := A1.other W3 n6
  have G9 : Ia Z h3 va .int 4 v := A2.other W3 n8
  have G10 : Ia Z h3 kb .int 8 (up kN s1 (k i)) := A3
  have G11 : Ia Z h3 vb .int 8 vN := A4.other W3 n10.symm
  have Z3 : n0 ≤ h3.size := Nat.le_trans Z0 (Keep.of_wr W3).1
  have N3 := Fr.snoc X3 N0 gk
  obtain ⟨T12, X12, e12, st12⟩ := getF X3 hx hZ hown (host := "") (Or.inl (hw _ (List.mem_of_getElem? (i := 20) rfl))) Via.refl e3 G6 (g := (mkF m 67 #[.val (.ref o0), .val (.ref ka), .val (.ref va), .val (.int (Int32.ofNat i)), .val (.int (Int32.ofNat s1))] [(.ref o0)])) rfl rfl (hb hby d11_67)
  obtain ⟨T13, h13, X13, e13, W13, A13, st13⟩ := iaI X12 hx hZ e12 G11 (j := (Int32.ofNat s1)) s1 (own_ti hlt1 (by decide)) hlt1 (g := (mkF m 75 #[.val (.ref o0), .val (.ref ka), .val (.ref va), .val (.int (Int32.ofNat i)), .val (.int (Int32.ofNat s1))] [(.int (v i)), (.int (Int32.ofNat s1)), (.ref vb)])) rfl rfl (hb hby d11_75)
  have G14 : Exa Z h13 o0 "com/example/mastiff/mastiff/IntMap" := G4.wr W13
  have G15 : Fld Z h13 o0 "com/example/mastiff/mastiff/IntMap" "keys" "[I" (.ref kb) := G5.other W13 (Or.inl n4)
  have G16 : Fld Z h13 o0 "com/example/mastiff/mastiff/IntMap" "values" "[I" (.ref vb) := G6.other W13 (Or.inl n4)
  have G17 : Fld Z h13 o0 "com/example/mastiff/mastiff/IntMap" "size" "I" (.int (Int32.ofNat q)) := G7.other W13 (Or.inl n4)
  have G18 : Ia Z h13 ka .int 4 k := G8.other W13 n7
  have G19 : Ia Z h13 va .int 4 v := G9.other W13 n9
  have G20 : Ia Z h13 kb .int 8 (up kN s1 (k i)) := G10.other W13 n10
  have G21 : Ia Z h13 vb .int 8 (up vN s1 (v i)) := A13
  have Z13 : n0 ≤ h13.size := Nat.le_trans Z3 (Keep.of_wr W13).1
  have N13 := Fr.snoc X13 N3 gv
  have K22 : ∀ t, Steps p.tables e below (T13.setTop (mkF m 34 #[.val (.ref o0), .val (.ref ka), .val (.ref va), .val (.int ((Int32.ofNat i) + (1 : Int32))), .val (.int (Int32.ofNat s1))] [])) t → Steps p.tables e below (T0.setTop (mkF m 34 #[.val (.ref o0), .val (.ref ka), .val (.ref va), .val (.int (Int32.ofNat i)), s4] [])) t := by
    intro t kt
    show Steps p.tables e below (T0.setTop (mkF m 34 #[.val (.ref o0), .val (.ref ka), .val (.ref va), .val (.int (Int32.ofNat i)), s4] [])) _
    refine XS.iloadN X0.here hx rfl (hb hby d11_34) rfl ?_
    show Steps p.tables e below (T0.setTop (mkF m 35 #[.val (.ref o0), .val (.ref ka), .val (.ref va), .val (.int (Int32.ofNat i)), s4] [(.int (Int32.ofNat i))])) _
    refine XS.aloadN X0.here hx rfl (hb hby d11_35) rfl rfl ?_
    show Steps p.tables e below (T0.setTop (mkF m 36 #[.val (.ref o0), .val (.ref ka), .val (.ref va), .val (.int (Int32.ofNat i)), s4] [(.ref ka), (.int (Int32.ofNat i))])) _
    refine iaLen X0 hx hZ e0 A1 (g := (mkF m 36 #[.val (.ref o0), .val (.ref ka), .val (.ref va), .val (.int (Int32.ofNat i)), s4] [(.ref ka), (.int (Int32.ofNat i))])) rfl rfl (hb hby d11_36) _ ?_
    show Steps p.tables e below (T0.setTop (mkF m 37 #[.val (.ref o0), .val (.ref ka), .val (.ref va), .val (.int (Int32.ofNat i)), s4] [(.int (4 : Int32)), (.int (Int32.ofNat i))])) _
    refine XS.icmpNo X0.here hx rfl (hb hby d11_37) rfl (tlt (show (Int32.ofNat i) < (4 : Int32) from (own_ltn hi4 (by decide)))).2.1 ?_
    show Steps p.tables e below (T0.setTop (mkF m 40 #[.val (.ref o0), .val (.ref ka), .val (.ref va), .val (.int (Int32.ofNat i)), s4] [])) _
    refine XS.aloadN X0.here hx rfl (hb hby d11_40) rfl rfl ?_
    show Steps p.tables e below (T0.setTop (mkF m 41 #[.val (.ref o0), .val (.ref ka), .val (.ref va), .val (.int (Int32.ofNat i)), s4] [(.ref ka)])) _
    refine XS.iloadN X0.here hx rfl (hb hby d11_41) rfl ?_
    show Steps p.tables e below (T0.setTop (mkF m 42 #[.val (.ref o0), .val (.ref ka), .val (.ref va), .val (.int (Int32.ofNat i)), s4] [(.int (Int32.ofNat i)), (.ref ka)])) _
    refine iaLI X0 hx hZ e0 A1 (j := (Int32.ofNat i)) i (own_ti hi4 (by decide)) hi4 (g := (mkF m 42 #[.val (.ref o0), .val (.ref ka), .val (.ref va), .val (.int (Int32.ofNat i)), s4] [(.int (Int32.ofNat i)), (.ref ka)])) rfl rfl (hb hby d11_42) _ ?_
    show Steps p.tables e below (T0.setTop (mkF m 43 #[.val (.ref o0), .val (.ref ka), .val (.ref va), .val (.int (Int32.ofNat i)), s4] [(.int (k i))])) _
    refine XS.iconst X0.here hx rfl (hb hby d11_43) ?_
    show Steps p.tables e below (T0.setTop (mkF m 44 #[.val (.ref o0), .val (.ref ka), .val (.ref va), .val (.int (Int32.ofNat i)), s4] [(.int (-1 : Int32)), (.int (k i))])) _
    refine XS.icmpNo X0.here hx rfl (hb hby d11_44) rfl (feq (show ¬ ((k i) = (-1 : Int32)) from hk)).1 ?_
    show Steps p.tables e below (T0.setTop (mkF m 47 #[.val (.ref o0), .val (.ref ka), .val (.ref va), .val (.int (Int32.ofNat i)), s4] [])) _
    refine XS.aloadN X0.here hx rfl (hb hby d11_47) rfl rfl ?_
    show Steps p.tables e below (T0.setTop (mkF m 48 #[.val (.ref o0), .val (.ref ka), .val (.ref va), .val (.int (Int32.ofNat i)), s4] [(.ref o0)])) _
    refine XS.aloadN X0.here hx rfl (hb hby d11_48) rfl rfl ?_
    show Steps p.tables e below (T0.setTop (mkF m 49 #[.val (.ref o0), .val (.ref ka), .val (.ref va), .val (.int (Int32.ofNat i)), s4] [(.ref ka), (.ref o0)])) _
    refine XS.iloadN X0.here hx rfl (hb hby d11_49) rfl ?_
    show Steps p.tables e below (T0.setTop (mkF m 50 #[.val (.ref o0), .val (.ref ka), .val (.ref va), .val (.int (Int32.ofNat i)), s4] [(.int (Int32.ofNat i)), (.ref ka), (.ref o0)])) _
    refine iaLI X0 hx hZ e0 A1 (j := (Int32.ofNat i)) i (own_ti hi4 (by decide)) hi4 (g := (mkF m 50 #[.val (.ref o0), .val (.ref ka), .val (.ref va), .val (.int (Int32.ofNat i)), s4] [(.int (Int32.ofNat i)), (.ref ka), (.ref o0)])) rfl rfl (hb hby d11_50) _ ?_
    show Steps p.tables e below (T0.setTop (mkF m 51 #[.val (.ref o0), .val (.ref ka), .val (.ref va), .val (.int (Int32.ofNat i)), s4] [(.int (k i)), (.ref o0)])) _
    refine st1.trans ?_
    show Steps p.tables e below (T1.setTop (mkF m 54 #[.val (.ref o0), .val (.ref ka), .val (.ref va), .val (.int (Int32.ofNat i)), s4] [(.int (Int32.ofNat s1))])) _
    refine XS.istore X1.here hx rfl (hb hby d11_54) rfl (l' := #[.val (.ref o0), .val (.ref ka), .val (.ref va), .val (.int (Int32.ofNat i)), .val (.int (Int32.ofNat s1))]) (own_st4 hs4) ?_
    show Steps p.tables e below (T1.setTop (mkF m 56 #[.val (.ref o0), .val (.ref ka), .val (.ref va), .val (.int (Int32.ofNat i)), .val (.int (Int32.ofNat s1))] [])) _
    refine XS.aloadN X1.here hx rfl (hb hby d11_56) rfl rfl ?_
    show Steps p.tables e below (T1.setTop (mkF m 57 #[.val (.ref o0), .val (.ref ka), .val (.ref va), .val (.int (Int32.ofNat i)), .val (.int (Int32.ofNat s1))] [(.ref o0)])) _
    refine st2 _ ?_
    show Steps p.tables e below (T2.setTop (mkF m 60 #[.val (.ref o0), .val (.ref ka), .val (.ref va), .val (.int (Int32.ofNat i)), .val (.int (Int32.ofNat s1))] [(.ref kb)])) _
    refine XS.iload X2.here hx rfl (hb hby d11_60) rfl ?_
    show Steps p.tables e below (T2.setTop (mkF m 62 #[.val (.ref o0), .val (.ref ka), .val (.ref va), .val (.int (Int32.ofNat i)), .val (.int (Int32.ofNat s1))] [(.int (Int32.ofNat s1)), (.ref kb)])) _
    refine XS.aloadN X2.here hx rfl (hb hby d11_62) rfl rfl ?_
    show Steps p.tables e below (T2.setTop (mkF m 63 #[.val (.ref o0), .val (.ref ka), .val (.ref va), .val (.int (Int32.ofNat i)), .val (.int (Int32.ofNat s1))] [(.ref ka), (.int (Int32.ofNat s1)), (.ref kb)])) _
    refine XS.iloadN X2.here hx rfl (hb hby d11_63) rfl ?_
    show Steps p.tables e below (T2.setTop (mkF m 64 #[.val (.ref o0), .val (.ref ka), .val (.ref va), .val (.int (Int32.ofNat i)), .val (.int (Int32.ofNat s1))] [(.int (Int32.ofNat i)), (.ref ka), (.int (Int32.ofNat s1)), (.ref kb)])) _
    refine iaLI X2 hx hZ e2 A1 (j := (Int32.ofNat i)) i (own_ti hi4 (by decide)) hi4 (g := (mkF m 64 #[.val (.ref o0), .val (.ref ka), .val (.ref va), .val (.int (Int32.ofNat i)), .val (.int (Int32.ofNat s1))] [(.int (Int32.ofNat i)), (.ref ka), (.int (Int32.ofNat s1)), (.ref kb)])) rfl rfl (hb hby d11_64) _ ?_
    show Steps p.tables e below (T2.setTop (mkF m 65 #[.val (.ref o0), .val (.ref ka), .val (.ref va), .val (.int (Int32.ofNat i)), .val (.int (Int32.ofNat s1))] [(.int (k i)), (.int (Int32.ofNat s1)), (.ref kb)])) _
    refine st3 _ ?_
    show Steps p.tables e below (T3.setTop (mkF m 66 #[.val (.ref o0), .val (.ref ka), .val (.ref va), .val (.int (Int32.ofNat i)), .val (.int (Int32.ofNat s1))] [])) _
    refine XS.aloadN X3.here hx rfl (hb hby d11_66) rfl rfl ?_
    show Steps p.tables e below (T3.setTop (mkF m 67 #[.val (.ref o0), .val (.ref ka), .val (.ref va), .val (.int (Int32.ofNat i)), .val (.int (Int32.ofNat s1))] [(.ref o0)])) _
    refine st12 _ ?_
    show Steps p.tables e below (T12.setTop (mkF m 70 #[.val (.ref o0), .val (.ref ka), .val (.ref va), .val (.int (Int32.ofNat i)), .val (.int (Int32.ofNat s1))] [(.ref vb)])) _
    refine XS.iload X12.here hx rfl (hb hby d11_70) rfl ?_
    show Steps p.tables e below (T12.setTop (mkF m 72 #[.val (.ref o0), .val (.ref ka), .val (.ref va), .val (.int (Int32.ofNat i)), .val (.int (Int32.ofNat s1))] [(.int (Int32.ofNat s1)), (.ref vb)])) _
    refine XS.aloadN X12.here hx rfl (hb hby d11_72) rfl rfl ?_
    show Steps p.tables e below (T12.setTop (mkF m 73 #[.val (.ref o0), .val (.ref ka), .val (.ref va), .val (.int (Int32.ofNat i)), .val (.int (Int32.ofNat s1))] [(.ref va), (.int (Int32.ofNat s1)), (.ref vb)])) _
    refine XS.iloadN X12.here hx rfl (hb hby d11_73) rfl ?_
    show Steps p.tables e below (T12.setTop (mkF m 74 #[.val (.ref o0), .val (.ref ka), .val (.ref va), .val (.int (Int32.ofNat i)), .val (.int (Int32.ofNat s1))] [(.int (Int32.ofNat i)), (.ref va), (.int (Int32.ofNat s1)), (.ref vb)])) _
    refine iaLI X12 hx hZ e12 G9 (j := (Int32.ofNat i)) i (own_ti hi4 (by decide)) hi4 (g := (mkF m 74 #[.val (.ref o0), .val (.ref ka), .val (.ref va), .val (.int (Int32.ofNat i)), .val (.int (Int32.ofNat s1))] [(.int (Int32.ofNat i)), (.ref va), (.int (Int32.ofNat s1)), (.ref vb)])) rfl rfl (hb hby d11_74) _ ?_
    show Steps p.tables e below (T12.setTop (mkF m 75 #[.val (.ref o0), .val (.ref ka), .val (.ref va), .val (.int (Int32.ofNat i)), .val (.int (Int32.ofNat s1))] [(.int (v i)), (.int (Int32.ofNat s1)), (.ref vb)])) _
    refine st13 _ ?_
    show Steps p.tables e below (T13.setTop (mkF m 76 #[.val (.ref o0), .val (.ref ka), .val (.ref va), .val (.int (Int32.ofNat i)), .val (.int (Int32.ofNat s1))] [])) _
    refine XS.iinc X13.here hx rfl (hb hby d11_76) rfl (l' := #[.val (.ref o0), .val (.ref ka), .val (.ref va), .val (.int ((Int32.ofNat i) + (1 : Int32))), .val (.int (Int32.ofNat s1))]) rfl ?_
    show Steps p.tables e below (T13.setTop (mkF m 79 #[.val (.ref o0), .val (.ref ka), .val (.ref va), .val (.int ((Int32.ofNat i) + (1 : Int32))), .val (.int (Int32.ofNat s1))] [])) _
    refine XS.goto X13.here hx rfl (pc0 := 79) (pc' := 34) rfl (hb hby d11_79) (by decide) (by decide) ?_
    exact kt
  exact ⟨s1, T13, h13, _, X13, e13, N13, Z13, hat1, ⟨G14, G15, G16, G17, G18, G19, G20, G21⟩, K22⟩
-- BY HAND: the old entries go into the new arrays
theorem own_grow {p : Program} {l : Launch} {e : Env} {s : State} {m : MethodId} {args : Array Value} {below : List Frame} {meth : Method} {c : Code} {Z : State} {a0 : Array Value} (d : Nat) : ∀ {T0 : State} {locs : List Loc} {h0 : Heap} (o0 ka va kb vb : Addr) (k v kN vN : Nat → Int32) (q i : Nat) (s4 : Slot) (n0 : Nat)
    (X0 : Stand p l e ({ frames := 2, cells := 2, slots := 16, locals := 40 } : Room) s m args below meth c T0 locs 2 16) (hx : p.tables.exec = Jvm.exec) (hZ : Z.Warmed39 s.vm) (hw : ∀ d ∈ tables_1, d.before a0 Z = true) (hby : c.code = prog_6_method_11_code) (hml : c.maxLocals = 5) (hown : s.vm.findClass "com/example/mastiff/mastiff/IntMap" = some m.cls) (e0 : T0.heap = h0) (N0 : Fr n0 locs) (Z0 : n0 ≤ h0.size)
    (G1 : Gl Z h0 o0 ka va kb vb k v kN vN q) (hne : Ne5 o0 ka va kb vb) (gk : n0 ≤ kb) (gv : n0 ≤ vb) (hs4 : One s4) (hd : i + d = 4) (hc : cnt kN 8 ≤ cnt k i) (hI : Inv (Hn 8) kN 8) (hR : Rel (Hn 8) kN vN 8 (Mf k v i)) (hIo : Inv (Hn 4) k 4),
    ∃ (kN' vN' : Nat → Int32) (s4' : Slot) (T' : State) (h' : Heap) (locs' : List Loc), Stand p l e ({ frames := 2, cells := 2, slots := 16, locals := 40 } : Room) s m args below meth c T' locs' 2 16 ∧ T'.heap = h' ∧ Fr n0 locs' ∧ n0 ≤ h'.size ∧ Gl Z h' o0 ka va kb vb k v kN' vN' q ∧ cnt kN' 8 ≤ cnt k 4 ∧ Inv (Hn 8) kN' 8 ∧ Rel (Hn 8) kN' vN' 8 (Mf k v 4) ∧
      ∀ t, Steps p.tables e below (T'.setTop (mkF m 34 #[.val (.ref o0), .val (.ref ka), .val (.ref va), .val (.int (Int32.ofNat 4)), s4'] [])) t → Steps p.tables e below (T0.setTop (mkF m 34 #[.val (.ref o0), .val (.ref ka), .val (.ref va), .val (.int (Int32.ofNat i)), s4] [])) t := by
  induction d with
  | zero =>
    intro T0 locs h0 o0 ka va kb vb k v kN vN q i s4 n0 X0 hx hZ hw hby hml hown e0 N0 Z0 G1 hne gk gv hs4 hd hc hI hR hIo
    obtain rfl : i = 4 := by omega
    exact ⟨kN, vN, s4, T0, h0, locs, X0, e0, N0, Z0, G1, hc, hI, hR, fun t kt => kt⟩
  | succ d ih =>
    intro T0 locs h0 o0 ka va kb vb k v kN vN q i s4 n0 X0 hx hZ hw hby hml hown e0 N0 Z0 G1 hne gk gv hs4 hd hc hI hR hIo
    by_cases z : k i = -1
    · obtain ⟨T1, h1, L1, X1, e1, N1, Z1, G1', st1⟩ := tnG0 o0 ka va kb vb k v kN vN q i s4 n0 X0 hx hZ hw hby hml hown e0 N0 Z0 G1 hne gk gv (by omega) z
      rw [own_one i] at st1
      have hc' : cnt kN 8 ≤ cnt k (i + 1) := by simp only [cnt, if_pos z]; exact hc
      have hR' : Rel (Hn 8) kN vN 8 (Mf k v (i + 1)) := rel_congr hR (fun key hk => by simp only [Mf]; rw [if_neg (fun w => hk (by rw [w, z]))])
      obtain ⟨kN', vN', s4', T2, h2, L2, X2, e2, N2, Z2, G2, c2, I2, R2, st2⟩ := ih o0 ka va kb vb k v kN vN q (i + 1) s4 n0 X1 hx hZ hw hby hml hown e1 N1 Z1 G1' hne gk gv hs4 (by omega) hc' hI hR' hIo
      exact ⟨kN', vN', s4', T2, h2, L2, X2, e2, N2, Z2, G2, c2, I2, R2, fun t kt => st1 t (st2 t kt)⟩
    · obtain ⟨sN, T1, h1, L1, X1, e1, N1, Z1, hat, G1', st1⟩ := tnG1 o0 ka va kb vb k v kN vN q i s4 n0 X0 hx hZ hw hby hml hown e0 N0 Z0 G1 hne gk gv hs4 (by omega) z hI.2
      rw [own_one i] at st1
      have hno : ¬ kN sN = k i := fun w => by
        have := own_there hR z hat w
        rw [mf_new hIo (by omega) z] at this
        exact nomatch this
      have hcl := cnt_le k i
      obtain ⟨I', R'⟩ := ins_ok (x := v i) hI hR z hat (hat.1.resolve_left hno) (cnt_lt _ _ (by have := cnt_up kN sN (k i) 8; omega))
      have hc' : cnt (up kN sN (k i)) 8 ≤ cnt k (i + 1) := by have := cnt_up kN sN (k i) 8; rw [cnt_step z]; omega
      obtain ⟨kN', vN', s4', T2, h2, L2, X2, e2, N2, Z2, G2, c2, I2, R2, st2⟩ := ih o0 ka va kb vb k v _ _ q (i + 1) (.val (.int (Int32.ofNat sN))) n0 X1 hx hZ hw hby hml hown e1 N1 Z1 G1' hne gk gv (One.val rfl) (by omega) hc' I' R' hIo
      exact ⟨kN', vN', s4', T2, h2, L2, X2, e2, N2, Z2, G2, c2, I2, R2, fun t kt => st1 t (st2 t kt)⟩
theorem ef_11 (m : MethodId) (x0 : Addr) : entryFrame m #[(.ref x0)] 5 = mkF m 0 #[.val (.ref x0), .unset, .unset, .unset, .unset] [] := by first | (simp [entryFrame, mkF, argsToLocals, Value.category]; done) | rfl
theorem d11_0 : decode prog_6_method_11_code 0 = .ok (.aload_n 0, 1) := by decide +kernel
theorem d11_1 : decode prog_6_method_11_code 1 = .ok (.getfield 13, 3) := by decide +kernel
theorem d11_4 : decode prog_6_method_11_code 4 = .ok (.astore_n 1, 1) := by decide +kernel
theorem d11_5 : decode prog_6_method_11_code 5 = .ok (.aload_n 0, 1) := by decide +kernel
theorem d11_6 : decode prog_6_method_11_code 6 = .ok (.getfield 17, 3) := by decide +kernel
theorem d11_9 : decode prog_6_method_11_code 9 = .ok (.astore_n 2, 1) := by decide +kernel
theorem d11_10 : decode prog_6_method_11_code 10 = .ok (.aload_n 0, 1) := by decide +kernel
theorem d11_11 : decode prog_6_method_11_code 11 = .ok (.iconst 2, 1) := by decide +kernel
theorem d11_12 : decode prog_6_method_11_code 12 = .ok (.aload_n 1, 1) := by decide +kernel
theorem d11_13 : decode prog_6_method_11_code 13 = .ok (.arraylength, 1) := by decide +kernel
theorem d11_14 : decode prog_6_method_11_code 14 = .ok (.imul, 1) := by decide +kernel
theorem d11_15 : decode prog_6_method_11_code 15 = .ok (.invokestatic 7, 3) := by decide +kernel
theorem d11_18 : decode prog_6_method_11_code 18 = .ok (.putfield 13, 3) := by decide +kernel
theorem d11_21 : decode prog_6_method_11_code 21 = .ok (.aload_n 0, 1) := by decide +kernel
theorem d11_22 : decode prog_6_method_11_code 22 = .ok (.aload_n 0, 1) := by decide +kernel
theorem d11_23 : decode prog_6_method_11_code 23 = .ok (.getfield 13, 3) := by decide +kernel
theorem d11_26 : decode prog_6_method_11_code 26 = .ok (.arraylength, 1) := by decide +kernel
theorem d11_27 : decode prog_6_method_11_code 27 = .ok (.newarray .int, 2) := by decide +kernel
theorem d11_29 : decode prog_6_method_11_code 29 = .ok (.putfield 17, 3) := by decide +kernel
theorem d11_32 : decode prog_6_method_11_code 32 = .ok (.iconst 0, 1) := by decide +kernel
theorem d11_33 : decode prog_6_method_11_code 33 = .ok (.istore_n 3, 1) := by decide +kernel
theorem d11_82 : decode prog_6_method_11_code 82 = .ok (.return_, 1) := by decide +kernel
def Q11 (Z : State) (o0 : Addr) (ka : Addr) (va : Addr) (n : Nat) (k : Nat → Int32) (vO : Nat → Int32) (M : Int32 → Option Int32) (q : Nat) (h0 : Heap) (n0 : Nat) (v : Option Value) (h : Heap) (L : List Loc) : Prop := v = none ∧ Fr n0 L ∧ n0 ≤ h.size ∧ Im Z h n0 o0 M q
set_option maxRecDepth 65536 in
set_option maxHeartbeats 40000000 in
theorem rm11 (l : Launch) (Z : State) (a0 : Array Value) (hw : ∀ d ∈ tables_1, d.before a0 Z = true) (ws : List Jvm.Cond) (o0 : Addr) (ka : Addr) (va : Addr) (n : Nat) (k : Nat → Int32) (vO : Nat → Int32) (M : Int32 → Option Int32) (q : Nat) (h0 : Heap) (n0 : Nat) (Z0 : n0 ≤ h0.size) (F1 : Fld Z h0 o0 "com/example/mastiff/mastiff/IntMap" "keys" "[I" (.ref ka)) (F2 : Fld Z h0 o0 "com/example/mastiff/mastiff/IntMap" "values" "[I" (.ref va)) (F3 : Fld Z h0 o0 "com/example/mastiff/mastiff/IntMap" "size" "I" (.int (Int32.ofNat q))) (A1 : Ia Z h0 ka .int n k) (A2 : Ia Z h0 va .int n vO) (E1 : Exa Z h0 o0 "com/example/mastiff/mastiff/IntMap") (g1 : n0 ≤ o0) (x1 : o0 ≠ ka) (x2 : o0 ≠ va) (x3 : ka ≠ va) (hq : q ≤ 4) (hcn : cnt k n ≤ q) (hI : Inv (Hn n) k n) (hR : Rel (Hn n) k vO n M) (hn4 : n = 4) :
    MetFree l (⟨"com/example/mastiff/mastiff/IntMap", "grow", "()V"⟩ : MethodName) (head1 (Jvm.Cond.code (⟨"com/example/mastiff/mastiff/IntMap", "grow", "()V"⟩ : MethodName) prog_6_method_11_code 5 none :: ws) ({ frames := 2, cells := 2, slots := 16, locals := 40 } : Room)) (fun a U => a = #[(.ref o0)] ∧ Z.Warmed39 U.vm ∧ U.heap = h0) (fun _ _ _ _ _ => True) (fun _ U o U' => ∃ v L, o = .returned v ∧ Q11 Z o0 ka va n k vO M q h0 n0 v U'.heap L ∧ FrameEnd U o U' L ({ frames := 2, cells := 2, slots := 16, locals := 40 } : Room).cells ({ frames := 2, cells := 2, slots := 16, locals := 40 } : Room).slots) := by
  refine MetFree.of_bodySF (plainFor_of_name pn_1) hisR ?_
  intro p e s m args below meth c s₁ Bd hml0 hP hK
  obtain ⟨rfl, hZ, hh⟩ := hP
  have hx := Bd.exec
  have hby := Bd.bytes
  have hml : c.maxLocals = 5 := hml0
  have hown : s.vm.findClass "com/example/mastiff/mastiff/IntMap" = some m.cls := findClass_of_methodNamed Bd.named
  have hnm := (name_of_methodNamed Bd.named Bd.method).1
  have X0 : Stand p l e ({ frames := 2, cells := 2, slots := 16, locals := 40 } : Room) s m #[(.ref o0)] below meth c s₁ [] 0 0 := Stand.of_body Bd
  have e0 : s₁.heap = h0 := by rw [← hh, Bd.state]; rfl
  have pre0 : ∀ t, Steps p.tables e below (s₁.setTop (mkF m 0 #[.val (.ref o0), .unset, .unset, .unset, .unset] [])) t → Steps p.tables e below (s₁.setTop (entryFrame m #[(.ref o0)] 5)) t := fun t k => castTop (ef_11 m o0) k
  subst hn4
  have N0 := Fr.nil n0
  obtain ⟨T1, X1, e1, st1⟩ := getF X0 hx hZ hown (host := "") (Or.inl (hw _ (List.mem_of_getElem? (i := 18) rfl))) Via.refl e0 F1 (g := (mkF m 1 #[.val (.ref o0), .unset, .unset, .unset, .unset] [(.ref o0)])) rfl rfl (hb hby d11_1)
  obtain ⟨T2, X2, e2, st2⟩ := getF X1 hx hZ hown (host := "") (Or.inl (hw _ (List.mem_of_getElem? (i := 20) rfl))) Via.refl e1 F2 (g := (mkF m 6 #[.val (.ref o0), .val (.ref ka), .unset, .unset, .unset] [(.ref o0)])) rfl rfl (hb hby d11_6)
  obtain ⟨_, _, ⟨T3, L3, k3, n3⟩, -, X3, ⟨Lc3, hQ3, l3, y3, z3⟩, st3⟩ := Jvm.LawKit.callS X2 hx (y := (⟨"com/example/mastiff/mastiff/IntMap", "empty", "(I)[I"⟩ : MethodName)) hown (mvT hZ (hw _ (List.mem_of_getElem? (i := 10) rfl))) (mvT hZ (hw _ (List.mem_of_getElem? (i := 11) rfl))) (mvT hZ (hw _ (List.mem_of_getElem? (i := 3) rfl))) (mvT hZ (hw _ (List.mem_of_getElem? (i := 12) rfl))) (by decide) (backOf (W := 1) (rm3 l Z a0 hw [] ((2 : Int32) * (4 : Int32)) 8 h0 n0 Z0 (by decide) (by decide)) hZ (hw _ (List.mem_of_getElem? (i := 12) rfl)) (hw _ (List.mem_of_getElem? (i := 3) rfl)) (by decide) (by decide)) (g := (mkF m 15 #[.val (.ref o0), .val (.ref ka), .val (.ref va), .unset, .unset] [(.int ((2 : Int32) * (4 : Int32))), (.ref o0)])) rfl (by rw [hml]; rfl) (argsL := [(.int ((2 : Int32) * (4 : Int32)))]) (rest := [(.ref o0)]) (lenOf pd_2 rfl) rfl (by show 2 * 0 + _ ≤ _; exact Nat.le_of_eq rfl) (hb hby d11_15) (fun _ _ => ⟨rfl, e2, (by decide : 0 + 1 ≤ _), (by decide : 0 + 8 ≤ _)⟩)
  dsimp only [Pt.U, Pt.locs, Pt.cells, Pt.slots] at X3 l3 y3 z3 st3 hQ3
  subst l3 y3 z3
  obtain ⟨e3b, rfl, N3q, K3q, S3q, A3q⟩ := hQ3
  have ne4 : ka ≠ e3b := Nat.ne_of_lt (Nat.lt_of_lt_of_le A1.lt S3q)
  have ne5 : o0 ≠ e3b := Nat.ne_of_lt (Nat.lt_of_lt_of_le E1.lt S3q)
  have ne6 : va ≠ e3b := Nat.ne_of_lt (Nat.lt_of_lt_of_le A2.lt S3q)
  have g3x : n0 ≤ e3b := Nat.le_trans Z0 S3q
  have N3 := Fr.app N0 N3q
  have Z3 : n0 ≤ T3.heap.size := Nat.le_trans Z0 K3q.1
  have G7 : Exa Z T3.heap o0 "com/example/mastiff/mastiff/IntMap" := E1.keep K3q
  have G8 : Fld Z T3.heap o0 "com/example/mastiff/mastiff/IntMap" "keys" "[I" (.ref ka) := F1.keep K3q nin0
  have G9 : Fld Z T3.heap o0 "com/example/mastiff/mastiff/IntMap" "values" "[I" (.ref va) := F2.keep K3q nin0
  have G10 : Fld Z T3.heap o0 "com/example/mastiff/mastiff/IntMap" "size" "I" (.int (Int32.ofNat q)) := F3.keep K3q nin0
  have G11 : Ia Z T3.heap ka .int 4 k := A1.keep K3q nin0
  have G12 : Ia Z T3.heap va .int 4 vO := A2.keep K3q nin0
  obtain ⟨T13, h13, X13, e13, W13, st13⟩ := putF X3 hx hZ hown (host := "") (Or.inl (hw _ (List.mem_of_getElem? (i := 18) rfl))) Via.refl rfl G8 G7 (Or.inl (hw _ (List.mem_of_getElem? (i := 19) rfl))) (hw _ (List.mem_of_getElem? (i := 2) rfl)) (ty := (.array .int)) (by decide) rfl rfl (g := (mkF m 18 #[.val (.ref o0), .val (.ref ka), .val (.ref va), .unset, .unset] [(.ref e3b), (.ref o0)])) rfl rfl (hb hby d11_18)
  have G14 : Exa Z h13 o0 "com/example/mastiff/mastiff/IntMap" := G7.wr W13
  have G15 : Fld Z h13 o0 "com/example/mastiff/mastiff/IntMap" "keys" "[I" (.ref e3b) := G8.same W13
  have G16 : Fld Z h13 o0 "com/example/mastiff/mastiff/IntMap" "values" "[I" (.ref va) := G9.other W13 (Or.inr (slot_ne (Or.inl (hw _ (List.mem_of_getElem? (i := 21) rfl))) (Or.inl (hw _ (List.mem_of_getElem? (i := 19) rfl))) (by decide) (t := (.array .int)) (t' := (.array .int)) (by decide) (by decide)))
  have G17 : Fld Z h13 o0 "com/example/mastiff/mastiff/IntMap" "size" "I" (.int (Int32.ofNat q)) := G10.other W13 (Or.inr (slot_ne (Or.inl (hw _ (List.mem_of_getElem? (i := 46) rfl))) (Or.inl (hw _ (List.mem_of_getElem? (i := 19) rfl))) (by decide) (t := .int) (t' := (.array .int)) (by decide) (by decide)))
  have G18 : Ia Z h13 ka .int 4 k := G11.other W13 x1.symm
  have G19 : Ia Z h13 va .int 4 vO := G12.other W13 x2.symm
  have G20 : Ia Z h13 e3b .int 8 (fun _ => (-1 : Int32)) := A3q.other W13 ne5.symm
  have Z13 : n0 ≤ h13.size := Nat.le_trans Z3 (Keep.of_wr W13).1
  have N13 := Fr.snoc X13 N3 g1
  obtain ⟨T21, X21, e21, st21⟩ := getF X13 hx hZ hown (host := "") (Or.inl (hw _ (List.mem_of_getElem? (i := 18) rfl))) Via.refl e13 G15 (g := (mkF m 23 #[.val (.ref o0), .val (.ref ka), .val (.ref va), .unset, .unset] [(.ref o0), (.ref o0)])) rfl rfl (hb hby d11_23)
  obtain ⟨T22, h22, X22, e22, E22, A22, st22⟩ := iaNew X21 hx hZ (hw _ (List.mem_of_getElem? (i := 13) rfl)) e21 (g := (mkF m 27 #[.val (.ref o0), .val (.ref ka), .val (.ref va), .unset, .unset] [(.int (8 : Int32)), (.ref o0)])) rfl (hb hby d11_27) rfl 8 (by decide) 8 (Nat.le_refl _) (by decide) (by decide) (by decide) rfl (by decide)
  obtain ⟨b22, g22⟩ : ∃ z, z = h13.size := ⟨_, rfl⟩
  rw [← g22] at A22 st22
  have ne23 : e3b ≠ b22 := Nat.ne_of_lt (Nat.lt_of_lt_of_le G20.lt (Nat.le_of_eq g22.symm))
  have ne24 : ka ≠ b22 := Nat.ne_of_lt (Nat.lt_of_lt_of_le G18.lt (Nat.le_of_eq g22.symm))
  have ne25 : o0 ≠ b22 := Nat.ne_of_lt (Nat.lt_of_lt_of_le G14.lt (Nat.le_of_eq g22.symm))
  have ne26 : va ≠ b22 := Nat.ne_of_lt (Nat.lt_of_lt_of_le G19.lt (Nat.le_of_eq g22.symm))
  have gn22 : n0 ≤ b22 := Nat.le_trans Z13 (Nat.le_of_eq g22.symm)
  have Z22 : n0 ≤ h22.size := Nat.le_trans Z13 E22.1
  have G27 : Exa Z h22 o0 "com/example/mastiff/mastiff/IntMap" := G14.ext E22
  have G28 : Fld Z h22 o0 "com/example/mastiff/mastiff/IntMap" "keys" "[I" (.ref e3b) := G15.ext E22
  have G29 : Fld Z h22 o0 "com/example/mastiff/mastiff/IntMap" "values" "[I" (.ref va) := G16.ext E22
  have G30 : Fld Z h22 o0 "com/example/mastiff/mastiff/IntMap" "size" "I" (.int (Int32.ofNat q)) := G17.ext E22
  have G31 : Ia Z h22 ka .int 4 k := G18.ext E22
  have G32 : Ia Z h22 va .int 4 vO := G19.ext E22
  have G33 : Ia Z h22 e3b .int 8 (fun _ => (-1 : Int32)) := G20.ext E22
  have G34 : Ia Z h22 b22 .int 8 (fun _ => (0 : Int32)) := A22
  obtain ⟨T35, h35, X35, e35, W35, st35⟩ := putF X22 hx hZ hown (host := "") (Or.inl (hw _ (List.mem_of_getElem? (i := 20) rfl))) Via.refl e22 G29 G27 (Or.inl (hw _ (List.mem_of_getElem? (i := 21) rfl))) (hw _ (List.mem_of_getElem? (i := 2) rfl)) (ty := (.array .int)) (by decide) rfl rfl (g := (mkF m 29 #[.val (.ref o0), .val (.ref ka), .val (.ref va), .unset, .unset] [(.ref b22), (.ref o0)])) rfl rfl (hb hby d11_29)
  have G36 : Exa Z h35 o0 "com/example/mastiff/mastiff/IntMap" := G27.wr W35
  have G37 : Fld Z h35 o0 "com/example/mastiff/mastiff/IntMap" "keys" "[I" (.ref e3b) := G28.other W35 (Or.inr (slot_ne (Or.inl (hw _ (List.mem_of_getElem? (i := 19) rfl))) (Or.inl (hw _ (List.mem_of_getElem? (i := 21) rfl))) (by decide) (t := (.array .int)) (t' := (.array .int)) (by decide) (by decide)))
  have G38 : Fld Z h35 o0 "com/example/mastiff/mastiff/IntMap" "values" "[I" (.ref b22) := G29.same W35
  have G39 : Fld Z h35 o0 "com/example/mastiff/mastiff/IntMap" "size" "I" (.int (Int32.ofNat q)) := G30.other W35 (Or.inr (slot_ne (Or.inl (hw _ (List.mem_of_getElem? (i := 46) rfl))) (Or.inl (hw _ (List.mem_of_getElem? (i := 21) rfl))) (by decide) (t := .int) (t' := (.array .int)) (by decide) (by decide)))
  have G40 : Ia Z h35 ka .int 4 k := G31.other W35 x1.symm
  have G41 : Ia Z h35 va .int 4 vO := G32.other W35 x2.symm
  have G42 : Ia Z h35 e3b .int 8 (fun _ => (-1 : Int32)) := G33.other W35 ne5.symm
  have G43 : Ia Z h35 b22 .int 8 (fun _ => (0 : Int32)) := G34.other W35 ne25.symm
  have Z35 : n0 ≤ h35.size := Nat.le_trans Z22 (Keep.of_wr W35).1
  have N35 := Fr.snoc X35 N13 g1
  have K44 : ∀ t, Steps p.tables e below (T35.setTop (mkF m 34 #[.val (.ref o0), .val (.ref ka), .val (.ref va), .val (.int (0 : Int32)), .unset] [])) t → Steps p.tables e below (s₁.setTop (mkF m 0 #[.val (.ref o0), .unset, .unset, .unset, .unset] [])) t := by
    intro t kt
    show Steps p.tables e below (s₁.setTop (mkF m 0 #[.val (.ref o0), .unset, .unset, .unset, .unset] [])) _
    refine XS.aloadN X0.here hx rfl (hb hby d11_0) rfl rfl ?_
    show Steps p.tables e below (s₁.setTop (mkF m 1 #[.val (.ref o0), .unset, .unset, .unset, .unset] [(.ref o0)])) _
    refine st1 _ ?_
    show Steps p.tables e below (T1.setTop (mkF m 4 #[.val (.ref o0), .unset, .unset, .unset, .unset] [(.ref ka)])) _
    refine XS.astoreN X1.here hx rfl (hb hby d11_4) rfl rfl (l' := #[.val (.ref o0), .val (.ref ka), .unset, .unset, .unset]) rfl ?_
    show Steps p.tables e below (T1.setTop (mkF m 5 #[.val (.ref o0), .val (.ref ka), .unset, .unset, .unset] [])) _
    refine XS.aloadN X1.here hx rfl (hb hby d11_5) rfl rfl ?_
    show Steps p.tables e below (T1.setTop (mkF m 6 #[.val (.ref o0), .val (.ref ka), .unset, .unset, .unset] [(.ref o0)])) _
    refine st2 _ ?_
    show Steps p.tables e below (T2.setTop (mkF m 9 #[.val (.ref o0), .val (.ref ka), .unset, .unset, .unset] [(.ref va)])) _
    refine XS.astoreN X2.here hx rfl (hb hby d11_9) rfl rfl (l' := #[.val (.ref o0), .val (.ref ka), .val (.ref va), .unset, .unset]) rfl ?_
    show Steps p.tables e below (T2.setTop (mkF m 10 #[.val (.ref o0), .val (.ref ka), .val (.ref va), .unset, .unset] [])) _
    refine XS.aloadN X2.here hx rfl (hb hby d11_10) rfl rfl ?_
    show Steps p.tables e below (T2.setTop (mkF m 11 #[.val (.ref o0), .val (.ref ka), .val (.ref va), .unset, .unset] [(.ref o0)])) _
    refine XS.iconst X2.here hx rfl (hb hby d11_11) ?_
    show Steps p.tables e below (T2.setTop (mkF m 12 #[.val (.ref o0), .val (.ref ka), .val (.ref va), .unset, .unset] [(.int (2 : Int32)), (.ref o0)])) _
    refine XS.aloadN X2.here hx rfl (hb hby d11_12) rfl rfl ?_
    show Steps p.tables e below (T2.setTop (mkF m 13 #[.val (.ref o0), .val (.ref ka), .val (.ref va), .unset, .unset] [(.ref ka), (.int (2 : Int32)), (.ref o0)])) _
    refine iaLen X2 hx hZ e2 A1 (g := (mkF m 13 #[.val (.ref o0), .val (.ref ka), .val (.ref va), .unset, .unset] [(.ref ka), (.int (2 : Int32)), (.ref o0)])) rfl rfl (hb hby d11_13) _ ?_
    show Steps p.tables e below (T2.setTop (mkF m 14 #[.val (.ref o0), .val (.ref ka), .val (.ref va), .unset, .unset] [(.int (4 : Int32)), (.int (2 : Int32)), (.ref o0)])) _
    refine XS.imul X2.here hx rfl (hb hby d11_14) rfl ?_
    show Steps p.tables e below (T2.setTop (mkF m 15 #[.val (.ref o0), .val (.ref ka), .val (.ref va), .unset, .unset] [(.int ((2 : Int32) * (4 : Int32))), (.ref o0)])) _
    refine st3 _ ?_
    show Steps p.tables e below (T3.setTop (mkF m 18 #[.val (.ref o0), .val (.ref ka), .val (.ref va), .unset, .unset] [(.ref e3b), (.ref o0)])) _
    refine st13 _ ?_
    show Steps p.tables e below (T13.setTop (mkF m 21 #[.val (.ref o0), .val (.ref ka), .val (.ref va), .unset, .unset] [])) _
    refine XS.aloadN X13.here hx rfl (hb hby d11_21) rfl rfl ?_
    show Steps p.tables e below (T13.setTop (mkF m 22 #[.val (.ref o0), .val (.ref ka), .val (.ref va), .unset, .unset] [(.ref o0)])) _
    refine XS.aloadN X13.here hx rfl (hb hby d11_22) rfl rfl ?_
    show Steps p.tables e below (T13.setTop (mkF m 23 #[.val (.ref o0), .val (.ref ka), .val (.ref va), .unset, .unset] [(.ref o0), (.ref o0)])) _
    refine st21 _ ?_
    show Steps p.tables e below (T21.setTop (mkF m 26 #[.val (.ref o0), .val (.ref ka), .val (.ref va), .unset, .unset] [(.ref e3b), (.ref o0)])) _
    refine iaLen X21 hx hZ e21 G20 (g := (mkF m 26 #[.val (.ref o0), .val (.ref ka), .val (.ref va), .unset, .unset] [(.ref e3b), (.ref o0)])) rfl rfl (hb hby d11_26) _ ?_
    show Steps p.tables e below (T21.setTop (mkF m 27 #[.val (.ref o0), .val (.ref ka), .val (.ref va), .unset, .unset] [(.int (8 : Int32)), (.ref o0)])) _
    refine st22 _ ?_
    show Steps p.tables e below (T22.setTop (mkF m 29 #[.val (.ref o0), .val (.ref ka), .val (.ref va), .unset, .unset] [(.ref b22), (.ref o0)])) _
    refine st35 _ ?_
    show Steps p.tables e below (T35.setTop (mkF m 32 #[.val (.ref o0), .val (.ref ka), .val (.ref va), .unset, .unset] [])) _
    refine XS.iconst X35.here hx rfl (hb hby d11_32) ?_
    show Steps p.tables e below (T35.setTop (mkF m 33 #[.val (.ref o0), .val (.ref ka), .val (.ref va), .unset, .unset] [(.int (0 : Int32))])) _
    refine XS.istoreN X35.here hx rfl (hb hby d11_33) rfl (l' := #[.val (.ref o0), .val (.ref ka), .val (.ref va), .val (.int (0 : Int32)), .unset]) rfl ?_
    exact kt
  obtain ⟨kN, vN, s4, T9, h9, L9, X9, e9, N9, Z9, G9, c9, I9, R9, st9⟩ := own_grow 4 o0 ka va e3b b22 k vO (fun _ => (-1 : Int32)) (fun _ => (0 : Int32)) q 0 .unset n0 X35 hx hZ hw hby hml hown e35 N35 Z35 ⟨G36, G37, G38, G39, G40, G41, G42, G43⟩ ⟨x1, x2, ne5, ne25, x3, ne4, ne24, ne6, ne26, ne23⟩ g3x gn22 One.u (by omega) (by rw [cnt_const]; exact Nat.zero_le _) (empty_ok (v := fun _ => (0 : Int32)) (by decide)).1 (empty_ok (by decide)).2 hI
  obtain ⟨E9, F91, F92, F93, A91, A92, A93, A94⟩ := G9
  have K45 : ∀ t, Steps p.tables e below (T9.setTop (mkF m 82 #[.val (.ref o0), .val (.ref ka), .val (.ref va), .val (.int (Int32.ofNat 4)), s4] [])) t → Steps p.tables e below (s₁.setTop (mkF m 0 #[.val (.ref o0), .unset, .unset, .unset, .unset] [])) t := by
    intro t kt
    refine K44 _ ?_
    show Steps p.tables e below (T35.setTop (mkF m 34 #[.val (.ref o0), .val (.ref ka), .val (.ref va), .val (.int (0 : Int32)), .unset] [])) _
    refine st9 _ ?_
    show Steps p.tables e below (T9.setTop (mkF m 34 #[.val (.ref o0), .val (.ref ka), .val (.ref va), .val (.int (Int32.ofNat 4)), s4] [])) _
    refine XS.iloadN X9.here hx rfl (hb hby d11_34) rfl ?_
    show Steps p.tables e below (T9.setTop (mkF m 35 #[.val (.ref o0), .val (.ref ka), .val (.ref va), .val (.int (Int32.ofNat 4)), s4] [(.int (Int32.ofNat 4))])) _
    refine XS.aloadN X9.here hx rfl (hb hby d11_35) rfl rfl ?_
    show Steps p.tables e below (T9.setTop (mkF m 36 #[.val (.ref o0), .val (.ref ka), .val (.ref va), .val (.int (Int32.ofNat 4)), s4] [(.ref ka), (.int (Int32.ofNat 4))])) _
    refine iaLen X9 hx hZ e9 A91 (g := (mkF m 36 #[.val (.ref o0), .val (.ref ka), .val (.ref va), .val (.int (Int32.ofNat 4)), s4] [(.ref ka), (.int (Int32.ofNat 4))])) rfl rfl (hb hby d11_36) _ ?_
    show Steps p.tables e below (T9.setTop (mkF m 37 #[.val (.ref o0), .val (.ref ka), .val (.ref va), .val (.int (Int32.ofNat 4)), s4] [(.int (4 : Int32)), (.int (Int32.ofNat 4))])) _
    refine XS.icmpYes X9.here hx rfl (pc0 := 37) (pc' := 82) rfl (hb hby d11_37) rfl (flt (show ¬ ((Int32.ofNat 4) < (4 : Int32)) from (own_irr _))).2.1 (by decide) (by decide) ?_
    exact kt
  obtain ⟨fs, hr, hrun, hended, hW, hsame⟩ := X9.leave (v := none) (fun _ => rfl)
  refine ⟨_, _, pre0 _ (K45 _ ?_), hrun, hended, _, _, rfl, ?_, ⟨_, rfl⟩, hW, hsame.mono (by decide) (by decide)⟩
  · show Steps p.tables e below (T9.setTop (mkF m 82 #[.val (.ref o0), .val (.ref ka), .val (.ref va), .val (.int (Int32.ofNat 4)), s4] [])) _
    exact X9.returnOut hx Bd.returns (hb hby d11_82) hr
  · show Q11 Z o0 ka va 4 k vO M q h0 n0 _ T9.heap _
    rw [e9]
    exact ⟨rfl, N9, Z9, ⟨e3b, b22, 8, kN, vN, E9, F91, F92, F93, A93, A94, g1, g3x, gn22, ne5, ne25, ne23, Or.inr rfl, by omega, Nat.le_trans c9 hcn, I9, rel_congr R9 (fun key hk => mf_all hI hR hk)⟩⟩
theorem ef_9 (m : MethodId) (x0 : Addr) (x1 : Int32) (x2 : Int32) : entryFrame m #[(.ref x0), (.int x1), (.int x2)] 5 = mkF m 0 #[.val (.ref x0), .val (.int x1), .val (.int x2), .unset, .unset] [] := by first | (simp [entryFrame, mkF, argsToLocals, Value.category]; done) | rfl
theorem d9_0 : decode prog_6_method_4_code 0 = .ok (.aload_n 0, 1) := by decide +kernel
theorem d9_1 : decode prog_6_method_4_code 1 = .ok (.iload_n 1, 1) := by decide +kernel
theorem d9_2 : decode prog_6_method_4_code 2 = .ok (.invokevirtual 20, 3) := by decide +kernel
theorem d9_5 : decode prog_6_method_4_code 5 = .ok (.istore_n 3, 1) := by decide +kernel
theorem d9_6 : decode prog_6_method_4_code 6 = .ok (.aload_n 0, 1) := by decide +kernel
theorem d9_7 : decode prog_6_method_4_code 7 = .ok (.getfield 13, 3) := by decide +kernel
theorem d9_10 : decode prog_6_method_4_code 10 = .ok (.iload_n 3, 1) := by decide +kernel
theorem d9_11 : decode prog_6_method_4_code 11 = .ok (.iaload, 1) := by decide +kernel
theorem d9_12 : decode prog_6_method_4_code 12 = .ok (.iload_n 1, 1) := by decide +kernel
theorem d9_13 : decode prog_6_method_4_code 13 = .ok (.if_icmp .ne 14, 3) := by decide +kernel
theorem d9_16 : decode prog_6_method_4_code 16 = .ok (.aload_n 0, 1) := by decide +kernel
theorem d9_17 : decode prog_6_method_4_code 17 = .ok (.getfield 17, 3) := by decide +kernel
theorem d9_20 : decode prog_6_method_4_code 20 = .ok (.iload_n 3, 1) := by decide +kernel
theorem d9_21 : decode prog_6_method_4_code 21 = .ok (.iaload, 1) := by decide +kernel
theorem d9_22 : decode prog_6_method_4_code 22 = .ok (.istore 4, 2) := by decide +kernel
theorem d9_24 : decode prog_6_method_4_code 24 = .ok (.goto 48, 3) := by decide +kernel
theorem d9_72 : decode prog_6_method_4_code 72 = .ok (.iload 4, 2) := by decide +kernel
theorem d9_74 : decode prog_6_method_4_code 74 = .ok (.ireturn, 1) := by decide +kernel
theorem d9_27 : decode prog_6_method_4_code 27 = .ok (.aload_n 0, 1) := by decide +kernel
theorem d9_28 : decode prog_6_method_4_code 28 = .ok (.getfield 13, 3) := by decide +kernel
theorem d9_31 : decode prog_6_method_4_code 31 = .ok (.iload_n 3, 1) := by decide +kernel
theorem d9_32 : decode prog_6_method_4_code 32 = .ok (.iload_n 1, 1) := by decide +kernel
theorem d9_33 : decode prog_6_method_4_code 33 = .ok (.iastore, 1) := by decide +kernel
theorem d9_34 : decode prog_6_method_4_code 34 = .ok (.aload_n 0, 1) := by decide +kernel
theorem d9_35 : decode prog_6_method_4_code 35 = .ok (.getfield 17, 3) := by decide +kernel
theorem d9_38 : decode prog_6_method_4_code 38 = .ok (.iload_n 3, 1) := by decide +kernel
theorem d9_39 : decode prog_6_method_4_code 39 = .ok (.iload_n 2, 1) := by decide +kernel
theorem d9_40 : decode prog_6_method_4_code 40 = .ok (.iastore, 1) := by decide +kernel
theorem d9_41 : decode prog_6_method_4_code 41 = .ok (.aload_n 0, 1) := by decide +kernel
theorem d9_42 : decode prog_6_method_4_code 42 = .ok (.dup, 1) := by decide +kernel
theorem d9_43 : decode prog_6_method_4_code 43 = .ok (.getfield 24, 3) := by decide +kernel
theorem d9_46 : decode prog_6_method_4_code 46 = .ok (.iconst 1, 1) := by decide +kernel
theorem d9_47 : decode prog_6_method_4_code 47 = .ok (.iadd, 1) := by decide +kernel
theorem d9_48 : decode prog_6_method_4_code 48 = .ok (.putfield 24, 3) := by decide +kernel
theorem d9_51 : decode prog_6_method_4_code 51 = .ok (.iconst (-1), 1) := by decide +kernel
theorem d9_52 : decode prog_6_method_4_code 52 = .ok (.istore 4, 2) := by decide +kernel
theorem d9_54 : decode prog_6_method_4_code 54 = .ok (.iconst 2, 1) := by decide +kernel
theorem d9_55 : decode prog_6_method_4_code 55 = .ok (.aload_n 0, 1) := by decide +kernel
theorem d9_56 : decode prog_6_method_4_code 56 = .ok (.getfield 24, 3) := by decide +kernel
theorem d9_59 : decode prog_6_method_4_code 59 = .ok (.imul, 1) := by decide +kernel
theorem d9_60 : decode prog_6_method_4_code 60 = .ok (.aload_n 0, 1) := by decide +kernel
theorem d9_61 : decode prog_6_method_4_code 61 = .ok (.getfield 13, 3) := by decide +kernel
theorem d9_64 : decode prog_6_method_4_code 64 = .ok (.arraylength, 1) := by decide +kernel
theorem d9_65 : decode prog_6_method_4_code 65 = .ok (.if_icmp .le 7, 3) := by decide +kernel
theorem d9_68 : decode prog_6_method_4_code 68 = .ok (.aload_n 0, 1) := by decide +kernel
theorem d9_69 : decode prog_6_method_4_code 69 = .ok (.invokevirtual 28, 3) := by decide +kernel
theorem pd_3 : parseMethodDescriptor "()V" = some ⟨[], none⟩ := by decide +kernel
def Q9 (Z : State) (o0 : Addr) (p1 : Int32) (p2 : Int32) (M : Int32 → Option Int32) (q : Nat) (h0 : Heap) (n0 : Nat) (v : Option Value) (h : Heap) (L : List Loc) : Prop := ∃ r, v = some (.int r) ∧ Fr n0 L ∧ n0 ≤ h.size ∧ ∃ q', q' ≤ q + 1 ∧ Im Z h n0 o0 (pia M p1 p2) q'
set_option maxRecDepth 65536 in
set_option maxHeartbeats 40000000 in
theorem rm9 (l : Launch) (Z : State) (a0 : Array Value) (hw : ∀ d ∈ tables_1, d.before a0 Z = true) (ws : List Jvm.Cond) (o0 : Addr) (p1 : Int32) (p2 : Int32) (M : Int32 → Option Int32) (q : Nat) (h0 : Heap) (n0 : Nat) (Z0 : n0 ≤ h0.size) (I1 : Im Z h0 n0 o0 M q) (hq : q < 4) (hk : p1 ≠ -1) :
    MetFree l (⟨"com/example/mastiff/mastiff/IntMap", "putIfAbsent", "(II)I"⟩ : MethodName) (head1 (Jvm.Cond.code (⟨"com/example/mastiff/mastiff/IntMap", "putIfAbsent", "(II)I"⟩ : MethodName) prog_6_method_4_code 5 (some .int) :: ws) ({ frames := 3, cells := 2, slots := 16, locals := 56 } : Room)) (fun a U => a = #[(.ref o0), (.int p1), (.int p2)] ∧ Z.Warmed39 U.vm ∧ U.heap = h0) (fun _ _ _ _ _ => True) (fun _ U o U' => ∃ v L, o = .returned v ∧ Q9 Z o0 p1 p2 M q h0 n0 v U'.heap L ∧ FrameEnd U o U' L ({ frames := 3, cells := 2, slots := 16, locals := 56 } : Room).cells ({ frames := 3, cells := 2, slots := 16, locals := 56 } : Room).slots) := by
  refine MetFree.of_bodySF (plainFor_of_name pn_1) hisR ?_
  intro p e s m args below meth c s₁ Bd hml0 hP hK
  obtain ⟨rfl, hZ, hh⟩ := hP
  have hx := Bd.exec
  have hby := Bd.bytes
  have hml : c.maxLocals = 5 := hml0
  have hown : s.vm.findClass "com/example/mastiff/mastiff/IntMap" = some m.cls := findClass_of_methodNamed Bd.named
  have hnm := (name_of_methodNamed Bd.named Bd.method).1
  have X0 : Stand p l e ({ frames := 3, cells := 2, slots := 16, locals := 56 } : Room) s m #[(.ref o0), (.int p1), (.int p2)] below meth c s₁ [] 0 0 := Stand.of_body Bd
  have e0 : s₁.heap = h0 := by rw [← hh, Bd.state]; rfl
  have pre0 : ∀ t, Steps p.tables e below (s₁.setTop (mkF m 0 #[.val (.ref o0), .val (.int p1), .val (.int p2), .unset, .unset] [])) t → Steps p.tables e below (s₁.setTop (entryFrame m #[(.ref o0), (.int p1), (.int p2)] 5)) t := fun t k => castTop (ef_9 m o0 p1 p2) k
  obtain ⟨ka, va, n, k, v, E1, F1, F2, F3, A1, A2, g1, g2, g3, x1, x2, x3, hn, h2q, hcn, hI, hR⟩ := I1
  have N0 := Fr.nil n0
  obtain ⟨cq1, q1, q1'⟩ := E1.cell
  obtain ⟨_, _, ⟨T1, L1, k1, n1⟩, -, X1, ⟨Lc1, hQ1, l1, y1, z1⟩, st1⟩ := X0.privateBack hx (y := (⟨"com/example/mastiff/mastiff/IntMap", "slotOf", "(I)I"⟩ : MethodName)) hown (mvT hZ (hw _ (List.mem_of_getElem? (i := 27) rfl))) (mvT hZ (hw _ (List.mem_of_getElem? (i := 28) rfl))) (own_sel hZ (hw _ (List.mem_of_getElem? (i := 2) rfl)) (hw _ (List.mem_of_getElem? (i := 29) rfl)) (hw _ (List.mem_of_getElem? (i := 28) rfl)) (by decide)) (Cond.privateMethod_at (mvP hZ (hw _ (List.mem_of_getElem? (i := 29) rfl)) (args := #[]))) (mvT hZ (hw _ (List.mem_of_getElem? (i := 30) rfl))) (by decide) (backOf (W := 0) (rm6 l Z a0 hw [] o0 p1 ka n k h0 n0 Z0 F1 A1 hn hI.2) hZ (hw _ (List.mem_of_getElem? (i := 30) rfl)) (hw _ (List.mem_of_getElem? (i := 3) rfl)) (by decide) (by decide)) (g := (mkF m 2 #[.val (.ref o0), .val (.int p1), .val (.int p2), .unset, .unset] [(.int p1), (.ref o0)])) rfl (by rw [hml]; rfl) (Steps.refl _) (a := o0) (by rw [e0]; exact q1) q1' (argsL := [(.int p1)]) (rest := []) (lenOf pd_1 rfl) rfl (by show 2 * 0 + _ ≤ _; exact Nat.le_of_eq rfl) (hb hby d9_2) (fun _ _ => ⟨rfl, e0, (by decide : 0 + 0 ≤ _), (by decide : 0 + 0 ≤ _)⟩)
  dsimp only [Pt.U, Pt.locs, Pt.cells, Pt.slots] at X1 l1 y1 z1 st1 hQ1
  subst l1 y1 z1
  obtain ⟨s1, rfl, rfl, e1, hat1⟩ := hQ1
  try rw [List.append_nil] at X1
  have hlt1 : s1 < n := at_lt (by omega) hat1
  obtain ⟨T2, X2, e2, st2⟩ := getF X1 hx hZ hown (host := "") (Or.inl (hw _ (List.mem_of_getElem? (i := 18) rfl))) Via.refl e1 F1 (g := (mkF m 7 #[.val (.ref o0), .val (.int p1), .val (.int p2), .val (.int (Int32.ofNat s1)), .unset] [(.ref o0)])) rfl rfl (hb hby d9_7)
  have K3 : ∀ t, Steps p.tables e below (T2.setTop (mkF m 13 #[.val (.ref o0), .val (.int p1), .val (.int p2), .val (.int (Int32.ofNat s1)), .unset] [(.int p1), (.int (k s1))])) t → Steps p.tables e below (s₁.setTop (mkF m 0 #[.val (.ref o0), .val (.int p1), .val (.int p2), .unset, .unset] [])) t := by
    intro t kt
    show Steps p.tables e below (s₁.setTop (mkF m 0 #[.val (.ref o0), .val (.int p1), .val (.int p2), .unset, .unset] [])) _
    refine XS.aloadN X0.here hx rfl (hb hby d9_0) rfl rfl ?_
    show Steps p.tables e below (s₁.setTop (mkF m 1 #[.val (.ref o0), .val (.int p1), .val (.int p2), .unset, .unset] [(.ref o0)])) _
    refine XS.iloadN X0.here hx rfl (hb hby d9_1) rfl ?_
    show Steps p.tables e below (s₁.setTop (mkF m 2 #[.val (.ref o0), .val (.int p1), .val (.int p2), .unset, .unset] [(.int p1), (.ref o0)])) _
    refine st1.trans ?_
    show Steps p.tables e below (T1.setTop (mkF m 5 #[.val (.ref o0), .val (.int p1), .val (.int p2), .unset, .unset] [(.int (Int32.ofNat s1))])) _
    refine XS.istoreN X1.here hx rfl (hb hby d9_5) rfl (l' := #[.val (.ref o0), .val (.int p1), .val (.int p2), .val (.int (Int32.ofNat s1)), .unset]) rfl ?_
    show Steps p.tables e below (T1.setTop (mkF m 6 #[.val (.ref o0), .val (.int p1), .val (.int p2), .val (.int (Int32.ofNat s1)), .unset] [])) _
    refine XS.aloadN X1.here hx rfl (hb hby d9_6) rfl rfl ?_
    show Steps p.tables e below (T1.setTop (mkF m 7 #[.val (.ref o0), .val (.int p1), .val (.int p2), .val (.int (Int32.ofNat s1)), .unset] [(.ref o0)])) _
    refine st2 _ ?_
    show Steps p.tables e below (T2.setTop (mkF m 10 #[.val (.ref o0), .val (.int p1), .val (.int p2), .val (.int (Int32.ofNat s1)), .unset] [(.ref ka)])) _
    refine XS.iloadN X2.here hx rfl (hb hby d9_10) rfl ?_
    show Steps p.tables e below (T2.setTop (mkF m 11 #[.val (.ref o0), .val (.int p1), .val (.int p2), .val (.int (Int32.ofNat s1)), .unset] [(.int (Int32.ofNat s1)), (.ref ka)])) _
    refine iaLI X2 hx hZ e2 A1 (j := (Int32.ofNat s1)) s1 (own_ti hlt1 (own_le8 hn)) hlt1 (g := (mkF m 11 #[.val (.ref o0), .val (.int p1), .val (.int p2), .val (.int (Int32.ofNat s1)), .unset] [(.int (Int32.ofNat s1)), (.ref ka)])) rfl rfl (hb hby d9_11) _ ?_
    show Steps p.tables e below (T2.setTop (mkF m 12 #[.val (.ref o0), .val (.int p1), .val (.int p2), .val (.int (Int32.ofNat s1)), .unset] [(.int (k s1))])) _
    refine XS.iloadN X2.here hx rfl (hb hby d9_12) rfl ?_
    exact kt
  by_cases hc4 : (k s1) = p1
  · skip
    obtain ⟨T5, X5, e5, st5⟩ := getF X2 hx hZ hown (host := "") (Or.inl (hw _ (List.mem_of_getElem? (i := 20) rfl))) Via.refl e2 F2 (g := (mkF m 17 #[.val (.ref o0), .val (.int p1), .val (.int p2), .val (.int (Int32.ofNat s1)), .unset] [(.ref o0)])) rfl rfl (hb hby d9_17)
    have K6 : ∀ t, Steps p.tables e below (T5.setTop (mkF m 74 #[.val (.ref o0), .val (.int p1), .val (.int p2), .val (.int (Int32.ofNat s1)), .val (.int (v s1))] [(.int (v s1))])) t → Steps p.tables e below (s₁.setTop (mkF m 0 #[.val (.ref o0), .val (.int p1), .val (.int p2), .unset, .unset] [])) t := by
      intro t kt
      refine K3 _ ?_
      show Steps p.tables e below (T2.setTop (mkF m 13 #[.val (.ref o0), .val (.int p1), .val (.int p2), .val (.int (Int32.ofNat s1)), .unset] [(.int p1), (.int (k s1))])) _
      refine XS.icmpNo X2.here hx rfl (hb hby d9_13) rfl (teq hc4).2 ?_
      show Steps p.tables e below (T2.setTop (mkF m 16 #[.val (.ref o0), .val (.int p1), .val (.int p2), .val (.int (Int32.ofNat s1)), .unset] [])) _
      refine XS.aloadN X2.here hx rfl (hb hby d9_16) rfl rfl ?_
      show Steps p.tables e below (T2.setTop (mkF m 17 #[.val (.ref o0), .val (.int p1), .val (.int p2), .val (.int (Int32.ofNat s1)), .unset] [(.ref o0)])) _
      refine st5 _ ?_
      show Steps p.tables e below (T5.setTop (mkF m 20 #[.val (.ref o0), .val (.int p1), .val (.int p2), .val (.int (Int32.ofNat s1)), .unset] [(.ref va)])) _
      refine XS.iloadN X5.here hx rfl (hb hby d9_20) rfl ?_
      show Steps p.tables e below (T5.setTop (mkF m 21 #[.val (.ref o0), .val (.int p1), .val (.int p2), .val (.int (Int32.ofNat s1)), .unset] [(.int (Int32.ofNat s1)), (.ref va)])) _
      refine iaLI X5 hx hZ e5 A2 (j := (Int32.ofNat s1)) s1 (own_ti hlt1 (own_le8 hn)) hlt1 (g := (mkF m 21 #[.val (.ref o0), .val (.int p1), .val (.int p2), .val (.int (Int32.ofNat s1)), .unset] [(.int (Int32.ofNat s1)), (.ref va)])) rfl rfl (hb hby d9_21) _ ?_
      show Steps p.tables e below (T5.setTop (mkF m 22 #[.val (.ref o0), .val (.int p1), .val (.int p2), .val (.int (Int32.ofNat s1)), .unset] [(.int (v s1))])) _
      refine XS.istore X5.here hx rfl (hb hby d9_22) rfl (l' := #[.val (.ref o0), .val (.int p1), .val (.int p2), .val (.int (Int32.ofNat s1)), .val (.int (v s1))]) rfl ?_
      show Steps p.tables e below (T5.setTop (mkF m 24 #[.val (.ref o0), .val (.int p1), .val (.int p2), .val (.int (Int32.ofNat s1)), .val (.int (v s1))] [])) _
      refine XS.goto X5.here hx rfl (pc0 := 24) (pc' := 72) rfl (hb hby d9_24) (by decide) (by decide) ?_
      show Steps p.tables e below (T5.setTop (mkF m 72 #[.val (.ref o0), .val (.int p1), .val (.int p2), .val (.int (Int32.ofNat s1)), .val (.int (v s1))] [])) _
      refine XS.iload X5.here hx rfl (hb hby d9_72) rfl ?_
      exact kt
    obtain ⟨fs, hr, hrun, hended, hW, hsame⟩ := X5.leave (v := some (.int (v s1))) (fun h => by rw [Bd.returns] at h; cases h)
    refine ⟨_, _, pre0 _ (K6 _ ?_), hrun, hended, _, _, rfl, ?_, ⟨_, rfl⟩, hW, hsame.mono (by decide) (by decide)⟩
    · show Steps p.tables e below (T5.setTop (mkF m 74 #[.val (.ref o0), .val (.int p1), .val (.int p2), .val (.int (Int32.ofNat s1)), .val (.int (v s1))] [(.int (v s1))])) _
      exact retOut X5 hx Bd.returns rfl (Or.inl ⟨rfl, Or.inl rfl, _, rfl⟩) (hb hby d9_74) hr
    · show Q9 Z o0 p1 p2 M q h0 n0 _ T5.heap _
      rw [e5]
      exact ⟨_, rfl, N0, Z0, q, Nat.le_succ _, ⟨ka, va, n, k, v, E1, F1, F2, F3, A1, A2, g1, g2, g3, x1, x2, x3, hn, h2q, hcn, hI, own_pia1 hR hk hat1 hc4⟩⟩
  · skip
    obtain ⟨T7, X7, e7, st7⟩ := getF X2 hx hZ hown (host := "") (Or.inl (hw _ (List.mem_of_getElem? (i := 18) rfl))) Via.refl e2 F1 (g := (mkF m 28 #[.val (.ref o0), .val (.int p1), .val (.int p2), .val (.int (Int32.ofNat s1)), .unset] [(.ref o0)])) rfl rfl (hb hby d9_28)
    obtain ⟨T8, h8, X8, e8, W8, A8, st8⟩ := iaI X7 hx hZ e7 A1 (j := (Int32.ofNat s1)) s1 (own_ti hlt1 (own_le8 hn)) hlt1 (g := (mkF m 33 #[.val (.ref o0), .val (.int p1), .val (.int p2), .val (.int (Int32.ofNat s1)), .unset] [(.int p1), (.int (Int32.ofNat s1)), (.ref ka)])) rfl rfl (hb hby d9_33)
    have G9 : Exa Z h8 o0 "com/example/mastiff/mastiff/IntMap" := E1.wr W8
    have G10 : Fld Z h8 o0 "com/example/mastiff/mastiff/IntMap" "keys" "[I" (.ref ka) := F1.other W8 (Or.inl x1)
    have G11 : Fld Z h8 o0 "com/example/mastiff/mastiff/IntMap" "values" "[I" (.ref va) := F2.other W8 (Or.inl x1)
    have G12 : Fld Z h8 o0 "com/example/mastiff/mastiff/IntMap" "size" "I" (.int (Int32.ofNat q)) := F3.other W8 (Or.inl x1)
    have G13 : Ia Z h8 ka .int n (up k s1 p1) := A8
    have G14 : Ia Z h8 va .int n v := A2.other W8 x3.symm
    have Z8 : n0 ≤ h8.size := Nat.le_trans Z0 (Keep.of_wr W8).1
    have N8 := Fr.snoc X8 N0 g2
    obtain ⟨T15, X15, e15, st15⟩ := getF X8 hx hZ hown (host := "") (Or.inl (hw _ (List.mem_of_getElem? (i := 20) rfl))) Via.refl e8 G11 (g := (mkF m 35 #[.val (.ref o0), .val (.int p1), .val (.int p2), .val (.int (Int32.ofNat s1)), .unset] [(.ref o0)])) rfl rfl (hb hby d9_35)
    obtain ⟨T16, h16, X16, e16, W16, A16, st16⟩ := iaI X15 hx hZ e15 G14 (j := (Int32.ofNat s1)) s1 (own_ti hlt1 (own_le8 hn)) hlt1 (g := (mkF m 40 #[.val (.ref o0), .val (.int p1), .val (.int p2), .val (.int (Int32.ofNat s1)), .unset] [(.int p2), (.int (Int32.ofNat s1)), (.ref va)])) rfl rfl (hb hby d9_40)
    have G17 : Exa Z h16 o0 "com/example/mastiff/mastiff/IntMap" := G9.wr W16
    have G18 : Fld Z h16 o0 "com/example/mastiff/mastiff/IntMap" "keys" "[I" (.ref ka) := G10.other W16 (Or.inl x2)
    have G19 : Fld Z h16 o0 "com/example/mastiff/mastiff/IntMap" "values" "[I" (.ref va) := G11.other W16 (Or.inl x2)
    have G20 : Fld Z h16 o0 "com/example/mastiff/mastiff/IntMap" "size" "I" (.int (Int32.ofNat q)) := G12.other W16 (Or.inl x2)
    have G21 : Ia Z h16 ka .int n (up k s1 p1) := G13.other W16 x3
    have G22 : Ia Z h16 va .int n (up v s1 p2) := A16
    have Z16 : n0 ≤ h16.size := Nat.le_trans Z8 (Keep.of_wr W16).1
    have N16 := Fr.snoc X16 N8 g3
    obtain ⟨T23, X23, e23, st23⟩ := getF X16 hx hZ hown (host := "") (Or.inl (hw _ (List.mem_of_getElem? (i := 45) rfl))) Via.refl e16 G20 (g := (mkF m 43 #[.val (.ref o0), .val (.int p1), .val (.int p2), .val (.int (Int32.ofNat s1)), .unset] [(.ref o0), (.ref o0)])) rfl rfl (hb hby d9_43)
    obtain ⟨T24, h24, X24, e24, W24, st24⟩ := putF X23 hx hZ hown (host := "") (Or.inl (hw _ (List.mem_of_getElem? (i := 45) rfl))) Via.refl e23 G20 G17 (Or.inl (hw _ (List.mem_of_getElem? (i := 46) rfl))) (hw _ (List.mem_of_getElem? (i := 2) rfl)) (ty := .int) (by decide) rfl rfl (g := (mkF m 48 #[.val (.ref o0), .val (.int p1), .val (.int p2), .val (.int (Int32.ofNat s1)), .unset] [(.int ((Int32.ofNat q) + (1 : Int32))), (.ref o0)])) rfl rfl (hb hby d9_48)
    have G25 : Exa Z h24 o0 "com/example/mastiff/mastiff/IntMap" := G17.wr W24
    have G26 : Fld Z h24 o0 "com/example/mastiff/mastiff/IntMap" "keys" "[I" (.ref ka) := G18.other W24 (Or.inr (slot_ne (Or.inl (hw _ (List.mem_of_getElem? (i := 19) rfl))) (Or.inl (hw _ (List.mem_of_getElem? (i := 46) rfl))) (by decide) (t := (.array .int)) (t' := .int) (by decide) (by decide)))
    have G27 : Fld Z h24 o0 "com/example/mastiff/mastiff/IntMap" "values" "[I" (.ref va) := G19.other W24 (Or.inr (slot_ne (Or.inl (hw _ (List.mem_of_getElem? (i := 21) rfl))) (Or.inl (hw _ (List.mem_of_getElem? (i := 46) rfl))) (by decide) (t := (.array .int)) (t' := .int) (by decide) (by decide)))
    have G28 : Fld Z h24 o0 "com/example/mastiff/mastiff/IntMap" "size" "I" (.int ((Int32.ofNat q) + (1 : Int32))) := G20.same W24
    have G29 : Ia Z h24 ka .int n (up k s1 p1) := G21.other W24 x1.symm
    have G30 : Ia Z h24 va .int n (up v s1 p2) := G22.other W24 x2.symm
    have Z24 : n0 ≤ h24.size := Nat.le_trans Z16 (Keep.of_wr W24).1
    have N24 := Fr.snoc X24 N16 g1
    obtain ⟨T31, X31, e31, st31⟩ := getF X24 hx hZ hown (host := "") (Or.inl (hw _ (List.mem_of_getElem? (i := 45) rfl))) Via.refl e24 G28 (g := (mkF m 56 #[.val (.ref o0), .val (.int p1), .val (.int p2), .val (.int (Int32.ofNat s1)), .val (.int (-1 : Int32))] [(.ref o0), (.int (2 : Int32))])) rfl rfl (hb hby d9_56)
    obtain ⟨T32, X32, e32, st32⟩ := getF X31 hx hZ hown (host := "") (Or.inl (hw _ (List.mem_of_getElem? (i := 18) rfl))) Via.refl e31 G26 (g := (mkF m 61 #[.val (.ref o0), .val (.int p1), .val (.int p2), .val (.int (Int32.ofNat s1)), .val (.int (-1 : Int32))] [(.ref o0), (.int ((2 : Int32) * ((Int32.ofNat q) + (1 : Int32))))])) rfl rfl (hb hby d9_61)
    have K33 : ∀ t, Steps p.tables e below (T32.setTop (mkF m 65 #[.val (.ref o0), .val (.int p1), .val (.int p2), .val (.int (Int32.ofNat s1)), .val (.int (-1 : Int32))] [(.int (Int32.ofNat n)), (.int ((2 : Int32) * ((Int32.ofNat q) + (1 : Int32))))])) t → Steps p.tables e below (s₁.setTop (mkF m 0 #[.val (.ref o0), .val (.int p1), .val (.int p2), .unset, .unset] [])) t := by
      intro t kt
      refine K3 _ ?_
      show Steps p.tables e below (T2.setTop (mkF m 13 #[.val (.ref o0), .val (.int p1), .val (.int p2), .val (.int (Int32.ofNat s1)), .unset] [(.int p1), (.int (k s1))])) _
      refine XS.icmpYes X2.here hx rfl (pc0 := 13) (pc' := 27) rfl (hb hby d9_13) rfl (feq hc4).2 (by decide) (by decide) ?_
      show Steps p.tables e below (T2.setTop (mkF m 27 #[.val (.ref o0), .val (.int p1), .val (.int p2), .val (.int (Int32.ofNat s1)), .unset] [])) _
      refine XS.aloadN X2.here hx rfl (hb hby d9_27) rfl rfl ?_
      show Steps p.tables e below (T2.setTop (mkF m 28 #[.val (.ref o0), .val (.int p1), .val (.int p2), .val (.int (Int32.ofNat s1)), .unset] [(.ref o0)])) _
      refine st7 _ ?_
      show Steps p.tables e below (T7.setTop (mkF m 31 #[.val (.ref o0), .val (.int p1), .val (.int p2), .val (.int (Int32.ofNat s1)), .unset] [(.ref ka)])) _
      refine XS.iloadN X7.here hx rfl (hb hby d9_31) rfl ?_
      show Steps p.tables e below (T7.setTop (mkF m 32 #[.val (.ref o0), .val (.int p1), .val (.int p2), .val (.int (Int32.ofNat s1)), .unset] [(.int (Int32.ofNat s1)), (.ref ka)])) _
      refine XS.iloadN X7.here hx rfl (hb hby d9_32) rfl ?_
      show Steps p.tables e below (T7.setTop (mkF m 33 #[.val (.ref o0), .val (.int p1), .val (.int p2), .val (.int (Int32.ofNat s1)), .unset] [(.int p1), (.int (Int32.ofNat s1)), (.ref ka)])) _
      refine st8 _ ?_
      show Steps p.tables e below (T8.setTop (mkF m 34 #[.val (.ref o0), .val (.int p1), .val (.int p2), .val (.int (Int32.ofNat s1)), .unset] [])) _
      refine XS.aloadN X8.here hx rfl (hb hby d9_34) rfl rfl ?_
      show Steps p.tables e below (T8.setTop (mkF m 35 #[.val (.ref o0), .val (.int p1), .val (.int p2), .val (.int (Int32.ofNat s1)), .unset] [(.ref o0)])) _
      refine st15 _ ?_
      show Steps p.tables e below (T15.setTop (mkF m 38 #[.val (.ref o0), .val (.int p1), .val (.int p2), .val (.int (Int32.ofNat s1)), .unset] [(.ref va)])) _
      refine XS.iloadN X15.here hx rfl (hb hby d9_38) rfl ?_
      show Steps p.tables e below (T15.setTop (mkF m 39 #[.val (.ref o0), .val (.int p1), .val (.int p2), .val (.int (Int32.ofNat s1)), .unset] [(.int (Int32.ofNat s1)), (.ref va)])) _
      refine XS.iloadN X15.here hx rfl (hb hby d9_39) rfl ?_
      show Steps p.tables e below (T15.setTop (mkF m 40 #[.val (.ref o0), .val (.int p1), .val (.int p2), .val (.int (Int32.ofNat s1)), .unset] [(.int p2), (.int (Int32.ofNat s1)), (.ref va)])) _
      refine st16 _ ?_
      show Steps p.tables e below (T16.setTop (mkF m 41 #[.val (.ref o0), .val (.int p1), .val (.int p2), .val (.int (Int32.ofNat s1)), .unset] [])) _
      refine XS.aloadN X16.here hx rfl (hb hby d9_41) rfl rfl ?_
      show Steps p.tables e below (T16.setTop (mkF m 42 #[.val (.ref o0), .val (.int p1), .val (.int p2), .val (.int (Int32.ofNat s1)), .unset] [(.ref o0)])) _
      refine XS.dup X16.here hx rfl (hb hby d9_42) rfl rfl ?_
      show Steps p.tables e below (T16.setTop (mkF m 43 #[.val (.ref o0), .val (.int p1), .val (.int p2), .val (.int (Int32.ofNat s1)), .unset] [(.ref o0), (.ref o0)])) _
      refine st23 _ ?_
      show Steps p.tables e below (T23.setTop (mkF m 46 #[.val (.ref o0), .val (.int p1), .val (.int p2), .val (.int (Int32.ofNat s1)), .unset] [(.int (Int32.ofNat q)), (.ref o0)])) _
      refine XS.iconst X23.here hx rfl (hb hby d9_46) ?_
      show Steps p.tables e below (T23.setTop (mkF m 47 #[.val (.ref o0), .val (.int p1), .val (.int p2), .val (.int (Int32.ofNat s1)), .unset] [(.int (1 : Int32)), (.int (Int32.ofNat q)), (.ref o0)])) _
      refine XS.iadd X23.here hx rfl (hb hby d9_47) rfl ?_
      show Steps p.tables e below (T23.setTop (mkF m 48 #[.val (.ref o0), .val (.int p1), .val (.int p2), .val (.int (Int32.ofNat s1)), .unset] [(.int ((Int32.ofNat q) + (1 : Int32))), (.ref o0)])) _
      refine st24 _ ?_
      show Steps p.tables e below (T24.setTop (mkF m 51 #[.val (.ref o0), .val (.int p1), .val (.int p2), .val (.int (Int32.ofNat s1)), .unset] [])) _
      refine XS.iconst X24.here hx rfl (hb hby d9_51) ?_
      show Steps p.tables e below (T24.setTop (mkF m 52 #[.val (.ref o0), .val (.int p1), .val (.int p2), .val (.int (Int32.ofNat s1)), .unset] [(.int (-1 : Int32))])) _
      refine XS.istore X24.here hx rfl (hb hby d9_52) rfl (l' := #[.val (.ref o0), .val (.int p1), .val (.int p2), .val (.int (Int32.ofNat s1)), .val (.int (-1 : Int32))]) rfl ?_
      show Steps p.tables e below (T24.setTop (mkF m 54 #[.val (.ref o0), .val (.int p1), .val (.int p2), .val (.int (Int32.ofNat s1)), .val (.int (-1 : Int32))] [])) _
      refine XS.iconst X24.here hx rfl (hb hby d9_54) ?_
      show Steps p.tables e below (T24.setTop (mkF m 55 #[.val (.ref o0), .val (.int p1), .val (.int p2), .val (.int (Int32.ofNat s1)), .val (.int (-1 : Int32))] [(.int (2 : Int32))])) _
      refine XS.aloadN X24.here hx rfl (hb hby d9_55) rfl rfl ?_
      show Steps p.tables e below (T24.setTop (mkF m 56 #[.val (.ref o0), .val (.int p1), .val (.int p2), .val (.int (Int32.ofNat s1)), .val (.int (-1 : Int32))] [(.ref o0), (.int (2 : Int32))])) _
      refine st31 _ ?_
      show Steps p.tables e below (T31.setTop (mkF m 59 #[.val (.ref o0), .val (.int p1), .val (.int p2), .val (.int (Int32.ofNat s1)), .val (.int (-1 : Int32))] [(.int ((Int32.ofNat q) + (1 : Int32))), (.int (2 : Int32))])) _
      refine XS.imul X31.here hx rfl (hb hby d9_59) rfl ?_
      show Steps p.tables e below (T31.setTop (mkF m 60 #[.val (.ref o0), .val (.int p1), .val (.int p2), .val (.int (Int32.ofNat s1)), .val (.int (-1 : Int32))] [(.int ((2 : Int32) * ((Int32.ofNat q) + (1 : Int32))))])) _
      refine XS.aloadN X31.here hx rfl (hb hby d9_60) rfl rfl ?_
      show Steps p.tables e below (T31.setTop (mkF m 61 #[.val (.ref o0), .val (.int p1), .val (.int p2), .val (.int (Int32.ofNat s1)), .val (.int (-1 : Int32))] [(.ref o0), (.int ((2 : Int32) * ((Int32.ofNat q) + (1 : Int32))))])) _
      refine st32 _ ?_
      show Steps p.tables e below (T32.setTop (mkF m 64 #[.val (.ref o0), .val (.int p1), .val (.int p2), .val (.int (Int32.ofNat s1)), .val (.int (-1 : Int32))] [(.ref ka), (.int ((2 : Int32) * ((Int32.ofNat q) + (1 : Int32))))])) _
      refine iaLen X32 hx hZ e32 G29 (g := (mkF m 64 #[.val (.ref o0), .val (.int p1), .val (.int p2), .val (.int (Int32.ofNat s1)), .val (.int (-1 : Int32))] [(.ref ka), (.int ((2 : Int32) * ((Int32.ofNat q) + (1 : Int32))))])) rfl rfl (hb hby d9_64) _ ?_
      exact kt
    by_cases hc34 : (Int32.ofNat n) < ((2 : Int32) * ((Int32.ofNat q) + (1 : Int32)))
    · skip
      obtain ⟨cq35, q35, q35'⟩ := G25.cell
      obtain ⟨_, _, ⟨T35, L35, k35, n35⟩, -, X35, ⟨Lc35, hQ35, l35, y35, z35⟩, st35⟩ := X32.privateBack hx (y := (⟨"com/example/mastiff/mastiff/IntMap", "grow", "()V"⟩ : MethodName)) hown (mvT hZ (hw _ (List.mem_of_getElem? (i := 51) rfl))) (mvT hZ (hw _ (List.mem_of_getElem? (i := 52) rfl))) (own_sel hZ (hw _ (List.mem_of_getElem? (i := 2) rfl)) (hw _ (List.mem_of_getElem? (i := 53) rfl)) (hw _ (List.mem_of_getElem? (i := 52) rfl)) (by decide)) (Cond.privateMethod_at (mvP hZ (hw _ (List.mem_of_getElem? (i := 53) rfl)) (args := #[]))) (mvT hZ (hw _ (List.mem_of_getElem? (i := 54) rfl))) (by decide) (backOf (W := 0) (rm11 l Z a0 hw [] o0 ka va n (up k s1 p1) (up v s1 p2) (pia M p1 p2) (q + 1) h24 n0 Z24 G26 G27 (by have := G28; rw [own_one] at this; exact this) G29 G30 G25 g1 x1 x2 x3 (by omega) (own_cnt1 hcn) (own_pia2 (x := p2) hI hR hk hat1 hc4 (own_room hn h2q hq hcn)).1 (own_pia2 (x := p2) hI hR hk hat1 hc4 (own_room hn h2q hq hcn)).2 (own_big hn hq hc34)) hZ (hw _ (List.mem_of_getElem? (i := 54) rfl)) (hw _ (List.mem_of_getElem? (i := 3) rfl)) (by decide) (by decide)) (g := (mkF m 69 #[.val (.ref o0), .val (.int p1), .val (.int p2), .val (.int (Int32.ofNat s1)), .val (.int (-1 : Int32))] [(.ref o0)])) rfl (by rw [hml]; rfl) (Steps.refl _) (a := o0) (by rw [e32]; exact q35) q35' (argsL := []) (rest := []) (lenOf pd_3 rfl) rfl (by show 2 * 0 + _ ≤ _; exact Nat.le_of_eq rfl) (hb hby d9_69) (fun _ _ => ⟨rfl, e32, (by decide : 0 + 2 ≤ _), (by decide : 0 + 16 ≤ _)⟩)
      dsimp only [Pt.U, Pt.locs, Pt.cells, Pt.slots] at X35 l35 y35 z35 st35 hQ35
      subst l35 y35 z35
      obtain ⟨rfl, N35q, Z35q, I35q⟩ := hQ35
      have N35 := Fr.app N24 N35q
      have K36 : ∀ t, Steps p.tables e below (T35.setTop (mkF m 74 #[.val (.ref o0), .val (.int p1), .val (.int p2), .val (.int (Int32.ofNat s1)), .val (.int (-1 : Int32))] [(.int (-1 : Int32))])) t → Steps p.tables e below (s₁.setTop (mkF m 0 #[.val (.ref o0), .val (.int p1), .val (.int p2), .unset, .unset] [])) t := by
        intro t kt
        refine K33 _ ?_
        show Steps p.tables e below (T32.setTop (mkF m 65 #[.val (.ref o0), .val (.int p1), .val (.int p2), .val (.int (Int32.ofNat s1)), .val (.int (-1 : Int32))] [(.int (Int32.ofNat n)), (.int ((2 : Int32) * ((Int32.ofNat q) + (1 : Int32))))])) _
        refine XS.icmpNo X32.here hx rfl (hb hby d9_65) rfl (tlt hc34).2.2.2 ?_
        show Steps p.tables e below (T32.setTop (mkF m 68 #[.val (.ref o0), .val (.int p1), .val (.int p2), .val (.int (Int32.ofNat s1)), .val (.int (-1 : Int32))] [])) _
        refine XS.aloadN X32.here hx rfl (hb hby d9_68) rfl rfl ?_
        show Steps p.tables e below (T32.setTop (mkF m 69 #[.val (.ref o0), .val (.int p1), .val (.int p2), .val (.int (Int32.ofNat s1)), .val (.int (-1 : Int32))] [(.ref o0)])) _
        refine st35.trans ?_
        show Steps p.tables e below (T35.setTop (mkF m 72 #[.val (.ref o0), .val (.int p1), .val (.int p2), .val (.int (Int32.ofNat s1)), .val (.int (-1 : Int32))] [])) _
        refine XS.iload X35.here hx rfl (hb hby d9_72) rfl ?_
        exact kt
      obtain ⟨fs, hr, hrun, hended, hW, hsame⟩ := X35.leave (v := some (.int (-1 : Int32))) (fun h => by rw [Bd.returns] at h; cases h)
      refine ⟨_, _, pre0 _ (K36 _ ?_), hrun, hended, _, _, rfl, ?_, ⟨_, rfl⟩, hW, hsame.mono (by decide) (by decide)⟩
      · show Steps p.tables e below (T35.setTop (mkF m 74 #[.val (.ref o0), .val (.int p1), .val (.int p2), .val (.int (Int32.ofNat s1)), .val (.int (-1 : Int32))] [(.int (-1 : Int32))])) _
        exact retOut X35 hx Bd.returns rfl (Or.inl ⟨rfl, Or.inl rfl, _, rfl⟩) (hb hby d9_74) hr
      · show Q9 Z o0 p1 p2 M q h0 n0 _ T35.heap _
        exact ⟨_, rfl, N35, Z35q, q + 1, Nat.le_refl _, I35q⟩
    · skip
      have K37 : ∀ t, Steps p.tables e below (T32.setTop (mkF m 74 #[.val (.ref o0), .val (.int p1), .val (.int p2), .val (.int (Int32.ofNat s1)), .val (.int (-1 : Int32))] [(.int (-1 : Int32))])) t → Steps p.tables e below (s₁.setTop (mkF m 0 #[.val (.ref o0), .val (.int p1), .val (.int p2), .unset, .unset] [])) t := by
        intro t kt
        refine K33 _ ?_
        show Steps p.tables e below (T32.setTop (mkF m 65 #[.val (.ref o0), .val (.int p1), .val (.int p2), .val (.int (Int32.ofNat s1)), .val (.int (-1 : Int32))] [(.int (Int32.ofNat n)), (.int ((2 : Int32) * ((Int32.ofNat q) + (1 : Int32))))])) _
        refine XS.icmpYes X32.here hx rfl (pc0 := 65) (pc' := 72) rfl (hb hby d9_65) rfl (flt hc34).2.2.2 (by decide) (by decide) ?_
        show Steps p.tables e below (T32.setTop (mkF m 72 #[.val (.ref o0), .val (.int p1), .val (.int p2), .val (.int (Int32.ofNat s1)), .val (.int (-1 : Int32))] [])) _
        refine XS.iload X32.here hx rfl (hb hby d9_72) rfl ?_
        exact kt
      obtain ⟨fs, hr, hrun, hended, hW, hsame⟩ := X32.leave (v := some (.int (-1 : Int32))) (fun h => by rw [Bd.returns] at h; cases h)
      refine ⟨_, _, pre0 _ (K37 _ ?_), hrun, hended, _, _, rfl, ?_, ⟨_, rfl⟩, hW, hsame.mono (by decide) (by decide)⟩
      · show Steps p.tables e below (T32.setTop (mkF m 74 #[.val (.ref o0), .val (.int p1), .val (.int p2), .val (.int (Int32.ofNat s1)), .val (.int (-1 : Int32))] [(.int (-1 : Int32))])) _
        exact retOut X32 hx Bd.returns rfl (Or.inl ⟨rfl, Or.inl rfl, _, rfl⟩) (hb hby d9_74) hr
      · show Q9 Z o0 p1 p2 M q h0 n0 _ T32.heap _
        rw [e32]
        exact ⟨_, rfl, N24, Z24, q + 1, Nat.le_refl _, ⟨ka, va, n, (up k s1 p1), (up v s1 p2), G25, G26, G27, (by have := G28; rw [own_one] at this; exact this), G29, G30, g1, g2, g3, x1, x2, x3, hn, own_fit hn hq hc34, own_cnt1 hcn, (own_pia2 (x := p2) hI hR hk hat1 hc4 (own_room hn h2q hq hcn)).1, (own_pia2 (x := p2) hI hR hk hat1 hc4 (own_room hn h2q hq hcn)).2⟩⟩
def cval (M : Int32 → Option Int32) (key : Int32) : Int32 := if M key = none then 0 else 1
def gvalM (M : Int32 → Option Int32) (key : Int32) : Int32 := (M key).getD (-1)
section OwnGet
variable {H : Int32 → Nat} {k v : Nat → Int32} {n s : Nat} {key x : Int32} {M : Int32 → Option Int32}
theorem own_c1 (hR : Rel H k v n M) (hk : key ≠ -1) (ha : At' H k n key s) (he : k s = key) : cval M key = 1 := by
  unfold cval; rw [own_there hR hk ha he]; rfl
theorem own_c0 (hR : Rel H k v n M) (hk : key ≠ -1) (ha : At' H k n key s) (he : ¬ k s = key) : cval M key = 0 := by
  unfold cval; rw [own_not hR hk ha he]; rfl
theorem own_g1 (hR : Rel H k v n M) (hk : key ≠ -1) (ha : At' H k n key s) (he : k s = key) : gvalM M key = v s := by
  unfold gvalM; rw [own_there hR hk ha he]; rfl
theorem own_g0 (hR : Rel H k v n M) (hk : key ≠ -1) (ha : At' H k n key s) (he : ¬ k s = key) : gvalM M key = -1 := by
  unfold gvalM; rw [own_not hR hk ha he]; rfl
theorem own_has (hR : Rel H k v n (pia M key x)) (hk : key ≠ -1) (ha : At' H k n key s) : k s = key := by
  refine Classical.byContradiction fun z => ?_
  have := own_not hR hk ha z
  unfold pia at this
  split at this
  · rw [show ins M key x key = some x from if_pos rfl] at this
    exact nomatch this
  · exact absurd this (by assumption)
theorem own_put (hI : Inv H k n) (hR : Rel H k v n (pia M key x)) (hk : key ≠ -1) (ha : At' H k n key s) : Rel H k (up v s x) n (ins M key x) := by
  refine rel_congr (set_ok (x := x) hI hR hk ha (own_has hR hk ha)) fun q _ => ?_
  by_cases z : q = key
  · rw [show ins (pia M key x) key x q = some x from if_pos z, show ins M key x q = some x from if_pos z]
  · rw [show ins (pia M key x) key x q = pia M key x q from if_neg z, show ins M key x q = M q from if_neg z]
    unfold pia
    split
    · exact if_neg z
    · rfl
end OwnGet
theorem ef_5 (m : MethodId) (x0 : Addr) (x1 : Int32) : entryFrame m #[(.ref x0), (.int x1)] 3 = mkF m 0 #[.val (.ref x0), .val (.int x1), .unset] [] := by first | (simp [entryFrame, mkF, argsToLocals, Value.category]; done) | rfl
theorem d5_0 : decode prog_6_method_2_code 0 = .ok (.aload_n 0, 1) := by decide +kernel
theorem d5_1 : decode prog_6_method_2_code 1 = .ok (.iload_n 1, 1) := by decide +kernel
theorem d5_2 : decode prog_6_method_2_code 2 = .ok (.invokevirtual 20, 3) := by decide +kernel
theorem d5_5 : decode prog_6_method_2_code 5 = .ok (.istore_n 2, 1) := by decide +kernel
theorem d5_6 : decode prog_6_method_2_code 6 = .ok (.aload_n 0, 1) := by decide +kernel
theorem d5_7 : decode prog_6_method_2_code 7 = .ok (.getfield 13, 3) := by decide +kernel
theorem d5_10 : decode prog_6_method_2_code 10 = .ok (.iload_n 2, 1) := by decide +kernel
theorem d5_11 : decode prog_6_method_2_code 11 = .ok (.iaload, 1) := by decide +kernel
theorem d5_12 : decode prog_6_method_2_code 12 = .ok (.iload_n 1, 1) := by decide +kernel
theorem d5_13 : decode prog_6_method_2_code 13 = .ok (.if_icmp .ne 12, 3) := by decide +kernel
theorem d5_16 : decode prog_6_method_2_code 16 = .ok (.aload_n 0, 1) := by decide +kernel
theorem d5_17 : decode prog_6_method_2_code 17 = .ok (.getfield 17, 3) := by decide +kernel
theorem d5_20 : decode prog_6_method_2_code 20 = .ok (.iload_n 2, 1) := by decide +kernel
theorem d5_21 : decode prog_6_method_2_code 21 = .ok (.iaload, 1) := by decide +kernel
theorem d5_22 : decode prog_6_method_2_code 22 = .ok (.goto 4, 3) := by decide +kernel
theorem d5_26 : decode prog_6_method_2_code 26 = .ok (.ireturn, 1) := by decide +kernel
theorem d5_25 : decode prog_6_method_2_code 25 = .ok (.iconst (-1), 1) := by decide +kernel
def Q5 (Z : State) (o0 : Addr) (p1 : Int32) (M : Int32 → Option Int32) (q : Nat) (h0 : Heap) (n0 : Nat) (v : Option Value) (h : Heap) (L : List Loc) : Prop := v = some (.int (gvalM M p1)) ∧ L = [] ∧ h = h0
set_option maxRecDepth 65536 in
set_option maxHeartbeats 40000000 in
theorem rm5 (l : Launch) (Z : State) (a0 : Array Value) (hw : ∀ d ∈ tables_1, d.before a0 Z = true) (ws : List Jvm.Cond) (o0 : Addr) (p1 : Int32) (M : Int32 → Option Int32) (q : Nat) (h0 : Heap) (n0 : Nat) (Z0 : n0 ≤ h0.size) (I1 : Im Z h0 n0 o0 M q) (hk : p1 ≠ -1) :
    MetFree l (⟨"com/example/mastiff/mastiff/IntMap", "get", "(I)I"⟩ : MethodName) (head1 (Jvm.Cond.code (⟨"com/example/mastiff/mastiff/IntMap", "get", "(I)I"⟩ : MethodName) prog_6_method_2_code 3 (some .int) :: ws) ({ frames := 2, cells := 0, slots := 0, locals := 28 } : Room)) (fun a U => a = #[(.ref o0), (.int p1)] ∧ Z.Warmed39 U.vm ∧ U.heap = h0) (fun _ _ _ _ _ => True) (fun _ U o U' => ∃ v L, o = .returned v ∧ Q5 Z o0 p1 M q h0 n0 v U'.heap L ∧ FrameEnd U o U' L ({ frames := 2, cells := 0, slots := 0, locals := 28 } : Room).cells ({ frames := 2, cells := 0, slots := 0, locals := 28 } : Room).slots) := by
  refine MetFree.of_bodySF (plainFor_of_name pn_1) hisR ?_
  intro p e s m args below meth c s₁ Bd hml0 hP hK
  obtain ⟨rfl, hZ, hh⟩ := hP
  have hx := Bd.exec
  have hby := Bd.bytes
  have hml : c.maxLocals = 3 := hml0
  have hown : s.vm.findClass "com/example/mastiff/mastiff/IntMap" = some m.cls := findClass_of_methodNamed Bd.named
  have hnm := (name_of_methodNamed Bd.named Bd.method).1
  have X0 : Stand p l e ({ frames := 2, cells := 0, slots := 0, locals := 28 } : Room) s m #[(.ref o0), (.int p1)] below meth c s₁ [] 0 0 := Stand.of_body Bd
  have e0 : s₁.heap = h0 := by rw [← hh, Bd.state]; rfl
  have pre0 : ∀ t, Steps p.tables e below (s₁.setTop (mkF m 0 #[.val (.ref o0), .val (.int p1), .unset] [])) t → Steps p.tables e below (s₁.setTop (entryFrame m #[(.ref o0), (.int p1)] 3)) t := fun t k => castTop (ef_5 m o0 p1) k
  obtain ⟨ka, va, n, k, v, E1, F1, F2, F3, A1, A2, g1, g2, g3, x1, x2, x3, hn, h2q, hcn, hI, hR⟩ := I1
  have N0 := Fr.nil n0
  obtain ⟨cq1, q1, q1'⟩ := E1.cell
  obtain ⟨_, _, ⟨T1, L1, k1, n1⟩, -, X1, ⟨Lc1, hQ1, l1, y1, z1⟩, st1⟩ := X0.privateBack hx (y := (⟨"com/example/mastiff/mastiff/IntMap", "slotOf", "(I)I"⟩ : MethodName)) hown (mvT hZ (hw _ (List.mem_of_getElem? (i := 27) rfl))) (mvT hZ (hw _ (List.mem_of_getElem? (i := 28) rfl))) (own_sel hZ (hw _ (List.mem_of_getElem? (i := 2) rfl)) (hw _ (List.mem_of_getElem? (i := 29) rfl)) (hw _ (List.mem_of_getElem? (i := 28) rfl)) (by decide)) (Cond.privateMethod_at (mvP hZ (hw _ (List.mem_of_getElem? (i := 29) rfl)) (args := #[]))) (mvT hZ (hw _ (List.mem_of_getElem? (i := 30) rfl))) (by decide) (backOf (W := 0) (rm6 l Z a0 hw [] o0 p1 ka n k h0 n0 Z0 F1 A1 hn hI.2) hZ (hw _ (List.mem_of_getElem? (i := 30) rfl)) (hw _ (List.mem_of_getElem? (i := 3) rfl)) (by decide) (by decide)) (g := (mkF m 2 #[.val (.ref o0), .val (.int p1), .unset] [(.int p1), (.ref o0)])) rfl (by rw [hml]; rfl) (Steps.refl _) (a := o0) (by rw [e0]; exact q1) q1' (argsL := [(.int p1)]) (rest := []) (lenOf pd_1 rfl) rfl (by show 2 * 0 + _ ≤ _; exact Nat.le_of_eq rfl) (hb hby d5_2) (fun _ _ => ⟨rfl, e0, (by decide : 0 + 0 ≤ _), (by decide : 0 + 0 ≤ _)⟩)
  dsimp only [Pt.U, Pt.locs, Pt.cells, Pt.slots] at X1 l1 y1 z1 st1 hQ1
  subst l1 y1 z1
  obtain ⟨s1, rfl, rfl, e1, hat1⟩ := hQ1
  try rw [List.append_nil] at X1
  have hlt1 : s1 < n := at_lt (by omega) hat1
  obtain ⟨T2, X2, e2, st2⟩ := getF X1 hx hZ hown (host := "") (Or.inl (hw _ (List.mem_of_getElem? (i := 18) rfl))) Via.refl e1 F1 (g := (mkF m 7 #[.val (.ref o0), .val (.int p1), .val (.int (Int32.ofNat s1))] [(.ref o0)])) rfl rfl (hb hby d5_7)
  have K3 : ∀ t, Steps p.tables e below (T2.setTop (mkF m 13 #[.val (.ref o0), .val (.int p1), .val (.int (Int32.ofNat s1))] [(.int p1), (.int (k s1))])) t → Steps p.tables e below (s₁.setTop (mkF m 0 #[.val (.ref o0), .val (.int p1), .unset] [])) t := by
    intro t kt
    show Steps p.tables e below (s₁.setTop (mkF m 0 #[.val (.ref o0), .val (.int p1), .unset] [])) _
    refine XS.aloadN X0.here hx rfl (hb hby d5_0) rfl rfl ?_
    show Steps p.tables e below (s₁.setTop (mkF m 1 #[.val (.ref o0), .val (.int p1), .unset] [(.ref o0)])) _
    refine XS.iloadN X0.here hx rfl (hb hby d5_1) rfl ?_
    show Steps p.tables e below (s₁.setTop (mkF m 2 #[.val (.ref o0), .val (.int p1), .unset] [(.int p1), (.ref o0)])) _
    refine st1.trans ?_
    show Steps p.tables e below (T1.setTop (mkF m 5 #[.val (.ref o0), .val (.int p1), .unset] [(.int (Int32.ofNat s1))])) _
    refine XS.istoreN X1.here hx rfl (hb hby d5_5) rfl (l' := #[.val (.ref o0), .val (.int p1), .val (.int (Int32.ofNat s1))]) rfl ?_
    show Steps p.tables e below (T1.setTop (mkF m 6 #[.val (.ref o0), .val (.int p1), .val (.int (Int32.ofNat s1))] [])) _
    refine XS.aloadN X1.here hx rfl (hb hby d5_6) rfl rfl ?_
    show Steps p.tables e below (T1.setTop (mkF m 7 #[.val (.ref o0), .val (.int p1), .val (.int (Int32.ofNat s1))] [(.ref o0)])) _
    refine st2 _ ?_
    show Steps p.tables e below (T2.setTop (mkF m 10 #[.val (.ref o0), .val (.int p1), .val (.int (Int32.ofNat s1))] [(.ref ka)])) _
    refine XS.iloadN X2.here hx rfl (hb hby d5_10) rfl ?_
    show Steps p.tables e below (T2.setTop (mkF m 11 #[.val (.ref o0), .val (.int p1), .val (.int (Int32.ofNat s1))] [(.int (Int32.ofNat s1)), (.ref ka)])) _
    refine iaLI X2 hx hZ e2 A1 (j := (Int32.ofNat s1)) s1 (own_ti hlt1 (own_le8 hn)) hlt1 (g := (mkF m 11 #[.val (.ref o0), .val (.int p1), .val (.int (Int32.ofNat s1))] [(.int (Int32.ofNat s1)), (.ref ka)])) rfl rfl (hb hby d5_11) _ ?_
    show Steps p.tables e below (T2.setTop (mkF m 12 #[.val (.ref o0), .val (.int p1), .val (.int (Int32.ofNat s1))] [(.int (k s1))])) _
    refine XS.iloadN X2.here hx rfl (hb hby d5_12) rfl ?_
    exact kt
  by_cases hc4 : (k s1) = p1
  · skip
    obtain ⟨T5, X5, e5, st5⟩ := getF X2 hx hZ hown (host := "") (Or.inl (hw _ (List.mem_of_getElem? (i := 20) rfl))) Via.refl e2 F2 (g := (mkF m 17 #[.val (.ref o0), .val (.int p1), .val (.int (Int32.ofNat s1))] [(.ref o0)])) rfl rfl (hb hby d5_17)
    have K6 : ∀ t, Steps p.tables e below (T5.setTop (mkF m 26 #[.val (.ref o0), .val (.int p1), .val (.int (Int32.ofNat s1))] [(.int (v s1))])) t → Steps p.tables e below (s₁.setTop (mkF m 0 #[.val (.ref o0), .val (.int p1), .unset] [])) t := by
      intro t kt
      refine K3 _ ?_
      show Steps p.tables e below (T2.setTop (mkF m 13 #[.val (.ref o0), .val (.int p1), .val (.int (Int32.ofNat s1))] [(.int p1), (.int (k s1))])) _
      refine XS.icmpNo X2.here hx rfl (hb hby d5_13) rfl (teq hc4).2 ?_
      show Steps p.tables e below (T2.setTop (mkF m 16 #[.val (.ref o0), .val (.int p1), .val (.int (Int32.ofNat s1))] [])) _
      refine XS.aloadN X2.here hx rfl (hb hby d5_16) rfl rfl ?_
      show Steps p.tables e below (T2.setTop (mkF m 17 #[.val (.ref o0), .val (.int p1), .val (.int (Int32.ofNat s1))] [(.ref o0)])) _
      refine st5 _ ?_
      show Steps p.tables e below (T5.setTop (mkF m 20 #[.val (.ref o0), .val (.int p1), .val (.int (Int32.ofNat s1))] [(.ref va)])) _
      refine XS.iloadN X5.here hx rfl (hb hby d5_20) rfl ?_
      show Steps p.tables e below (T5.setTop (mkF m 21 #[.val (.ref o0), .val (.int p1), .val (.int (Int32.ofNat s1))] [(.int (Int32.ofNat s1)), (.ref va)])) _
      refine iaLI X5 hx hZ e5 A2 (j := (Int32.ofNat s1)) s1 (own_ti hlt1 (own_le8 hn)) hlt1 (g := (mkF m 21 #[.val (.ref o0), .val (.int p1), .val (.int (Int32.ofNat s1))] [(.int (Int32.ofNat s1)), (.ref va)])) rfl rfl (hb hby d5_21) _ ?_
      show Steps p.tables e below (T5.setTop (mkF m 22 #[.val (.ref o0), .val (.int p1), .val (.int (Int32.ofNat s1))] [(.int (v s1))])) _
      refine XS.goto X5.here hx rfl (pc0 := 22) (pc' := 26) rfl (hb hby d5_22) (by decide) (by decide) ?_
      exact kt
    obtain ⟨fs, hr, hrun, hended, hW, hsame⟩ := X5.leave (v := some (.int (v s1))) (fun h => by rw [Bd.returns] at h; cases h)
    refine ⟨_, _, pre0 _ (K6 _ ?_), hrun, hended, _, _, rfl, ?_, ⟨_, rfl⟩, hW, hsame.mono (by decide) (by decide)⟩
    · show Steps p.tables e below (T5.setTop (mkF m 26 #[.val (.ref o0), .val (.int p1), .val (.int (Int32.ofNat s1))] [(.int (v s1))])) _
      exact retOut X5 hx Bd.returns rfl (Or.inl ⟨rfl, Or.inl rfl, _, rfl⟩) (hb hby d5_26) hr
    · show Q5 Z o0 p1 M q h0 n0 _ T5.heap _
      rw [e5]
      exact ⟨by rw [own_g1 hR hk hat1 hc4], rfl, rfl⟩
  · skip
    have K7 : ∀ t, Steps p.tables e below (T2.setTop (mkF m 26 #[.val (.ref o0), .val (.int p1), .val (.int (Int32.ofNat s1))] [(.int (-1 : Int32))])) t → Steps p.tables e below (s₁.setTop (mkF m 0 #[.val (.ref o0), .val (.int p1), .unset] [])) t := by
      intro t kt
      refine K3 _ ?_
      show Steps p.tables e below (T2.setTop (mkF m 13 #[.val (.ref o0), .val (.int p1), .val (.int (Int32.ofNat s1))] [(.int p1), (.int (k s1))])) _
      refine XS.icmpYes X2.here hx rfl (pc0 := 13) (pc' := 25) rfl (hb hby d5_13) rfl (feq hc4).2 (by decide) (by decide) ?_
      show Steps p.tables e below (T2.setTop (mkF m 25 #[.val (.ref o0), .val (.int p1), .val (.int (Int32.ofNat s1))] [])) _
      refine XS.iconst X2.here hx rfl (hb hby d5_25) ?_
      exact kt
    obtain ⟨fs, hr, hrun, hended, hW, hsame⟩ := X2.leave (v := some (.int (-1 : Int32))) (fun h => by rw [Bd.returns] at h; cases h)
    refine ⟨_, _, pre0 _ (K7 _ ?_), hrun, hended, _, _, rfl, ?_, ⟨_, rfl⟩, hW, hsame.mono (by decide) (by decide)⟩
    · show Steps p.tables e below (T2.setTop (mkF m 26 #[.val (.ref o0), .val (.int p1), .val (.int (Int32.ofNat s1))] [(.int (-1 : Int32))])) _
      exact retOut X2 hx Bd.returns rfl (Or.inl ⟨rfl, Or.inl rfl, _, rfl⟩) (hb hby d5_26) hr
    · show Q5 Z o0 p1 M q h0 n0 _ T2.heap _
      rw [e2]
      exact ⟨by rw [own_g0 hR hk hat1 hc4], rfl, rfl⟩
theorem ef_8 (m : MethodId) (x0 : Addr) (x1 : Int32) (x2 : Int32) : entryFrame m #[(.ref x0), (.int x1), (.int x2)] 3 = mkF m 0 #[.val (.ref x0), .val (.int x1), .val (.int x2)] [] := by first | (simp [entryFrame, mkF, argsToLocals, Value.category]; done) | rfl
theorem d8_0 : decode prog_6_method_5_code 0 = .ok (.aload_n 0, 1) := by decide +kernel
theorem d8_1 : decode prog_6_method_5_code 1 = .ok (.iload_n 1, 1) := by decide +kernel
theorem d8_2 : decode prog_6_method_5_code 2 = .ok (.iload_n 2, 1) := by decide +kernel
theorem d8_3 : decode prog_6_method_5_code 3 = .ok (.invokevirtual 31, 3) := by decide +kernel
theorem pd_4 : parseMethodDescriptor "(II)I" = some ⟨[.int, .int], some .int⟩ := by decide +kernel
theorem d8_6 : decode prog_6_method_5_code 6 = .ok (.pop, 1) := by decide +kernel
theorem d8_7 : decode prog_6_method_5_code 7 = .ok (.aload_n 0, 1) := by decide +kernel
theorem d8_8 : decode prog_6_method_5_code 8 = .ok (.getfield 17, 3) := by decide +kernel
theorem d8_11 : decode prog_6_method_5_code 11 = .ok (.aload_n 0, 1) := by decide +kernel
theorem d8_12 : decode prog_6_method_5_code 12 = .ok (.iload_n 1, 1) := by decide +kernel
theorem d8_13 : decode prog_6_method_5_code 13 = .ok (.invokevirtual 20, 3) := by decide +kernel
theorem d8_16 : decode prog_6_method_5_code 16 = .ok (.iload_n 2, 1) := by decide +kernel
theorem d8_17 : decode prog_6_method_5_code 17 = .ok (.iastore, 1) := by decide +kernel
theorem d8_18 : decode prog_6_method_5_code 18 = .ok (.return_, 1) := by decide +kernel
def Q8 (Z : State) (o0 : Addr) (p1 : Int32) (p2 : Int32) (M : Int32 → Option Int32) (q : Nat) (h0 : Heap) (n0 : Nat) (v : Option Value) (h : Heap) (L : List Loc) : Prop := v = none ∧ Fr n0 L ∧ n0 ≤ h.size ∧ ∃ q', q' ≤ q + 1 ∧ Im Z h n0 o0 (ins M p1 p2) q'
set_option maxRecDepth 65536 in
set_option maxHeartbeats 40000000 in
theorem rm8 (l : Launch) (Z : State) (a0 : Array Value) (hw : ∀ d ∈ tables_1, d.before a0 Z = true) (ws : List Jvm.Cond) (o0 : Addr) (p1 : Int32) (p2 : Int32) (M : Int32 → Option Int32) (q : Nat) (h0 : Heap) (n0 : Nat) (Z0 : n0 ≤ h0.size) (I1 : Im Z h0 n0 o0 M q) (hq : q < 4) (hk : p1 ≠ -1) :
    MetFree l (⟨"com/example/mastiff/mastiff/IntMap", "put", "(II)V"⟩ : MethodName) (head1 (Jvm.Cond.code (⟨"com/example/mastiff/mastiff/IntMap", "put", "(II)V"⟩ : MethodName) prog_6_method_5_code 3 none :: ws) ({ frames := 4, cells := 2, slots := 16, locals := 72 } : Room)) (fun a U => a = #[(.ref o0), (.int p1), (.int p2)] ∧ Z.Warmed39 U.vm ∧ U.heap = h0) (fun _ _ _ _ _ => True) (fun _ U o U' => ∃ v L, o = .returned v ∧ Q8 Z o0 p1 p2 M q h0 n0 v U'.heap L ∧ FrameEnd U o U' L ({ frames := 4, cells := 2, slots := 16, locals := 72 } : Room).cells ({ frames := 4, cells := 2, slots := 16, locals := 72 } : Room).slots) := by
  refine MetFree.of_bodySF (plainFor_of_name pn_1) hisR ?_
  intro p e s m args below meth c s₁ Bd hml0 hP hK
  obtain ⟨rfl, hZ, hh⟩ := hP
  have hx := Bd.exec
  have hby := Bd.bytes
  have hml : c.maxLocals = 3 := hml0
  have hown : s.vm.findClass "com/example/mastiff/mastiff/IntMap" = some m.cls := findClass_of_methodNamed Bd.named
  have hnm := (name_of_methodNamed Bd.named Bd.method).1
  have X0 : Stand p l e ({ frames := 4, cells := 2, slots := 16, locals := 72 } : Room) s m #[(.ref o0), (.int p1), (.int p2)] below meth c s₁ [] 0 0 := Stand.of_body Bd
  have e0 : s₁.heap = h0 := by rw [← hh, Bd.state]; rfl
  have pre0 : ∀ t, Steps p.tables e below (s₁.setTop (mkF m 0 #[.val (.ref o0), .val (.int p1), .val (.int p2)] [])) t → Steps p.tables e below (s₁.setTop (entryFrame m #[(.ref o0), (.int p1), (.int p2)] 3)) t := fun t k => castTop (ef_8 m o0 p1 p2) k
  have N0 := Fr.nil n0
  obtain ⟨cq1, kq1, q1a, q1b, q1c⟩ := isOf hZ e0 (own_imE I1)
  obtain ⟨_, _, ⟨T1, L1, k1, n1⟩, -, X1, ⟨Lc1, hQ1, l1, y1, z1⟩, st1⟩ := X0.virtualBack hx (y := (⟨"com/example/mastiff/mastiff/IntMap", "putIfAbsent", "(II)I"⟩ : MethodName)) (z := (⟨"com/example/mastiff/mastiff/IntMap", "putIfAbsent", "(II)I"⟩ : MethodName)) hown (mvT hZ (hw _ (List.mem_of_getElem? (i := 40) rfl))) (mvT hZ (hw _ (List.mem_of_getElem? (i := 41) rfl))) (notFace_of_selects (args := #[]) (mvT hZ (hw _ (List.mem_of_getElem? (i := 43) rfl)))) (mvT hZ (hw _ (List.mem_of_getElem? (i := 43) rfl))) (mvT hZ (hw _ (List.mem_of_getElem? (i := 42) rfl))) (by decide) (backOf (W := 0) (rm9 l Z a0 hw [] o0 p1 p2 M q h0 n0 Z0 I1 (by omega) hk) hZ (hw _ (List.mem_of_getElem? (i := 44) rfl)) (hw _ (List.mem_of_getElem? (i := 3) rfl)) (by decide) (by decide)) q1a q1c (g := (mkF m 3 #[.val (.ref o0), .val (.int p1), .val (.int p2)] [(.int p2), (.int p1), (.ref o0)])) rfl (by rw [hml]; rfl) (Steps.refl _) (argsL := [(.int p1), (.int p2)]) (rest := []) (lenOf pd_4 rfl) rfl (by show 2 * 0 + _ ≤ _; exact Nat.le_of_eq rfl) (hb hby d8_3) (fun _ _ => ⟨rfl, e0, (by decide : 0 + 2 ≤ _), (by decide : 0 + 16 ≤ _)⟩)
  dsimp only [Pt.U, Pt.locs, Pt.cells, Pt.slots] at X1 l1 y1 z1 st1 hQ1
  subst l1 y1 z1
  obtain ⟨r1, rfl, N1q, Z1q, q1, hq1, I1q⟩ := hQ1
  have N1 := Fr.app N0 N1q
  obtain ⟨ka, va, n, k, v, E1, F1, F2, F3, A1, A2, g1, g2, g3, x1, x2, x3, hn, h2q, hcn, hI, hR⟩ := I1q
  have hqq := hq1
  obtain ⟨T2, X2, e2, st2⟩ := getF X1 hx hZ hown (host := "") (Or.inl (hw _ (List.mem_of_getElem? (i := 20) rfl))) Via.refl rfl F2 (g := (mkF m 8 #[.val (.ref o0), .val (.int p1), .val (.int p2)] [(.ref o0)])) rfl rfl (hb hby d8_8)
  obtain ⟨cq3, q3, q3'⟩ := E1.cell
  obtain ⟨_, _, ⟨T3, L3, k3, n3⟩, -, X3, ⟨Lc3, hQ3, l3, y3, z3⟩, st3⟩ := X2.privateBack hx (y := (⟨"com/example/mastiff/mastiff/IntMap", "slotOf", "(I)I"⟩ : MethodName)) hown (mvT hZ (hw _ (List.mem_of_getElem? (i := 27) rfl))) (mvT hZ (hw _ (List.mem_of_getElem? (i := 28) rfl))) (own_sel hZ (hw _ (List.mem_of_getElem? (i := 2) rfl)) (hw _ (List.mem_of_getElem? (i := 29) rfl)) (hw _ (List.mem_of_getElem? (i := 28) rfl)) (by decide)) (Cond.privateMethod_at (mvP hZ (hw _ (List.mem_of_getElem? (i := 29) rfl)) (args := #[]))) (mvT hZ (hw _ (List.mem_of_getElem? (i := 30) rfl))) (by decide) (backOf (W := 1) (rm6 l Z a0 hw [] o0 p1 ka n k T1.heap n0 Z1q F1 A1 hn hI.2) hZ (hw _ (List.mem_of_getElem? (i := 30) rfl)) (hw _ (List.mem_of_getElem? (i := 3) rfl)) (by decide) (by decide)) (g := (mkF m 13 #[.val (.ref o0), .val (.int p1), .val (.int p2)] [(.int p1), (.ref o0), (.ref va)])) rfl (by rw [hml]; rfl) (Steps.refl _) (a := o0) (by rw [e2]; exact q3) q3' (argsL := [(.int p1)]) (rest := [(.ref va)]) (lenOf pd_1 rfl) rfl (by show 2 * 0 + _ ≤ _; exact Nat.le_of_eq rfl) (hb hby d8_13) (fun _ _ => ⟨rfl, e2, (by decide : 2 + 0 ≤ _), (by decide : 16 + 0 ≤ _)⟩)
  dsimp only [Pt.U, Pt.locs, Pt.cells, Pt.slots] at X3 l3 y3 z3 st3 hQ3
  subst l3 y3 z3
  obtain ⟨s3, rfl, rfl, e3, hat3⟩ := hQ3
  try rw [List.append_nil] at X3
  have hlt3 : s3 < n := at_lt (by omega) hat3
  obtain ⟨T4, h4, X4, e4, W4, A4, st4⟩ := iaI X3 hx hZ e3 A2 (j := (Int32.ofNat s3)) s3 (own_ti hlt3 (own_le8 hn)) hlt3 (g := (mkF m 17 #[.val (.ref o0), .val (.int p1), .val (.int p2)] [(.int p2), (.int (Int32.ofNat s3)), (.ref va)])) rfl rfl (hb hby d8_17)
  have G5 : Exa Z h4 o0 "com/example/mastiff/mastiff/IntMap" := E1.wr W4
  have G6 : Fld Z h4 o0 "com/example/mastiff/mastiff/IntMap" "keys" "[I" (.ref ka) := F1.other W4 (Or.inl x2)
  have G7 : Fld Z h4 o0 "com/example/mastiff/mastiff/IntMap" "values" "[I" (.ref va) := F2.other W4 (Or.inl x2)
  have G8 : Fld Z h4 o0 "com/example/mastiff/mastiff/IntMap" "size" "I" (.int (Int32.ofNat q1)) := F3.other W4 (Or.inl x2)
  have G9 : Ia Z h4 ka .int n k := A1.other W4 x3
  have G10 : Ia Z h4 va .int n (up v s3 p2) := A4
  have Z4 : n0 ≤ h4.size := Nat.le_trans Z1q (Keep.of_wr W4).1
  have N4 := Fr.snoc X4 N1 g3
  have K11 : ∀ t, Steps p.tables e below (T4.setTop (mkF m 18 #[.val (.ref o0), .val (.int p1), .val (.int p2)] [])) t → Steps p.tables e below (s₁.setTop (mkF m 0 #[.val (.ref o0), .val (.int p1), .val (.int p2)] [])) t := by
    intro t kt
    show Steps p.tables e below (s₁.setTop (mkF m 0 #[.val (.ref o0), .val (.int p1), .val (.int p2)] [])) _
    refine XS.aloadN X0.here hx rfl (hb hby d8_0) rfl rfl ?_
    show Steps p.tables e below (s₁.setTop (mkF m 1 #[.val (.ref o0), .val (.int p1), .val (.int p2)] [(.ref o0)])) _
    refine XS.iloadN X0.here hx rfl (hb hby d8_1) rfl ?_
    show Steps p.tables e below (s₁.setTop (mkF m 2 #[.val (.ref o0), .val (.int p1), .val (.int p2)] [(.int p1), (.ref o0)])) _
    refine XS.iloadN X0.here hx rfl (hb hby d8_2) rfl ?_
    show Steps p.tables e below (s₁.setTop (mkF m 3 #[.val (.ref o0), .val (.int p1), .val (.int p2)] [(.int p2), (.int p1), (.ref o0)])) _
    refine st1.trans ?_
    show Steps p.tables e below (T1.setTop (mkF m 6 #[.val (.ref o0), .val (.int p1), .val (.int p2)] [(.int r1)])) _
    refine XS.pop X1.here hx rfl (hb hby d8_6) rfl rfl ?_
    show Steps p.tables e below (T1.setTop (mkF m 7 #[.val (.ref o0), .val (.int p1), .val (.int p2)] [])) _
    refine XS.aloadN X1.here hx rfl (hb hby d8_7) rfl rfl ?_
    show Steps p.tables e below (T1.setTop (mkF m 8 #[.val (.ref o0), .val (.int p1), .val (.int p2)] [(.ref o0)])) _
    refine st2 _ ?_
    show Steps p.tables e below (T2.setTop (mkF m 11 #[.val (.ref o0), .val (.int p1), .val (.int p2)] [(.ref va)])) _
    refine XS.aloadN X2.here hx rfl (hb hby d8_11) rfl rfl ?_
    show Steps p.tables e below (T2.setTop (mkF m 12 #[.val (.ref o0), .val (.int p1), .val (.int p2)] [(.ref o0), (.ref va)])) _
    refine XS.iloadN X2.here hx rfl (hb hby d8_12) rfl ?_
    show Steps p.tables e below (T2.setTop (mkF m 13 #[.val (.ref o0), .val (.int p1), .val (.int p2)] [(.int p1), (.ref o0), (.ref va)])) _
    refine st3.trans ?_
    show Steps p.tables e below (T3.setTop (mkF m 16 #[.val (.ref o0), .val (.int p1), .val (.int p2)] [(.int (Int32.ofNat s3)), (.ref va)])) _
    refine XS.iloadN X3.here hx rfl (hb hby d8_16) rfl ?_
    show Steps p.tables e below (T3.setTop (mkF m 17 #[.val (.ref o0), .val (.int p1), .val (.int p2)] [(.int p2), (.int (Int32.ofNat s3)), (.ref va)])) _
    refine st4 _ ?_
    exact kt
  obtain ⟨fs, hr, hrun, hended, hW, hsame⟩ := X4.leave (v := none) (fun _ => rfl)
  refine ⟨_, _, pre0 _ (K11 _ ?_), hrun, hended, _, _, rfl, ?_, ⟨_, rfl⟩, hW, hsame.mono (by decide) (by decide)⟩
  · show Steps p.tables e below (T4.setTop (mkF m 18 #[.val (.ref o0), .val (.int p1), .val (.int p2)] [])) _
    exact X4.returnOut hx Bd.returns (hb hby d8_18) hr
  · show Q8 Z o0 p1 p2 M q h0 n0 _ T4.heap _
    rw [e4]
    exact ⟨rfl, N4, Z4, q1, hqq, ⟨ka, va, n, k, (up v s3 p2), G5, G6, G7, G8, G9, G10, g1, g2, g3, x1, x2, x3, hn, h2q, hcn, hI, own_put hI hR hk hat3⟩⟩
theorem ef_10 (m : MethodId) (x0 : Int32) (x1 : Int32) (x2 : Int32) (x3 : Int32) (x4 : Int32) (x5 : Int32) (x6 : Int32) : entryFrame m #[(.int x0), (.int x1), (.int x2), (.int x3), (.int x4), (.int x5), (.int x6)] 7 = mkF m 0 #[.val (.int x0), .val (.int x1), .val (.int x2), .val (.int x3), .val (.int x4), .val (.int x5), .val (.int x6)] [] := by first | (simp [entryFrame, mkF, argsToLocals, Value.category]; done) | rfl
theorem pn_2 : plainName "com/example/mastiff/mastiff/IntMapGetPinLaw" = true := by first | (simp [plainName, overriddenIn]; done) | decide +kernel
theorem d10_0 : decode method_3_code 0 = .ok (.iload_n 0, 1) := by decide +kernel
theorem d10_1 : decode method_3_code 1 = .ok (.iload 5, 2) := by decide +kernel
theorem d10_3 : decode method_3_code 3 = .ok (.if_icmp .ne 6, 3) := by decide +kernel
theorem d10_6 : decode method_3_code 6 = .ok (.iload 6, 2) := by decide +kernel
theorem d10_8 : decode method_3_code 8 = .ok (.ireturn, 1) := by decide +kernel
theorem d10_9 : decode method_3_code 9 = .ok (.iload_n 0, 1) := by decide +kernel
theorem d10_10 : decode method_3_code 10 = .ok (.iload_n 3, 1) := by decide +kernel
theorem d10_11 : decode method_3_code 11 = .ok (.if_icmp .ne 6, 3) := by decide +kernel
theorem d10_14 : decode method_3_code 14 = .ok (.iload 4, 2) := by decide +kernel
theorem d10_16 : decode method_3_code 16 = .ok (.ireturn, 1) := by decide +kernel
theorem d10_17 : decode method_3_code 17 = .ok (.iload_n 0, 1) := by decide +kernel
theorem d10_18 : decode method_3_code 18 = .ok (.iload_n 1, 1) := by decide +kernel
theorem d10_19 : decode method_3_code 19 = .ok (.if_icmp .ne 5, 3) := by decide +kernel
theorem d10_22 : decode method_3_code 22 = .ok (.iload_n 2, 1) := by decide +kernel
theorem d10_23 : decode method_3_code 23 = .ok (.ireturn, 1) := by decide +kernel
theorem d10_24 : decode method_3_code 24 = .ok (.iconst (-1), 1) := by decide +kernel
theorem d10_25 : decode method_3_code 25 = .ok (.ireturn, 1) := by decide +kernel
def f10 (p0 : Int32) (p1 : Int32) (p2 : Int32) (p3 : Int32) (p4 : Int32) (p5 : Int32) (p6 : Int32) : Int32 := if p0 = p5 then p6
  else if p0 = p3 then p4
  else if p0 = p1 then p2
  else (-1 : Int32)
def Q10 (Z : State) (p0 : Int32) (p1 : Int32) (p2 : Int32) (p3 : Int32) (p4 : Int32) (p5 : Int32) (p6 : Int32)  (h0 : Heap) (v : Option Value) (h : Heap) (L : List Loc) : Prop := v = some (.int (f10 p0 p1 p2 p3 p4 p5 p6)) ∧ L = [] ∧ h = h0
set_option maxRecDepth 65536 in
set_option maxHeartbeats 40000000 in
theorem rm10 (l : Launch) (Z : State) (a0 : Array Value) (hw : ∀ d ∈ tables_1, d.before a0 Z = true) (ws : List Jvm.Cond) (p0 : Int32) (p1 : Int32) (p2 : Int32) (p3 : Int32) (p4 : Int32) (p5 : Int32) (p6 : Int32)  (h0 : Heap)  :
    MetFree l (⟨"com/example/mastiff/mastiff/IntMapGetPinLaw", "expected", "(IIIIIII)I"⟩ : MethodName) (head1 (Jvm.Cond.code (⟨"com/example/mastiff/mastiff/IntMapGetPinLaw", "expected", "(IIIIIII)I"⟩ : MethodName) method_3_code 7 (some .int) :: ws) ({ frames := 0, cells := 0, slots := 0, locals := 0 } : Room)) (fun a U => a = #[(.int p0), (.int p1), (.int p2), (.int p3), (.int p4), (.int p5), (.int p6)] ∧ Z.Warmed39 U.vm ∧ U.heap = h0) (fun _ _ _ _ _ => True) (fun _ U o U' => ∃ v L, o = .returned v ∧ Q10 Z p0 p1 p2 p3 p4 p5 p6  h0 v U'.heap L ∧ FrameEnd U o U' L ({ frames := 0, cells := 0, slots := 0, locals := 0 } : Room).cells ({ frames := 0, cells := 0, slots := 0, locals := 0 } : Room).slots) := by
  refine MetFree.of_bodySF (plainFor_of_name pn_2) hisR ?_
  intro p e s m args below meth c s₁ Bd hml0 hP hK
  obtain ⟨rfl, hZ, hh⟩ := hP
  have hx := Bd.exec
  have hby := Bd.bytes
  have hml : c.maxLocals = 7 := hml0
  have hown : s.vm.findClass "com/example/mastiff/mastiff/IntMapGetPinLaw" = some m.cls := findClass_of_methodNamed Bd.named
  have hnm := (name_of_methodNamed Bd.named Bd.method).1
  have X0 : Stand p l e ({ frames := 0, cells := 0, slots := 0, locals := 0 } : Room) s m #[(.int p0), (.int p1), (.int p2), (.int p3), (.int p4), (.int p5), (.int p6)] below meth c s₁ [] 0 0 := Stand.of_body Bd
  have e0 : s₁.heap = h0 := by rw [← hh, Bd.state]; rfl
  have pre0 : ∀ t, Steps p.tables e below (s₁.setTop (mkF m 0 #[.val (.int p0), .val (.int p1), .val (.int p2), .val (.int p3), .val (.int p4), .val (.int p5), .val (.int p6)] [])) t → Steps p.tables e below (s₁.setTop (entryFrame m #[(.int p0), (.int p1), (.int p2), (.int p3), (.int p4), (.int p5), (.int p6)] 7)) t := fun t k => castTop (ef_10 m p0 p1 p2 p3 p4 p5 p6) k
  have K1 : ∀ t, Steps p.tables e below (s₁.setTop (mkF m 3 #[.val (.int p0), .val (.int p1), .val (.int p2), .val (.int p3), .val (.int p4), .val (.int p5), .val (.int p6)] [(.int p5), (.int p0)])) t → Steps p.tables e below (s₁.setTop (mkF m 0 #[.val (.int p0), .val (.int p1), .val (.int p2), .val (.int p3), .val (.int p4), .val (.int p5), .val (.int p6)] [])) t := by
    intro t kt
    show Steps p.tables e below (s₁.setTop (mkF m 0 #[.val (.int p0), .val (.int p1), .val (.int p2), .val (.int p3), .val (.int p4), .val (.int p5), .val (.int p6)] [])) _
    refine XS.iloadN X0.here hx rfl (hb hby d10_0) rfl ?_
    show Steps p.tables e below (s₁.setTop (mkF m 1 #[.val (.int p0), .val (.int p1), .val (.int p2), .val (.int p3), .val (.int p4), .val (.int p5), .val (.int p6)] [(.int p0)])) _
    refine XS.iload X0.here hx rfl (hb hby d10_1) rfl ?_
    exact kt
  by_cases hc2 : p0 = p5
  · skip
    have K3 : ∀ t, Steps p.tables e below (s₁.setTop (mkF m 8 #[.val (.int p0), .val (.int p1), .val (.int p2), .val (.int p3), .val (.int p4), .val (.int p5), .val (.int p6)] [(.int p6)])) t → Steps p.tables e below (s₁.setTop (mkF m 0 #[.val (.int p0), .val (.int p1), .val (.int p2), .val (.int p3), .val (.int p4), .val (.int p5), .val (.int p6)] [])) t := by
      intro t kt
      refine K1 _ ?_
      show Steps p.tables e below (s₁.setTop (mkF m 3 #[.val (.int p0), .val (.int p1), .val (.int p2), .val (.int p3), .val (.int p4), .val (.int p5), .val (.int p6)] [(.int p5), (.int p0)])) _
      refine XS.icmpNo X0.here hx rfl (hb hby d10_3) rfl (teq hc2).2 ?_
      show Steps p.tables e below (s₁.setTop (mkF m 6 #[.val (.int p0), .val (.int p1), .val (.int p2), .val (.int p3), .val (.int p4), .val (.int p5), .val (.int p6)] [])) _
      refine XS.iload X0.here hx rfl (hb hby d10_6) rfl ?_
      exact kt
    have hv : f10 p0 p1 p2 p3 p4 p5 p6 = p6 := by simp only [f10, if_pos hc2]
    obtain ⟨fs, hr, hrun, hended, hW, hsame⟩ := X0.leave (v := some (.int p6)) (fun h => by rw [Bd.returns] at h; cases h)
    refine ⟨_, _, pre0 _ (K3 _ ?_), hrun, hended, _, _, rfl, ?_, ⟨_, rfl⟩, hW, hsame.mono (by decide) (by decide)⟩
    · show Steps p.tables e below (s₁.setTop (mkF m 8 #[.val (.int p0), .val (.int p1), .val (.int p2), .val (.int p3), .val (.int p4), .val (.int p5), .val (.int p6)] [(.int p6)])) _
      exact retOut X0 hx Bd.returns rfl (Or.inl ⟨rfl, Or.inl rfl, _, rfl⟩) (hb hby d10_8) hr
    · show Q10 Z p0 p1 p2 p3 p4 p5 p6  h0 _ s₁.heap _
      rw [e0]
      exact ⟨by rw [hv], rfl, rfl⟩
  · skip
    have K4 : ∀ t, Steps p.tables e below (s₁.setTop (mkF m 11 #[.val (.int p0), .val (.int p1), .val (.int p2), .val (.int p3), .val (.int p4), .val (.int p5), .val (.int p6)] [(.int p3), (.int p0)])) t → Steps p.tables e below (s₁.setTop (mkF m 0 #[.val (.int p0), .val (.int p1), .val (.int p2), .val (.int p3), .val (.int p4), .val (.int p5), .val (.int p6)] [])) t := by
      intro t kt
      refine K1 _ ?_
      show Steps p.tables e below (s₁.setTop (mkF m 3 #[.val (.int p0), .val (.int p1), .val (.int p2), .val (.int p3), .val (.int p4), .val (.int p5), .val (.int p6)] [(.int p5), (.int p0)])) _
      refine XS.icmpYes X0.here hx rfl (pc0 := 3) (pc' := 9) rfl (hb hby d10_3) rfl (feq hc2).2 (by decide) (by decide) ?_
      show Steps p.tables e below (s₁.setTop (mkF m 9 #[.val (.int p0), .val (.int p1), .val (.int p2), .val (.int p3), .val (.int p4), .val (.int p5), .val (.int p6)] [])) _
      refine XS.iloadN X0.here hx rfl (hb hby d10_9) rfl ?_
      show Steps p.tables e below (s₁.setTop (mkF m 10 #[.val (.int p0), .val (.int p1), .val (.int p2), .val (.int p3), .val (.int p4), .val (.int p5), .val (.int p6)] [(.int p0)])) _
      refine XS.iloadN X0.here hx rfl (hb hby d10_10) rfl ?_
      exact kt
    by_cases hc5 : p0 = p3
    · skip
      have K6 : ∀ t, Steps p.tables e below (s₁.setTop (mkF m 16 #[.val (.int p0), .val (.int p1), .val (.int p2), .val (.int p3), .val (.int p4), .val (.int p5), .val (.int p6)] [(.int p4)])) t → Steps p.tables e below (s₁.setTop (mkF m 0 #[.val (.int p0), .val (.int p1), .val (.int p2), .val (.int p3), .val (.int p4), .val (.int p5), .val (.int p6)] [])) t := by
        intro t kt
        refine K4 _ ?_
        show Steps p.tables e below (s₁.setTop (mkF m 11 #[.val (.int p0), .val (.int p1), .val (.int p2), .val (.int p3), .val (.int p4), .val (.int p5), .val (.int p6)] [(.int p3), (.int p0)])) _
        refine XS.icmpNo X0.here hx rfl (hb hby d10_11) rfl (teq hc5).2 ?_
        show Steps p.tables e below (s₁.setTop (mkF m 14 #[.val (.int p0), .val (.int p1), .val (.int p2), .val (.int p3), .val (.int p4), .val (.int p5), .val (.int p6)] [])) _
        refine XS.iload X0.here hx rfl (hb hby d10_14) rfl ?_
        exact kt
      have hv : f10 p0 p1 p2 p3 p4 p5 p6 = p4 := by simp only [f10, if_neg hc2, if_pos hc5]
      obtain ⟨fs, hr, hrun, hended, hW, hsame⟩ := X0.leave (v := some (.int p4)) (fun h => by rw [Bd.returns] at h; cases h)
      refine ⟨_, _, pre0 _ (K6 _ ?_), hrun, hended, _, _, rfl, ?_, ⟨_, rfl⟩, hW, hsame.mono (by decide) (by decide)⟩
      · show Steps p.tables e below (s₁.setTop (mkF m 16 #[.val (.int p0), .val (.int p1), .val (.int p2), .val (.int p3), .val (.int p4), .val (.int p5), .val (.int p6)] [(.int p4)])) _
        exact retOut X0 hx Bd.returns rfl (Or.inl ⟨rfl, Or.inl rfl, _, rfl⟩) (hb hby d10_16) hr
      · show Q10 Z p0 p1 p2 p3 p4 p5 p6  h0 _ s₁.heap _
        rw [e0]
        exact ⟨by rw [hv], rfl, rfl⟩
    · skip
      have K7 : ∀ t, Steps p.tables e below (s₁.setTop (mkF m 19 #[.val (.int p0), .val (.int p1), .val (.int p2), .val (.int p3), .val (.int p4), .val (.int p5), .val (.int p6)] [(.int p1), (.int p0)])) t → Steps p.tables e below (s₁.setTop (mkF m 0 #[.val (.int p0), .val (.int p1), .val (.int p2), .val (.int p3), .val (.int p4), .val (.int p5), .val (.int p6)] [])) t := by
        intro t kt
        refine K4 _ ?_
        show Steps p.tables e below (s₁.setTop (mkF m 11 #[.val (.int p0), .val (.int p1), .val (.int p2), .val (.int p3), .val (.int p4), .val (.int p5), .val (.int p6)] [(.int p3), (.int p0)])) _
        refine XS.icmpYes X0.here hx rfl (pc0 := 11) (pc' := 17) rfl (hb hby d10_11) rfl (feq hc5).2 (by decide) (by decide) ?_
        show Steps p.tables e below (s₁.setTop (mkF m 17 #[.val (.int p0), .val (.int p1), .val (.int p2), .val (.int p3), .val (.int p4), .val (.int p5), .val (.int p6)] [])) _
        refine XS.iloadN X0.here hx rfl (hb hby d10_17) rfl ?_
        show Steps p.tables e below (s₁.setTop (mkF m 18 #[.val (.int p0), .val (.int p1), .val (.int p2), .val (.int p3), .val (.int p4), .val (.int p5), .val (.int p6)] [(.int p0)])) _
        refine XS.iloadN X0.here hx rfl (hb hby d10_18) rfl ?_
        exact kt
      by_cases hc8 : p0 = p1
      · skip
        have K9 : ∀ t, Steps p.tables e below (s₁.setTop (mkF m 23 #[.val (.int p0), .val (.int p1), .val (.int p2), .val (.int p3), .val (.int p4), .val (.int p5), .val (.int p6)] [(.int p2)])) t → Steps p.tables e below (s₁.setTop (mkF m 0 #[.val (.int p0), .val (.int p1), .val (.int p2), .val (.int p3), .val (.int p4), .val (.int p5), .val (.int p6)] [])) t := by
          intro t kt
          refine K7 _ ?_
          show Steps p.tables e below (s₁.setTop (mkF m 19 #[.val (.int p0), .val (.int p1), .val (.int p2), .val (.int p3), .val (.int p4), .val (.int p5), .val (.int p6)] [(.int p1), (.int p0)])) _
          refine XS.icmpNo X0.here hx rfl (hb hby d10_19) rfl (teq hc8).2 ?_
          show Steps p.tables e below (s₁.setTop (mkF m 22 #[.val (.int p0), .val (.int p1), .val (.int p2), .val (.int p3), .val (.int p4), .val (.int p5), .val (.int p6)] [])) _
          refine XS.iloadN X0.here hx rfl (hb hby d10_22) rfl ?_
          exact kt
        have hv : f10 p0 p1 p2 p3 p4 p5 p6 = p2 := by simp only [f10, if_neg hc2, if_neg hc5, if_pos hc8]
        obtain ⟨fs, hr, hrun, hended, hW, hsame⟩ := X0.leave (v := some (.int p2)) (fun h => by rw [Bd.returns] at h; cases h)
        refine ⟨_, _, pre0 _ (K9 _ ?_), hrun, hended, _, _, rfl, ?_, ⟨_, rfl⟩, hW, hsame.mono (by decide) (by decide)⟩
        · show Steps p.tables e below (s₁.setTop (mkF m 23 #[.val (.int p0), .val (.int p1), .val (.int p2), .val (.int p3), .val (.int p4), .val (.int p5), .val (.int p6)] [(.int p2)])) _
          exact retOut X0 hx Bd.returns rfl (Or.inl ⟨rfl, Or.inl rfl, _, rfl⟩) (hb hby d10_23) hr
        · show Q10 Z p0 p1 p2 p3 p4 p5 p6  h0 _ s₁.heap _
          rw [e0]
          exact ⟨by rw [hv], rfl, rfl⟩
      · skip
        have K10 : ∀ t, Steps p.tables e below (s₁.setTop (mkF m 25 #[.val (.int p0), .val (.int p1), .val (.int p2), .val (.int p3), .val (.int p4), .val (.int p5), .val (.int p6)] [(.int (-1 : Int32))])) t → Steps p.tables e below (s₁.setTop (mkF m 0 #[.val (.int p0), .val (.int p1), .val (.int p2), .val (.int p3), .val (.int p4), .val (.int p5), .val (.int p6)] [])) t := by
          intro t kt
          refine K7 _ ?_
          show Steps p.tables e below (s₁.setTop (mkF m 19 #[.val (.int p0), .val (.int p1), .val (.int p2), .val (.int p3), .val (.int p4), .val (.int p5), .val (.int p6)] [(.int p1), (.int p0)])) _
          refine XS.icmpYes X0.here hx rfl (pc0 := 19) (pc' := 24) rfl (hb hby d10_19) rfl (feq hc8).2 (by decide) (by decide) ?_
          show Steps p.tables e below (s₁.setTop (mkF m 24 #[.val (.int p0), .val (.int p1), .val (.int p2), .val (.int p3), .val (.int p4), .val (.int p5), .val (.int p6)] [])) _
          refine XS.iconst X0.here hx rfl (hb hby d10_24) ?_
          exact kt
        have hv : f10 p0 p1 p2 p3 p4 p5 p6 = (-1 : Int32) := by simp only [f10, if_neg hc2, if_neg hc5, if_neg hc8]
        obtain ⟨fs, hr, hrun, hended, hW, hsame⟩ := X0.leave (v := some (.int (-1 : Int32))) (fun h => by rw [Bd.returns] at h; cases h)
        refine ⟨_, _, pre0 _ (K10 _ ?_), hrun, hended, _, _, rfl, ?_, ⟨_, rfl⟩, hW, hsame.mono (by decide) (by decide)⟩
        · show Steps p.tables e below (s₁.setTop (mkF m 25 #[.val (.int p0), .val (.int p1), .val (.int p2), .val (.int p3), .val (.int p4), .val (.int p5), .val (.int p6)] [(.int (-1 : Int32))])) _
          exact retOut X0 hx Bd.returns rfl (Or.inl ⟨rfl, Or.inl rfl, _, rfl⟩) (hb hby d10_25) hr
        · show Q10 Z p0 p1 p2 p3 p4 p5 p6  h0 _ s₁.heap _
          rw [e0]
          exact ⟨by rw [hv], rfl, rfl⟩
theorem ef_0 (m : MethodId) (x0 : Int64) (x1 : Int64) (x2 : Int32) (x3 : Int32) (x4 : Int32) (x5 : Int32) : entryFrame m #[(.long x0), (.long x1), (.int x2), (.int x3), (.int x4), (.int x5)] maxLocals = mkF m 0 #[.val (.long x0), .second, .val (.long x1), .second, .val (.int x2), .val (.int x3), .val (.int x4), .val (.int x5), .unset, .unset, .unset, .unset, .unset, .unset, .unset, .unset, .unset, .unset, .unset, .unset, .unset] [] := by first | (simp [entryFrame, mkF, argsToLocals, Value.category, maxLocals]; done) | rfl
def k1 (q0 : Int64) : Int32 := ((q0.toInt32) &&& (2147483647 : Int32))
def k2 (q0 : Int64) : Int32 := ((((q0.toUInt64 >>> ((32 : Int32) &&& 0x3f).toInt64.toUInt64).toInt64).toInt32) &&& (2147483647 : Int32))
def k3 (p2 : Int32) : Int32 := (p2 &&& (2147483647 : Int32))
def gk2 (q0 : Int64) (p5 : Int32) : Int32 := if (p5 &&& (1 : Int32)) = (0 : Int32) then (k2 q0) else (k1 q0)
def gk3a (q0 : Int64) (p2 : Int32) (p5 : Int32) : Int32 := if (p5 &&& (2 : Int32)) = (0 : Int32) then (k3 p2) else (k1 q0)
def gk3b (q0 : Int64) (p2 : Int32) (p5 : Int32) : Int32 := if (p5 &&& (4 : Int32)) = (0 : Int32) then (gk3a q0 p2 p5) else (gk2 q0 p5)
def v1 (q1 : Int64) : Int32 := ((q1.toInt32) &&& (2147483647 : Int32))
def v2 (q1 : Int64) : Int32 := ((((q1.toUInt64 >>> ((32 : Int32) &&& 0x3f).toInt64.toUInt64).toInt64).toInt32) &&& (2147483647 : Int32))
def v3 (p3 : Int32) : Int32 := (p3 &&& (2147483647 : Int32))
def gq (p4 : Int32) : Int32 := (p4 &&& (2147483647 : Int32))
theorem pd_5 : parseMethodDescriptor "(II)V" = some ⟨[.int, .int], none⟩ := by decide +kernel
theorem pd_6 : parseMethodDescriptor "(IIIIIII)I" = some ⟨[.int, .int, .int, .int, .int, .int, .int], some .int⟩ := by decide +kernel
theorem own_nn (a : Int32) : (a &&& (2147483647 : Int32)) ≠ -1 := fun h => by
  have h1 : (a &&& (2147483647 : Int32)).toInt = a.toInt % (2 ^ 31 : Nat) := c_mask a _ 31 (by decide) (by decide)
  rw [h, show (-1 : Int32).toInt = -1 from rfl] at h1
  omega
theorem own_k2 (q : Int64) (f : Int32) : gk2 q f ≠ -1 := by
  unfold gk2
  split
  · exact own_nn _
  · exact own_nn _
theorem own_k3 (q : Int64) (p f : Int32) : gk3b q p f ≠ -1 := by
  unfold gk3b
  split
  · unfold gk3a
    split
    · exact own_nn _
    · exact own_nn _
  · exact own_k2 q f
theorem own_get (x a b c d e f : Int32) : gvalM (ins (ins (ins (fun _ => none) a b) c d) e f) x = f10 x a b c d e f := by
  unfold gvalM f10 ins
  by_cases h1 : x = e
  · rw [if_pos h1, if_pos h1]; rfl
  · rw [if_neg h1, if_neg h1]
    by_cases h2 : x = c
    · rw [if_pos h2, if_pos h2]; rfl
    · rw [if_neg h2, if_neg h2]
      by_cases h3 : x = a
      · rw [if_pos h3, if_pos h3]; rfl
      · rw [if_neg h3, if_neg h3]; rfl
def Q0 (Z : State) (q0 : Int64) (q1 : Int64) (p2 : Int32) (p3 : Int32) (p4 : Int32) (p5 : Int32)  (h0 : Heap) (n0 : Nat) (v : Option Value) (h : Heap) (L : List Loc) : Prop := v = some (.int 1) ∧ Fr n0 L
set_option maxRecDepth 65536 in
set_option maxHeartbeats 40000000 in
theorem rm0 (l : Launch) (Z : State) (a0 : Array Value) (hw : ∀ d ∈ tables_1, d.before a0 Z = true) (ws : List Jvm.Cond) (q0 : Int64) (q1 : Int64) (p2 : Int32) (p3 : Int32) (p4 : Int32) (p5 : Int32)  (h0 : Heap) (n0 : Nat) (Z0 : n0 ≤ h0.size)  :
    MetFree l x (head1 (Jvm.Cond.code x code maxLocals ret :: ws) room_1) (fun a U => a = #[(.long q0), (.long q1), (.int p2), (.int p3), (.int p4), (.int p5)] ∧ Z.Warmed39 U.vm ∧ U.heap = h0) (fun _ _ _ _ _ => True) (fun _ U o U' => ∃ v L, o = .returned v ∧ Q0 Z q0 q1 p2 p3 p4 p5  h0 n0 v U'.heap L ∧ FrameEnd U o U' L room_1.cells room_1.slots) := by
  refine MetFree.of_bodySF (plainFor_of_name pn_2) hisR ?_
  intro p e s m args below meth c s₁ Bd hml0 hP hK
  obtain ⟨rfl, hZ, hh⟩ := hP
  have hx := Bd.exec
  have hby := Bd.bytes
  have hml : c.maxLocals = 21 := hml0
  have hown : s.vm.findClass "com/example/mastiff/mastiff/IntMapGetPinLaw" = some m.cls := findClass_of_methodNamed Bd.named
  have hnm := (name_of_methodNamed Bd.named Bd.method).1
  have X0 : Stand p l e room_1 s m #[(.long q0), (.long q1), (.int p2), (.int p3), (.int p4), (.int p5)] below meth c s₁ [] 0 0 := Stand.of_body Bd
  have e0 : s₁.heap = h0 := by rw [← hh, Bd.state]; rfl
  have pre0 : ∀ t, Steps p.tables e below (s₁.setTop (mkF m 0 #[.val (.long q0), .second, .val (.long q1), .second, .val (.int p2), .val (.int p3), .val (.int p4), .val (.int p5), .unset, .unset, .unset, .unset, .unset, .unset, .unset, .unset, .unset, .unset, .unset, .unset, .unset] [])) t → Steps p.tables e below (s₁.setTop (entryFrame m #[(.long q0), (.long q1), (.int p2), (.int p3), (.int p4), (.int p5)] maxLocals)) t := fun t k => castTop (ef_0 m q0 q1 p2 p3 p4 p5) k
  have N0 := Fr.nil n0
  have K1 : ∀ t, Steps p.tables e below (s₁.setTop (mkF m 28 #[.val (.long q0), .second, .val (.long q1), .second, .val (.int p2), .val (.int p3), .val (.int p4), .val (.int p5), .val (.int (k1 q0)), .val (.int (k2 q0)), .val (.int (k3 p2)), .unset, .unset, .unset, .unset, .unset, .unset, .unset, .unset, .unset, .unset] [(.int (p5 &&& (1 : Int32)))])) t → Steps p.tables e below (s₁.setTop (mkF m 0 #[.val (.long q0), .second, .val (.long q1), .second, .val (.int p2), .val (.int p3), .val (.int p4), .val (.int p5), .unset, .unset, .unset, .unset, .unset, .unset, .unset, .unset, .unset, .unset, .unset, .unset, .unset] [])) t := by
    intro t kt
    show Steps p.tables e below (s₁.setTop (mkF m 0 #[.val (.long q0), .second, .val (.long q1), .second, .val (.int p2), .val (.int p3), .val (.int p4), .val (.int p5), .unset, .unset, .unset, .unset, .unset, .unset, .unset, .unset, .unset, .unset, .unset, .unset, .unset] [])) _
    refine XS.lloadN X0.here hx rfl (hb hby at_0) rfl ?_
    show Steps p.tables e below (s₁.setTop (mkF m 1 #[.val (.long q0), .second, .val (.long q1), .second, .val (.int p2), .val (.int p3), .val (.int p4), .val (.int p5), .unset, .unset, .unset, .unset, .unset, .unset, .unset, .unset, .unset, .unset, .unset, .unset, .unset] [(.long q0)])) _
    refine XS.l2i X0.here hx rfl (hb hby at_1) rfl ?_
    show Steps p.tables e below (s₁.setTop (mkF m 2 #[.val (.long q0), .second, .val (.long q1), .second, .val (.int p2), .val (.int p3), .val (.int p4), .val (.int p5), .unset, .unset, .unset, .unset, .unset, .unset, .unset, .unset, .unset, .unset, .unset, .unset, .unset] [(.int (q0.toInt32))])) _
    refine X0.ldcInt hx hown (mvT hZ (hw _ (List.mem_of_getElem? (i := 0) rfl))) (g := (mkF m 2 #[.val (.long q0), .second, .val (.long q1), .second, .val (.int p2), .val (.int p3), .val (.int p4), .val (.int p5), .unset, .unset, .unset, .unset, .unset, .unset, .unset, .unset, .unset, .unset, .unset, .unset, .unset] [(.int (q0.toInt32))])) rfl (hb hby at_2) _ ?_
    show Steps p.tables e below (s₁.setTop (mkF m 4 #[.val (.long q0), .second, .val (.long q1), .second, .val (.int p2), .val (.int p3), .val (.int p4), .val (.int p5), .unset, .unset, .unset, .unset, .unset, .unset, .unset, .unset, .unset, .unset, .unset, .unset, .unset] [(.int (2147483647 : Int32)), (.int (q0.toInt32))])) _
    refine XS.iand X0.here hx rfl (hb hby at_4) rfl ?_
    show Steps p.tables e below (s₁.setTop (mkF m 5 #[.val (.long q0), .second, .val (.long q1), .second, .val (.int p2), .val (.int p3), .val (.int p4), .val (.int p5), .unset, .unset, .unset, .unset, .unset, .unset, .unset, .unset, .unset, .unset, .unset, .unset, .unset] [(.int ((q0.toInt32) &&& (2147483647 : Int32)))])) _
    refine XS.istore X0.here hx rfl (hb hby at_5) rfl (l' := #[.val (.long q0), .second, .val (.long q1), .second, .val (.int p2), .val (.int p3), .val (.int p4), .val (.int p5), .val (.int (k1 q0)), .unset, .unset, .unset, .unset, .unset, .unset, .unset, .unset, .unset, .unset, .unset, .unset]) rfl ?_
    show Steps p.tables e below (s₁.setTop (mkF m 7 #[.val (.long q0), .second, .val (.long q1), .second, .val (.int p2), .val (.int p3), .val (.int p4), .val (.int p5), .val (.int (k1 q0)), .unset, .unset, .unset, .unset, .unset, .unset, .unset, .unset, .unset, .unset, .unset, .unset] [])) _
    refine XS.lloadN X0.here hx rfl (hb hby at_7) rfl ?_
    show Steps p.tables e below (s₁.setTop (mkF m 8 #[.val (.long q0), .second, .val (.long q1), .second, .val (.int p2), .val (.int p3), .val (.int p4), .val (.int p5), .val (.int (k1 q0)), .unset, .unset, .unset, .unset, .unset, .unset, .unset, .unset, .unset, .unset, .unset, .unset] [(.long q0)])) _
    refine XS.bipush X0.here hx rfl (hb hby at_8) ?_
    show Steps p.tables e below (s₁.setTop (mkF m 10 #[.val (.long q0), .second, .val (.long q1), .second, .val (.int p2), .val (.int p3), .val (.int p4), .val (.int p5), .val (.int (k1 q0)), .unset, .unset, .unset, .unset, .unset, .unset, .unset, .unset, .unset, .unset, .unset, .unset] [(.int (32 : Int32)), (.long q0)])) _
    refine XS.lushr X0.here hx rfl (hb hby at_10) rfl ?_
    show Steps p.tables e below (s₁.setTop (mkF m 11 #[.val (.long q0), .second, .val (.long q1), .second, .val (.int p2), .val (.int p3), .val (.int p4), .val (.int p5), .val (.int (k1 q0)), .unset, .unset, .unset, .unset, .unset, .unset, .unset, .unset, .unset, .unset, .unset, .unset] [(.long ((q0.toUInt64 >>> ((32 : Int32) &&& 0x3f).toInt64.toUInt64).toInt64))])) _
    refine XS.l2i X0.here hx rfl (hb hby at_11) rfl ?_
    show Steps p.tables e below (s₁.setTop (mkF m 12 #[.val (.long q0), .second, .val (.long q1), .second, .val (.int p2), .val (.int p3), .val (.int p4), .val (.int p5), .val (.int (k1 q0)), .unset, .unset, .unset, .unset, .unset, .unset, .unset, .unset, .unset, .unset, .unset, .unset] [(.int (((q0.toUInt64 >>> ((32 : Int32) &&& 0x3f).toInt64.toUInt64).toInt64).toInt32))])) _
    refine X0.ldcInt hx hown (mvT hZ (hw _ (List.mem_of_getElem? (i := 0) rfl))) (g := (mkF m 12 #[.val (.long q0), .second, .val (.long q1), .second, .val (.int p2), .val (.int p3), .val (.int p4), .val (.int p5), .val (.int (k1 q0)), .unset, .unset, .unset, .unset, .unset, .unset, .unset, .unset, .unset, .unset, .unset, .unset] [(.int (((q0.toUInt64 >>> ((32 : Int32) &&& 0x3f).toInt64.toUInt64).toInt64).toInt32))])) rfl (hb hby at_12) _ ?_
    show Steps p.tables e below (s₁.setTop (mkF m 14 #[.val (.long q0), .second, .val (.long q1), .second, .val (.int p2), .val (.int p3), .val (.int p4), .val (.int p5), .val (.int (k1 q0)), .unset, .unset, .unset, .unset, .unset, .unset, .unset, .unset, .unset, .unset, .unset, .unset] [(.int (2147483647 : Int32)), (.int (((q0.toUInt64 >>> ((32 : Int32) &&& 0x3f).toInt64.toUInt64).toInt64).toInt32))])) _
    refine XS.iand X0.here hx rfl (hb hby at_14) rfl ?_
    show Steps p.tables e below (s₁.setTop (mkF m 15 #[.val (.long q0), .second, .val (.long q1), .second, .val (.int p2), .val (.int p3), .val (.int p4), .val (.int p5), .val (.int (k1 q0)), .unset, .unset, .unset, .unset, .unset, .unset, .unset, .unset, .unset, .unset, .unset, .unset] [(.int ((((q0.toUInt64 >>> ((32 : Int32) &&& 0x3f).toInt64.toUInt64).toInt64).toInt32) &&& (2147483647 : Int32)))])) _
    refine XS.istore X0.here hx rfl (hb hby at_15) rfl (l' := #[.val (.long q0), .second, .val (.long q1), .second, .val (.int p2), .val (.int p3), .val (.int p4), .val (.int p5), .val (.int (k1 q0)), .val (.int (k2 q0)), .unset, .unset, .unset, .unset, .unset, .unset, .unset, .unset, .unset, .unset, .unset]) rfl ?_
    show Steps p.tables e below (s₁.setTop (mkF m 17 #[.val (.long q0), .second, .val (.long q1), .second, .val (.int p2), .val (.int p3), .val (.int p4), .val (.int p5), .val (.int (k1 q0)), .val (.int (k2 q0)), .unset, .unset, .unset, .unset, .unset, .unset, .unset, .unset, .unset, .unset, .unset] [])) _
    refine XS.iload X0.here hx rfl (hb hby at_17) rfl ?_
    show Steps p.tables e below (s₁.setTop (mkF m 19 #[.val (.long q0), .second, .val (.long q1), .second, .val (.int p2), .val (.int p3), .val (.int p4), .val (.int p5), .val (.int (k1 q0)), .val (.int (k2 q0)), .unset, .unset, .unset, .unset, .unset, .unset, .unset, .unset, .unset, .unset, .unset] [(.int p2)])) _
    refine X0.ldcInt hx hown (mvT hZ (hw _ (List.mem_of_getElem? (i := 0) rfl))) (g := (mkF m 19 #[.val (.long q0), .second, .val (.long q1), .second, .val (.int p2), .val (.int p3), .val (.int p4), .val (.int p5), .val (.int (k1 q0)), .val (.int (k2 q0)), .unset, .unset, .unset, .unset, .unset, .unset, .unset, .unset, .unset, .unset, .unset] [(.int p2)])) rfl (hb hby at_19) _ ?_
    show Steps p.tables e below (s₁.setTop (mkF m 21 #[.val (.long q0), .second, .val (.long q1), .second, .val (.int p2), .val (.int p3), .val (.int p4), .val (.int p5), .val (.int (k1 q0)), .val (.int (k2 q0)), .unset, .unset, .unset, .unset, .unset, .unset, .unset, .unset, .unset, .unset, .unset] [(.int (2147483647 : Int32)), (.int p2)])) _
    refine XS.iand X0.here hx rfl (hb hby at_21) rfl ?_
    show Steps p.tables e below (s₁.setTop (mkF m 22 #[.val (.long q0), .second, .val (.long q1), .second, .val (.int p2), .val (.int p3), .val (.int p4), .val (.int p5), .val (.int (k1 q0)), .val (.int (k2 q0)), .unset, .unset, .unset, .unset, .unset, .unset, .unset, .unset, .unset, .unset, .unset] [(.int (p2 &&& (2147483647 : Int32)))])) _
    refine XS.istore X0.here hx rfl (hb hby at_22) rfl (l' := #[.val (.long q0), .second, .val (.long q1), .second, .val (.int p2), .val (.int p3), .val (.int p4), .val (.int p5), .val (.int (k1 q0)), .val (.int (k2 q0)), .val (.int (k3 p2)), .unset, .unset, .unset, .unset, .unset, .unset, .unset, .unset, .unset, .unset]) rfl ?_
    show Steps p.tables e below (s₁.setTop (mkF m 24 #[.val (.long q0), .second, .val (.long q1), .second, .val (.int p2), .val (.int p3), .val (.int p4), .val (.int p5), .val (.int (k1 q0)), .val (.int (k2 q0)), .val (.int (k3 p2)), .unset, .unset, .unset, .unset, .unset, .unset, .unset, .unset, .unset, .unset] [])) _
    refine XS.iload X0.here hx rfl (hb hby at_24) rfl ?_
    show Steps p.tables e below (s₁.setTop (mkF m 26 #[.val (.long q0), .second, .val (.long q1), .second, .val (.int p2), .val (.int p3), .val (.int p4), .val (.int p5), .val (.int (k1 q0)), .val (.int (k2 q0)), .val (.int (k3 p2)), .unset, .unset, .unset, .unset, .unset, .unset, .unset, .unset, .unset, .unset] [(.int p5)])) _
    refine XS.iconst X0.here hx rfl (hb hby at_26) ?_
    show Steps p.tables e below (s₁.setTop (mkF m 27 #[.val (.long q0), .second, .val (.long q1), .second, .val (.int p2), .val (.int p3), .val (.int p4), .val (.int p5), .val (.int (k1 q0)), .val (.int (k2 q0)), .val (.int (k3 p2)), .unset, .unset, .unset, .unset, .unset, .unset, .unset, .unset, .unset, .unset] [(.int (1 : Int32)), (.int p5)])) _
    refine XS.iand X0.here hx rfl (hb hby at_27) rfl ?_
    exact kt
  have K3 : ∀ t, Steps p.tables e below (s₁.setTop (mkF m 35 #[.val (.long q0), .second, .val (.long q1), .second, .val (.int p2), .val (.int p3), .val (.int p4), .val (.int p5), .val (.int (k1 q0)), .val (.int (gk2 q0 p5)), .val (.int (k3 p2)), .unset, .unset, .unset, .unset, .unset, .unset, .unset, .unset, .unset, .unset] [])) t → Steps p.tables e below (s₁.setTop (mkF m 0 #[.val (.long q0), .second, .val (.long q1), .second, .val (.int p2), .val (.int p3), .val (.int p4), .val (.int p5), .unset, .unset, .unset, .unset, .unset, .unset, .unset, .unset, .unset, .unset, .unset, .unset, .unset] [])) t := by
    intro t kt
    by_cases hc2 : (p5 &&& (1 : Int32)) = (0 : Int32)
    · skip
      simp only [gk2, if_pos hc2] at kt
      refine K1 _ ?_
      show Steps p.tables e below (s₁.setTop (mkF m 28 #[.val (.long q0), .second, .val (.long q1), .second, .val (.int p2), .val (.int p3), .val (.int p4), .val (.int p5), .val (.int (k1 q0)), .val (.int (k2 q0)), .val (.int (k3 p2)), .unset, .unset, .unset, .unset, .unset, .unset, .unset, .unset, .unset, .unset] [(.int (p5 &&& (1 : Int32)))])) _
      refine XS.ifYes X0.here hx rfl (pc0 := 28) (pc' := 35) rfl (hb hby at_28) rfl ((if0 _ _).trans (teq hc2).1) (by decide) (by decide) ?_
      exact kt
    · skip
      simp only [gk2, if_neg hc2] at kt
      refine K1 _ ?_
      show Steps p.tables e below (s₁.setTop (mkF m 28 #[.val (.long q0), .second, .val (.long q1), .second, .val (.int p2), .val (.int p3), .val (.int p4), .val (.int p5), .val (.int (k1 q0)), .val (.int (k2 q0)), .val (.int (k3 p2)), .unset, .unset, .unset, .unset, .unset, .unset, .unset, .unset, .unset, .unset] [(.int (p5 &&& (1 : Int32)))])) _
      refine XS.ifNo X0.here hx rfl (hb hby at_28) rfl ((if0 _ _).trans (feq hc2).1) ?_
      show Steps p.tables e below (s₁.setTop (mkF m 31 #[.val (.long q0), .second, .val (.long q1), .second, .val (.int p2), .val (.int p3), .val (.int p4), .val (.int p5), .val (.int (k1 q0)), .val (.int (k2 q0)), .val (.int (k3 p2)), .unset, .unset, .unset, .unset, .unset, .unset, .unset, .unset, .unset, .unset] [])) _
      refine XS.iload X0.here hx rfl (hb hby at_31) rfl ?_
      show Steps p.tables e below (s₁.setTop (mkF m 33 #[.val (.long q0), .second, .val (.long q1), .second, .val (.int p2), .val (.int p3), .val (.int p4), .val (.int p5), .val (.int (k1 q0)), .val (.int (k2 q0)), .val (.int (k3 p2)), .unset, .unset, .unset, .unset, .unset, .unset, .unset, .unset, .unset, .unset] [(.int (k1 q0))])) _
      refine XS.istore X0.here hx rfl (hb hby at_33) rfl (l' := #[.val (.long q0), .second, .val (.long q1), .second, .val (.int p2), .val (.int p3), .val (.int p4), .val (.int p5), .val (.int (k1 q0)), .val (.int (k1 q0)), .val (.int (k3 p2)), .unset, .unset, .unset, .unset, .unset, .unset, .unset, .unset, .unset, .unset]) rfl ?_
      exact kt
  have K4 : ∀ t, Steps p.tables e below (s₁.setTop (mkF m 39 #[.val (.long q0), .second, .val (.long q1), .second, .val (.int p2), .val (.int p3), .val (.int p4), .val (.int p5), .val (.int (k1 q0)), .val (.int (gk2 q0 p5)), .val (.int (k3 p2)), .unset, .unset, .unset, .unset, .unset, .unset, .unset, .unset, .unset, .unset] [(.int (p5 &&& (2 : Int32)))])) t → Steps p.tables e below (s₁.setTop (mkF m 0 #[.val (.long q0), .second, .val (.long q1), .second, .val (.int p2), .val (.int p3), .val (.int p4), .val (.int p5), .unset, .unset, .unset, .unset, .unset, .unset, .unset, .unset, .unset, .unset, .unset, .unset, .unset] [])) t := by
    intro t kt
    refine K3 _ ?_
    show Steps p.tables e below (s₁.setTop (mkF m 35 #[.val (.long q0), .second, .val (.long q1), .second, .val (.int p2), .val (.int p3), .val (.int p4), .val (.int p5), .val (.int (k1 q0)), .val (.int (gk2 q0 p5)), .val (.int (k3 p2)), .unset, .unset, .unset, .unset, .unset, .unset, .unset, .unset, .unset, .unset] [])) _
    refine XS.iload X0.here hx rfl (hb hby at_35) rfl ?_
    show Steps p.tables e below (s₁.setTop (mkF m 37 #[.val (.long q0), .second, .val (.long q1), .second, .val (.int p2), .val (.int p3), .val (.int p4), .val (.int p5), .val (.int (k1 q0)), .val (.int (gk2 q0 p5)), .val (.int (k3 p2)), .unset, .unset, .unset, .unset, .unset, .unset, .unset, .unset, .unset, .unset] [(.int p5)])) _
    refine XS.iconst X0.here hx rfl (hb hby at_37) ?_
    show Steps p.tables e below (s₁.setTop (mkF m 38 #[.val (.long q0), .second, .val (.long q1), .second, .val (.int p2), .val (.int p3), .val (.int p4), .val (.int p5), .val (.int (k1 q0)), .val (.int (gk2 q0 p5)), .val (.int (k3 p2)), .unset, .unset, .unset, .unset, .unset, .unset, .unset, .unset, .unset, .unset] [(.int (2 : Int32)), (.int p5)])) _
    refine XS.iand X0.here hx rfl (hb hby at_38) rfl ?_
    exact kt
  have K6 : ∀ t, Steps p.tables e below (s₁.setTop (mkF m 46 #[.val (.long q0), .second, .val (.long q1), .second, .val (.int p2), .val (.int p3), .val (.int p4), .val (.int p5), .val (.int (k1 q0)), .val (.int (gk2 q0 p5)), .val (.int (gk3a q0 p2 p5)), .unset, .unset, .unset, .unset, .unset, .unset, .unset, .unset, .unset, .unset] [])) t → Steps p.tables e below (s₁.setTop (mkF m 0 #[.val (.long q0), .second, .val (.long q1), .second, .val (.int p2), .val (.int p3), .val (.int p4), .val (.int p5), .unset, .unset, .unset, .unset, .unset, .unset, .unset, .unset, .unset, .unset, .unset, .unset, .unset] [])) t := by
    intro t kt
    by_cases hc5 : (p5 &&& (2 : Int32)) = (0 : Int32)
    · skip
      simp only [gk3a, if_pos hc5] at kt
      refine K4 _ ?_
      show Steps p.tables e below (s₁.setTop (mkF m 39 #[.val (.long q0), .second, .val (.long q1), .second, .val (.int p2), .val (.int p3), .val (.int p4), .val (.int p5), .val (.int (k1 q0)), .val (.int (gk2 q0 p5)), .val (.int (k3 p2)), .unset, .unset, .unset, .unset, .unset, .unset, .unset, .unset, .unset, .unset] [(.int (p5 &&& (2 : Int32)))])) _
      refine XS.ifYes X0.here hx rfl (pc0 := 39) (pc' := 46) rfl (hb hby at_39) rfl ((if0 _ _).trans (teq hc5).1) (by decide) (by decide) ?_
      exact kt
    · skip
      simp only [gk3a, if_neg hc5] at kt
      refine K4 _ ?_
      show Steps p.tables e below (s₁.setTop (mkF m 39 #[.val (.long q0), .second, .val (.long q1), .second, .val (.int p2), .val (.int p3), .val (.int p4), .val (.int p5), .val (.int (k1 q0)), .val (.int (gk2 q0 p5)), .val (.int (k3 p2)), .unset, .unset, .unset, .unset, .unset, .unset, .unset, .unset, .unset, .unset] [(.int (p5 &&& (2 : Int32)))])) _
      refine XS.ifNo X0.here hx rfl (hb hby at_39) rfl ((if0 _ _).trans (feq hc5).1) ?_
      show Steps p.tables e below (s₁.setTop (mkF m 42 #[.val (.long q0), .second, .val (.long q1), .second, .val (.int p2), .val (.int p3), .val (.int p4), .val (.int p5), .val (.int (k1 q0)), .val (.int (gk2 q0 p5)), .val (.int (k3 p2)), .unset, .unset, .unset, .unset, .unset, .unset, .unset, .unset, .unset, .unset] [])) _
      refine XS.iload X0.here hx rfl (hb hby at_42) rfl ?_
      show Steps p.tables e below (s₁.setTop (mkF m 44 #[.val (.long q0), .second, .val (.long q1), .second, .val (.int p2), .val (.int p3), .val (.int p4), .val (.int p5), .val (.int (k1 q0)), .val (.int (gk2 q0 p5)), .val (.int (k3 p2)), .unset, .unset, .unset, .unset, .unset, .unset, .unset, .unset, .unset, .unset] [(.int (k1 q0))])) _
      refine XS.istore X0.here hx rfl (hb hby at_44) rfl (l' := #[.val (.long q0), .second, .val (.long q1), .second, .val (.int p2), .val (.int p3), .val (.int p4), .val (.int p5), .val (.int (k1 q0)), .val (.int (gk2 q0 p5)), .val (.int (k1 q0)), .unset, .unset, .unset, .unset, .unset, .unset, .unset, .unset, .unset, .unset]) rfl ?_
      exact kt
  have K7 : ∀ t, Steps p.tables e below (s₁.setTop (mkF m 50 #[.val (.long q0), .second, .val (.long q1), .second, .val (.int p2), .val (.int p3), .val (.int p4), .val (.int p5), .val (.int (k1 q0)), .val (.int (gk2 q0 p5)), .val (.int (gk3a q0 p2 p5)), .unset, .unset, .unset, .unset, .unset, .unset, .unset, .unset, .unset, .unset] [(.int (p5 &&& (4 : Int32)))])) t → Steps p.tables e below (s₁.setTop (mkF m 0 #[.val (.long q0), .second, .val (.long q1), .second, .val (.int p2), .val (.int p3), .val (.int p4), .val (.int p5), .unset, .unset, .unset, .unset, .unset, .unset, .unset, .unset, .unset, .unset, .unset, .unset, .unset] [])) t := by
    intro t kt
    refine K6 _ ?_
    show Steps p.tables e below (s₁.setTop (mkF m 46 #[.val (.long q0), .second, .val (.long q1), .second, .val (.int p2), .val (.int p3), .val (.int p4), .val (.int p5), .val (.int (k1 q0)), .val (.int (gk2 q0 p5)), .val (.int (gk3a q0 p2 p5)), .unset, .unset, .unset, .unset, .unset, .unset, .unset, .unset, .unset, .unset] [])) _
    refine XS.iload X0.here hx rfl (hb hby at_46) rfl ?_
    show Steps p.tables e below (s₁.setTop (mkF m 48 #[.val (.long q0), .second, .val (.long q1), .second, .val (.int p2), .val (.int p3), .val (.int p4), .val (.int p5), .val (.int (k1 q0)), .val (.int (gk2 q0 p5)), .val (.int (gk3a q0 p2 p5)), .unset, .unset, .unset, .unset, .unset, .unset, .unset, .unset, .unset, .unset] [(.int p5)])) _
    refine XS.iconst X0.here hx rfl (hb hby at_48) ?_
    show Steps p.tables e below (s₁.setTop (mkF m 49 #[.val (.long q0), .second, .val (.long q1), .second, .val (.int p2), .val (.int p3), .val (.int p4), .val (.int p5), .val (.int (k1 q0)), .val (.int (gk2 q0 p5)), .val (.int (gk3a q0 p2 p5)), .unset, .unset, .unset, .unset, .unset, .unset, .unset, .unset, .unset, .unset] [(.int (4 : Int32)), (.int p5)])) _
    refine XS.iand X0.here hx rfl (hb hby at_49) rfl ?_
    exact kt
  have K9 : ∀ t, Steps p.tables e below (s₁.setTop (mkF m 57 #[.val (.long q0), .second, .val (.long q1), .second, .val (.int p2), .val (.int p3), .val (.int p4), .val (.int p5), .val (.int (k1 q0)), .val (.int (gk2 q0 p5)), .val (.int (gk3b q0 p2 p5)), .unset, .unset, .unset, .unset, .unset, .unset, .unset, .unset, .unset, .unset] [])) t → Steps p.tables e below (s₁.setTop (mkF m 0 #[.val (.long q0), .second, .val (.long q1), .second, .val (.int p2), .val (.int p3), .val (.int p4), .val (.int p5), .unset, .unset, .unset, .unset, .unset, .unset, .unset, .unset, .unset, .unset, .unset, .unset, .unset] [])) t := by
    intro t kt
    by_cases hc8 : (p5 &&& (4 : Int32)) = (0 : Int32)
    · skip
      simp only [gk3b, if_pos hc8] at kt
      refine K7 _ ?_
      show Steps p.tables e below (s₁.setTop (mkF m 50 #[.val (.long q0), .second, .val (.long q1), .second, .val (.int p2), .val (.int p3), .val (.int p4), .val (.int p5), .val (.int (k1 q0)), .val (.int (gk2 q0 p5)), .val (.int (gk3a q0 p2 p5)), .unset, .unset, .unset, .unset, .unset, .unset, .unset, .unset, .unset, .unset] [(.int (p5 &&& (4 : Int32)))])) _
      refine XS.ifYes X0.here hx rfl (pc0 := 50) (pc' := 57) rfl (hb hby at_50) rfl ((if0 _ _).trans (teq hc8).1) (by decide) (by decide) ?_
      exact kt
    · skip
      simp only [gk3b, if_neg hc8] at kt
      refine K7 _ ?_
      show Steps p.tables e below (s₁.setTop (mkF m 50 #[.val (.long q0), .second, .val (.long q1), .second, .val (.int p2), .val (.int p3), .val (.int p4), .val (.int p5), .val (.int (k1 q0)), .val (.int (gk2 q0 p5)), .val (.int (gk3a q0 p2 p5)), .unset, .unset, .unset, .unset, .unset, .unset, .unset, .unset, .unset, .unset] [(.int (p5 &&& (4 : Int32)))])) _
      refine XS.ifNo X0.here hx rfl (hb hby at_50) rfl ((if0 _ _).trans (feq hc8).1) ?_
      show Steps p.tables e below (s₁.setTop (mkF m 53 #[.val (.long q0), .second, .val (.long q1), .second, .val (.int p2), .val (.int p3), .val (.int p4), .val (.int p5), .val (.int (k1 q0)), .val (.int (gk2 q0 p5)), .val (.int (gk3a q0 p2 p5)), .unset, .unset, .unset, .unset, .unset, .unset, .unset, .unset, .unset, .unset] [])) _
      refine XS.iload X0.here hx rfl (hb hby at_53) rfl ?_
      show Steps p.tables e below (s₁.setTop (mkF m 55 #[.val (.long q0), .second, .val (.long q1), .second, .val (.int p2), .val (.int p3), .val (.int p4), .val (.int p5), .val (.int (k1 q0)), .val (.int (gk2 q0 p5)), .val (.int (gk3a q0 p2 p5)), .unset, .unset, .unset, .unset, .unset, .unset, .unset, .unset, .unset, .unset] [(.int (gk2 q0 p5))])) _
      refine XS.istore X0.here hx rfl (hb hby at_55) rfl (l' := #[.val (.long q0), .second, .val (.long q1), .second, .val (.int p2), .val (.int p3), .val (.int p4), .val (.int p5), .val (.int (k1 q0)), .val (.int (gk2 q0 p5)), .val (.int (gk2 q0 p5)), .unset, .unset, .unset, .unset, .unset, .unset, .unset, .unset, .unset, .unset]) rfl ?_
      exact kt
  obtain ⟨T10, h10, X10, e10, E10, A10, D10, -, st10⟩ := newO X0 hx hZ hown (hw _ (List.mem_of_getElem? (i := 1) rfl)) (hw _ (List.mem_of_getElem? (i := 2) rfl)) (hw _ (List.mem_of_getElem? (i := 3) rfl)) e0 (g := (mkF m 88 #[.val (.long q0), .second, .val (.long q1), .second, .val (.int p2), .val (.int p3), .val (.int p4), .val (.int p5), .val (.int (k1 q0)), .val (.int (gk2 q0 p5)), .val (.int (gk3b q0 p2 p5)), .val (.int (v1 q1)), .val (.int (v2 q1)), .val (.int (v3 p3)), .val (.int (gq p4)), .unset, .unset, .unset, .unset, .unset, .unset] [])) rfl (hb hby at_88) (by decide) (by decide)
  obtain ⟨b10, g10⟩ : ∃ z, z = h0.size := ⟨_, rfl⟩
  rw [← g10] at A10 D10 st10
  have gn10 : n0 ≤ b10 := Nat.le_trans Z0 (Nat.le_of_eq g10.symm)
  have Z10 : n0 ≤ h10.size := Nat.le_trans Z0 E10.1
  have F10_keys : Fld Z h10 b10 "com/example/mastiff/mastiff/IntMap" "keys" "[I" .null := D10 (Or.inl (hw _ (List.mem_of_getElem? (i := 19) rfl))) (ty := (.array .int)) (by decide)
  have F10_values : Fld Z h10 b10 "com/example/mastiff/mastiff/IntMap" "values" "[I" .null := D10 (Or.inl (hw _ (List.mem_of_getElem? (i := 21) rfl))) (ty := (.array .int)) (by decide)
  have F10_size : Fld Z h10 b10 "com/example/mastiff/mastiff/IntMap" "size" "I" (.int (0 : Int32)) := D10 (Or.inl (hw _ (List.mem_of_getElem? (i := 46) rfl))) (ty := .int) (by decide)
  obtain ⟨_, _, ⟨T11, L11, k11, n11⟩, -, X11, ⟨Lc11, hQ11, l11, y11, z11⟩, st11⟩ := X10.specialBack hx (y := (⟨"com/example/mastiff/mastiff/IntMap", "<init>", "()V"⟩ : MethodName)) rfl hown (mvT hZ (hw _ (List.mem_of_getElem? (i := 4) rfl))) (mvT hZ (hw _ (List.mem_of_getElem? (i := 5) rfl))) (mvT hZ (hw _ (List.mem_of_getElem? (i := 6) rfl))) (by decide) (backOf (W := 1) (rm1 l Z a0 hw [] b10 .null .null h10 n0 Z10 F10_keys F10_values F10_size A10 gn10) hZ (hw _ (List.mem_of_getElem? (i := 6) rfl)) (hw _ (List.mem_of_getElem? (i := 3) rfl)) (by decide) (by decide)) (g := (mkF m 92 #[.val (.long q0), .second, .val (.long q1), .second, .val (.int p2), .val (.int p3), .val (.int p4), .val (.int p5), .val (.int (k1 q0)), .val (.int (gk2 q0 p5)), .val (.int (gk3b q0 p2 p5)), .val (.int (v1 q1)), .val (.int (v2 q1)), .val (.int (v3 p3)), .val (.int (gq p4)), .unset, .unset, .unset, .unset, .unset, .unset] [(.ref b10), (.ref b10)])) rfl (by rw [hml]; rfl) (Steps.refl _) (a := b10) (argsL := []) (rest := [(.ref b10)]) (lenOf pd_3 rfl) rfl (by show 2 * 0 + _ ≤ _; exact Nat.le_of_eq rfl) (hb hby at_92) (fun _ _ => ⟨rfl, e10, (by decide : 1 + 2 ≤ _), (by decide : 3 + 12 ≤ _)⟩)
  dsimp only [Pt.U, Pt.locs, Pt.cells, Pt.slots] at X11 l11 y11 z11 st11 hQ11
  subst l11 y11 z11
  obtain ⟨rfl, N11q, Z11q, I11q⟩ := hQ11
  have N11 := Fr.app N0 N11q
  obtain ⟨cq12, kq12, q12a, q12b, q12c⟩ := isOf hZ rfl (own_imE I11q)
  obtain ⟨_, _, ⟨T12, L12, k12, n12⟩, -, X12, ⟨Lc12, hQ12, l12, y12, z12⟩, st12⟩ := X11.virtualBack hx (y := (⟨"com/example/mastiff/mastiff/IntMap", "get", "(I)I"⟩ : MethodName)) (z := (⟨"com/example/mastiff/mastiff/IntMap", "get", "(I)I"⟩ : MethodName)) hown (mvT hZ (hw _ (List.mem_of_getElem? (i := 22) rfl))) (mvT hZ (hw _ (List.mem_of_getElem? (i := 23) rfl))) (notFace_of_selects (args := #[]) (mvT hZ (hw _ (List.mem_of_getElem? (i := 25) rfl)))) (mvT hZ (hw _ (List.mem_of_getElem? (i := 25) rfl))) (mvT hZ (hw _ (List.mem_of_getElem? (i := 24) rfl))) (by decide) (backOf (W := 0) (rm5 l Z a0 hw [] b10 (gq p4) (fun _ => none) 0 T11.heap n0 Z11q I11q (own_nn _)) hZ (hw _ (List.mem_of_getElem? (i := 26) rfl)) (hw _ (List.mem_of_getElem? (i := 3) rfl)) (by decide) (by decide)) q12a q12c (g := (mkF m 101 #[.val (.long q0), .second, .val (.long q1), .second, .val (.int p2), .val (.int p3), .val (.int p4), .val (.int p5), .val (.int (k1 q0)), .val (.int (gk2 q0 p5)), .val (.int (gk3b q0 p2 p5)), .val (.int (v1 q1)), .val (.int (v2 q1)), .val (.int (v3 p3)), .val (.int (gq p4)), .val (.ref b10), .unset, .unset, .unset, .unset, .unset] [(.int (gq p4)), (.ref b10)])) rfl (by rw [hml]; rfl) (Steps.refl _) (argsL := [(.int (gq p4))]) (rest := []) (lenOf pd_1 rfl) rfl (by show 2 * 0 + _ ≤ _; exact Nat.le_of_eq rfl) (hb hby at_101) (fun _ _ => ⟨rfl, rfl, (by decide : 3 + 0 ≤ _), (by decide : 15 + 0 ≤ _)⟩)
  dsimp only [Pt.U, Pt.locs, Pt.cells, Pt.slots] at X12 l12 y12 z12 st12 hQ12
  subst l12 y12 z12
  obtain ⟨rfl, rfl, e12⟩ := hQ12
  try rw [List.append_nil] at X12
  obtain ⟨cq13, kq13, q13a, q13b, q13c⟩ := isOf hZ e12 (own_imE I11q)
  obtain ⟨_, _, ⟨T13, L13, k13, n13⟩, -, X13, ⟨Lc13, hQ13, l13, y13, z13⟩, st13⟩ := X12.virtualBack hx (y := (⟨"com/example/mastiff/mastiff/IntMap", "put", "(II)V"⟩ : MethodName)) (z := (⟨"com/example/mastiff/mastiff/IntMap", "put", "(II)V"⟩ : MethodName)) hown (mvT hZ (hw _ (List.mem_of_getElem? (i := 35) rfl))) (mvT hZ (hw _ (List.mem_of_getElem? (i := 36) rfl))) (notFace_of_selects (args := #[]) (mvT hZ (hw _ (List.mem_of_getElem? (i := 38) rfl)))) (mvT hZ (hw _ (List.mem_of_getElem? (i := 38) rfl))) (mvT hZ (hw _ (List.mem_of_getElem? (i := 37) rfl))) (by decide) (backOf (W := 0) (rm8 l Z a0 hw [] b10 (k1 q0) (v1 q1) (fun _ => none) 0 T11.heap n0 Z11q I11q (by omega) (own_nn _)) hZ (hw _ (List.mem_of_getElem? (i := 39) rfl)) (hw _ (List.mem_of_getElem? (i := 3) rfl)) (by decide) (by decide)) q13a q13c (g := (mkF m 121 #[.val (.long q0), .second, .val (.long q1), .second, .val (.int p2), .val (.int p3), .val (.int p4), .val (.int p5), .val (.int (k1 q0)), .val (.int (gk2 q0 p5)), .val (.int (gk3b q0 p2 p5)), .val (.int (v1 q1)), .val (.int (v2 q1)), .val (.int (v3 p3)), .val (.int (gq p4)), .val (.ref b10), .val (.int (1 : Int32)), .unset, .unset, .unset, .unset] [(.int (v1 q1)), (.int (k1 q0)), (.ref b10)])) rfl (by rw [hml]; rfl) (Steps.refl _) (argsL := [(.int (k1 q0)), (.int (v1 q1))]) (rest := []) (lenOf pd_5 rfl) rfl (by show 2 * 0 + _ ≤ _; exact Nat.le_of_eq rfl) (hb hby at_121) (fun _ _ => ⟨rfl, e12, (by decide : 3 + 2 ≤ _), (by decide : 15 + 16 ≤ _)⟩)
  dsimp only [Pt.U, Pt.locs, Pt.cells, Pt.slots] at X13 l13 y13 z13 st13 hQ13
  subst l13 y13 z13
  obtain ⟨rfl, N13q, Z13q, q13, hq13, I13q⟩ := hQ13
  have N13 := Fr.app N11 N13q
  obtain ⟨cq14, kq14, q14a, q14b, q14c⟩ := isOf hZ rfl (own_imE I13q)
  obtain ⟨_, _, ⟨T14, L14, k14, n14⟩, -, X14, ⟨Lc14, hQ14, l14, y14, z14⟩, st14⟩ := X13.virtualBack hx (y := (⟨"com/example/mastiff/mastiff/IntMap", "put", "(II)V"⟩ : MethodName)) (z := (⟨"com/example/mastiff/mastiff/IntMap", "put", "(II)V"⟩ : MethodName)) hown (mvT hZ (hw _ (List.mem_of_getElem? (i := 35) rfl))) (mvT hZ (hw _ (List.mem_of_getElem? (i := 36) rfl))) (notFace_of_selects (args := #[]) (mvT hZ (hw _ (List.mem_of_getElem? (i := 38) rfl)))) (mvT hZ (hw _ (List.mem_of_getElem? (i := 38) rfl))) (mvT hZ (hw _ (List.mem_of_getElem? (i := 37) rfl))) (by decide) (backOf (W := 0) (rm8 l Z a0 hw [] b10 (gk2 q0 p5) (v2 q1) (ins (fun _ => none) (k1 q0) (v1 q1)) q13 T13.heap n0 Z13q I13q (by omega) (own_k2 q0 p5)) hZ (hw _ (List.mem_of_getElem? (i := 39) rfl)) (hw _ (List.mem_of_getElem? (i := 3) rfl)) (by decide) (by decide)) q14a q14c (g := (mkF m 130 #[.val (.long q0), .second, .val (.long q1), .second, .val (.int p2), .val (.int p3), .val (.int p4), .val (.int p5), .val (.int (k1 q0)), .val (.int (gk2 q0 p5)), .val (.int (gk3b q0 p2 p5)), .val (.int (v1 q1)), .val (.int (v2 q1)), .val (.int (v3 p3)), .val (.int (gq p4)), .val (.ref b10), .val (.int (1 : Int32)), .unset, .unset, .unset, .unset] [(.int (v2 q1)), (.int (gk2 q0 p5)), (.ref b10)])) rfl (by rw [hml]; rfl) (Steps.refl _) (argsL := [(.int (gk2 q0 p5)), (.int (v2 q1))]) (rest := []) (lenOf pd_5 rfl) rfl (by show 2 * 0 + _ ≤ _; exact Nat.le_of_eq rfl) (hb hby at_130) (fun _ _ => ⟨rfl, rfl, (by decide : 5 + 2 ≤ _), (by decide : 31 + 16 ≤ _)⟩)
  dsimp only [Pt.U, Pt.locs, Pt.cells, Pt.slots] at X14 l14 y14 z14 st14 hQ14
  subst l14 y14 z14
  obtain ⟨rfl, N14q, Z14q, q14, hq14, I14q⟩ := hQ14
  have N14 := Fr.app N13 N14q
  obtain ⟨cq15, kq15, q15a, q15b, q15c⟩ := isOf hZ rfl (own_imE I14q)
  obtain ⟨_, _, ⟨T15, L15, k15, n15⟩, -, X15, ⟨Lc15, hQ15, l15, y15, z15⟩, st15⟩ := X14.virtualBack hx (y := (⟨"com/example/mastiff/mastiff/IntMap", "put", "(II)V"⟩ : MethodName)) (z := (⟨"com/example/mastiff/mastiff/IntMap", "put", "(II)V"⟩ : MethodName)) hown (mvT hZ (hw _ (List.mem_of_getElem? (i := 35) rfl))) (mvT hZ (hw _ (List.mem_of_getElem? (i := 36) rfl))) (notFace_of_selects (args := #[]) (mvT hZ (hw _ (List.mem_of_getElem? (i := 38) rfl)))) (mvT hZ (hw _ (List.mem_of_getElem? (i := 38) rfl))) (mvT hZ (hw _ (List.mem_of_getElem? (i := 37) rfl))) (by decide) (backOf (W := 0) (rm8 l Z a0 hw [] b10 (gk3b q0 p2 p5) (v3 p3) (ins (ins (fun _ => none) (k1 q0) (v1 q1)) (gk2 q0 p5) (v2 q1)) q14 T14.heap n0 Z14q I14q (by omega) (own_k3 q0 p2 p5)) hZ (hw _ (List.mem_of_getElem? (i := 39) rfl)) (hw _ (List.mem_of_getElem? (i := 3) rfl)) (by decide) (by decide)) q15a q15c (g := (mkF m 139 #[.val (.long q0), .second, .val (.long q1), .second, .val (.int p2), .val (.int p3), .val (.int p4), .val (.int p5), .val (.int (k1 q0)), .val (.int (gk2 q0 p5)), .val (.int (gk3b q0 p2 p5)), .val (.int (v1 q1)), .val (.int (v2 q1)), .val (.int (v3 p3)), .val (.int (gq p4)), .val (.ref b10), .val (.int (1 : Int32)), .unset, .unset, .unset, .unset] [(.int (v3 p3)), (.int (gk3b q0 p2 p5)), (.ref b10)])) rfl (by rw [hml]; rfl) (Steps.refl _) (argsL := [(.int (gk3b q0 p2 p5)), (.int (v3 p3))]) (rest := []) (lenOf pd_5 rfl) rfl (by show 2 * 0 + _ ≤ _; exact Nat.le_of_eq rfl) (hb hby at_139) (fun _ _ => ⟨rfl, rfl, (by decide : 7 + 2 ≤ _), (by decide : 47 + 16 ≤ _)⟩)
  dsimp only [Pt.U, Pt.locs, Pt.cells, Pt.slots] at X15 l15 y15 z15 st15 hQ15
  subst l15 y15 z15
  obtain ⟨rfl, N15q, Z15q, q15, hq15, I15q⟩ := hQ15
  have N15 := Fr.app N14 N15q
  obtain ⟨cq16, kq16, q16a, q16b, q16c⟩ := isOf hZ rfl (own_imE I15q)
  obtain ⟨_, _, ⟨T16, L16, k16, n16⟩, -, X16, ⟨Lc16, hQ16, l16, y16, z16⟩, st16⟩ := X15.virtualBack hx (y := (⟨"com/example/mastiff/mastiff/IntMap", "get", "(I)I"⟩ : MethodName)) (z := (⟨"com/example/mastiff/mastiff/IntMap", "get", "(I)I"⟩ : MethodName)) hown (mvT hZ (hw _ (List.mem_of_getElem? (i := 22) rfl))) (mvT hZ (hw _ (List.mem_of_getElem? (i := 23) rfl))) (notFace_of_selects (args := #[]) (mvT hZ (hw _ (List.mem_of_getElem? (i := 25) rfl)))) (mvT hZ (hw _ (List.mem_of_getElem? (i := 25) rfl))) (mvT hZ (hw _ (List.mem_of_getElem? (i := 24) rfl))) (by decide) (backOf (W := 0) (rm5 l Z a0 hw [] b10 (k1 q0) (ins (ins (ins (fun _ => none) (k1 q0) (v1 q1)) (gk2 q0 p5) (v2 q1)) (gk3b q0 p2 p5) (v3 p3)) q15 T15.heap n0 Z15q I15q (own_nn _)) hZ (hw _ (List.mem_of_getElem? (i := 26) rfl)) (hw _ (List.mem_of_getElem? (i := 3) rfl)) (by decide) (by decide)) q16a q16c (g := (mkF m 146 #[.val (.long q0), .second, .val (.long q1), .second, .val (.int p2), .val (.int p3), .val (.int p4), .val (.int p5), .val (.int (k1 q0)), .val (.int (gk2 q0 p5)), .val (.int (gk3b q0 p2 p5)), .val (.int (v1 q1)), .val (.int (v2 q1)), .val (.int (v3 p3)), .val (.int (gq p4)), .val (.ref b10), .val (.int (1 : Int32)), .unset, .unset, .unset, .unset] [(.int (k1 q0)), (.ref b10)])) rfl (by rw [hml]; rfl) (Steps.refl _) (argsL := [(.int (k1 q0))]) (rest := []) (lenOf pd_1 rfl) rfl (by show 2 * 0 + _ ≤ _; exact Nat.le_of_eq rfl) (hb hby at_146) (fun _ _ => ⟨rfl, rfl, (by decide : 9 + 0 ≤ _), (by decide : 63 + 0 ≤ _)⟩)
  dsimp only [Pt.U, Pt.locs, Pt.cells, Pt.slots] at X16 l16 y16 z16 st16 hQ16
  subst l16 y16 z16
  obtain ⟨rfl, rfl, e16⟩ := hQ16
  try rw [List.append_nil] at X16
  obtain ⟨_, _, ⟨T17, L17, k17, n17⟩, -, X17, ⟨Lc17, hQ17, l17, y17, z17⟩, st17⟩ := Jvm.LawKit.callS X16 hx (y := (⟨"com/example/mastiff/mastiff/IntMapGetPinLaw", "expected", "(IIIIIII)I"⟩ : MethodName)) hown (mvT hZ (hw _ (List.mem_of_getElem? (i := 47) rfl))) (mvT hZ (hw _ (List.mem_of_getElem? (i := 48) rfl))) (mvT hZ (hw _ (List.mem_of_getElem? (i := 49) rfl))) (mvT hZ (hw _ (List.mem_of_getElem? (i := 50) rfl))) (by decide) (backOf (W := 1) (rm10 l Z a0 hw [] (k1 q0) (k1 q0) (v1 q1) (gk2 q0 p5) (v2 q1) (gk3b q0 p2 p5) (v3 p3)  T15.heap ) hZ (hw _ (List.mem_of_getElem? (i := 50) rfl)) (hw _ (List.mem_of_getElem? (i := 49) rfl)) (by decide) (by decide)) (g := (mkF m 163 #[.val (.long q0), .second, .val (.long q1), .second, .val (.int p2), .val (.int p3), .val (.int p4), .val (.int p5), .val (.int (k1 q0)), .val (.int (gk2 q0 p5)), .val (.int (gk3b q0 p2 p5)), .val (.int (v1 q1)), .val (.int (v2 q1)), .val (.int (v3 p3)), .val (.int (gq p4)), .val (.ref b10), .val (.int (1 : Int32)), .unset, .unset, .unset, .unset] [(.int (v3 p3)), (.int (gk3b q0 p2 p5)), (.int (v2 q1)), (.int (gk2 q0 p5)), (.int (v1 q1)), (.int (k1 q0)), (.int (k1 q0)), (.int (gvalM (ins (ins (ins (fun _ => none) (k1 q0) (v1 q1)) (gk2 q0 p5) (v2 q1)) (gk3b q0 p2 p5) (v3 p3)) (k1 q0)))])) rfl (by rw [hml]; rfl) (argsL := [(.int (k1 q0)), (.int (k1 q0)), (.int (v1 q1)), (.int (gk2 q0 p5)), (.int (v2 q1)), (.int (gk3b q0 p2 p5)), (.int (v3 p3))]) (rest := [(.int (gvalM (ins (ins (ins (fun _ => none) (k1 q0) (v1 q1)) (gk2 q0 p5) (v2 q1)) (gk3b q0 p2 p5) (v3 p3)) (k1 q0)))]) (lenOf pd_6 rfl) rfl (by show 2 * 0 + _ ≤ _; exact Nat.le_of_eq rfl) (hb hby at_163) (fun _ _ => ⟨rfl, e16, (by decide : 9 + 0 ≤ _), (by decide : 63 + 0 ≤ _)⟩)
  dsimp only [Pt.U, Pt.locs, Pt.cells, Pt.slots] at X17 l17 y17 z17 st17 hQ17
  subst l17 y17 z17
  obtain ⟨rfl, rfl, e17⟩ := hQ17
  try rw [List.append_nil] at X17
  obtain ⟨cq18, kq18, q18a, q18b, q18c⟩ := isOf hZ e17 (own_imE I15q)
  obtain ⟨_, _, ⟨T18, L18, k18, n18⟩, -, X18, ⟨Lc18, hQ18, l18, y18, z18⟩, st18⟩ := X17.virtualBack hx (y := (⟨"com/example/mastiff/mastiff/IntMap", "get", "(I)I"⟩ : MethodName)) (z := (⟨"com/example/mastiff/mastiff/IntMap", "get", "(I)I"⟩ : MethodName)) hown (mvT hZ (hw _ (List.mem_of_getElem? (i := 22) rfl))) (mvT hZ (hw _ (List.mem_of_getElem? (i := 23) rfl))) (notFace_of_selects (args := #[]) (mvT hZ (hw _ (List.mem_of_getElem? (i := 25) rfl)))) (mvT hZ (hw _ (List.mem_of_getElem? (i := 25) rfl))) (mvT hZ (hw _ (List.mem_of_getElem? (i := 24) rfl))) (by decide) (backOf (W := 0) (rm5 l Z a0 hw [] b10 (gk2 q0 p5) (ins (ins (ins (fun _ => none) (k1 q0) (v1 q1)) (gk2 q0 p5) (v2 q1)) (gk3b q0 p2 p5) (v3 p3)) q15 T15.heap n0 Z15q I15q (own_k2 q0 p5)) hZ (hw _ (List.mem_of_getElem? (i := 26) rfl)) (hw _ (List.mem_of_getElem? (i := 3) rfl)) (by decide) (by decide)) q18a q18c (g := (mkF m 180 #[.val (.long q0), .second, .val (.long q1), .second, .val (.int p2), .val (.int p3), .val (.int p4), .val (.int p5), .val (.int (k1 q0)), .val (.int (gk2 q0 p5)), .val (.int (gk3b q0 p2 p5)), .val (.int (v1 q1)), .val (.int (v2 q1)), .val (.int (v3 p3)), .val (.int (gq p4)), .val (.ref b10), .val (.int (1 : Int32)), .val (.int (1 : Int32)), .unset, .unset, .unset] [(.int (gk2 q0 p5)), (.ref b10)])) rfl (by rw [hml]; rfl) (Steps.refl _) (argsL := [(.int (gk2 q0 p5))]) (rest := []) (lenOf pd_1 rfl) rfl (by show 2 * 0 + _ ≤ _; exact Nat.le_of_eq rfl) (hb hby at_180) (fun _ _ => ⟨rfl, e17, (by decide : 9 + 0 ≤ _), (by decide : 63 + 0 ≤ _)⟩)
  dsimp only [Pt.U, Pt.locs, Pt.cells, Pt.slots] at X18 l18 y18 z18 st18 hQ18
  subst l18 y18 z18
  obtain ⟨rfl, rfl, e18⟩ := hQ18
  try rw [List.append_nil] at X18
  obtain ⟨_, _, ⟨T19, L19, k19, n19⟩, -, X19, ⟨Lc19, hQ19, l19, y19, z19⟩, st19⟩ := Jvm.LawKit.callS X18 hx (y := (⟨"com/example/mastiff/mastiff/IntMapGetPinLaw", "expected", "(IIIIIII)I"⟩ : MethodName)) hown (mvT hZ (hw _ (List.mem_of_getElem? (i := 47) rfl))) (mvT hZ (hw _ (List.mem_of_getElem? (i := 48) rfl))) (mvT hZ (hw _ (List.mem_of_getElem? (i := 49) rfl))) (mvT hZ (hw _ (List.mem_of_getElem? (i := 50) rfl))) (by decide) (backOf (W := 1) (rm10 l Z a0 hw [] (gk2 q0 p5) (k1 q0) (v1 q1) (gk2 q0 p5) (v2 q1) (gk3b q0 p2 p5) (v3 p3)  T15.heap ) hZ (hw _ (List.mem_of_getElem? (i := 50) rfl)) (hw _ (List.mem_of_getElem? (i := 49) rfl)) (by decide) (by decide)) (g := (mkF m 197 #[.val (.long q0), .second, .val (.long q1), .second, .val (.int p2), .val (.int p3), .val (.int p4), .val (.int p5), .val (.int (k1 q0)), .val (.int (gk2 q0 p5)), .val (.int (gk3b q0 p2 p5)), .val (.int (v1 q1)), .val (.int (v2 q1)), .val (.int (v3 p3)), .val (.int (gq p4)), .val (.ref b10), .val (.int (1 : Int32)), .val (.int (1 : Int32)), .unset, .unset, .unset] [(.int (v3 p3)), (.int (gk3b q0 p2 p5)), (.int (v2 q1)), (.int (gk2 q0 p5)), (.int (v1 q1)), (.int (k1 q0)), (.int (gk2 q0 p5)), (.int (gvalM (ins (ins (ins (fun _ => none) (k1 q0) (v1 q1)) (gk2 q0 p5) (v2 q1)) (gk3b q0 p2 p5) (v3 p3)) (gk2 q0 p5)))])) rfl (by rw [hml]; rfl) (argsL := [(.int (gk2 q0 p5)), (.int (k1 q0)), (.int (v1 q1)), (.int (gk2 q0 p5)), (.int (v2 q1)), (.int (gk3b q0 p2 p5)), (.int (v3 p3))]) (rest := [(.int (gvalM (ins (ins (ins (fun _ => none) (k1 q0) (v1 q1)) (gk2 q0 p5) (v2 q1)) (gk3b q0 p2 p5) (v3 p3)) (gk2 q0 p5)))]) (lenOf pd_6 rfl) rfl (by show 2 * 0 + _ ≤ _; exact Nat.le_of_eq rfl) (hb hby at_197) (fun _ _ => ⟨rfl, e18, (by decide : 9 + 0 ≤ _), (by decide : 63 + 0 ≤ _)⟩)
  dsimp only [Pt.U, Pt.locs, Pt.cells, Pt.slots] at X19 l19 y19 z19 st19 hQ19
  subst l19 y19 z19
  obtain ⟨rfl, rfl, e19⟩ := hQ19
  try rw [List.append_nil] at X19
  obtain ⟨cq20, kq20, q20a, q20b, q20c⟩ := isOf hZ e19 (own_imE I15q)
  obtain ⟨_, _, ⟨T20, L20, k20, n20⟩, -, X20, ⟨Lc20, hQ20, l20, y20, z20⟩, st20⟩ := X19.virtualBack hx (y := (⟨"com/example/mastiff/mastiff/IntMap", "get", "(I)I"⟩ : MethodName)) (z := (⟨"com/example/mastiff/mastiff/IntMap", "get", "(I)I"⟩ : MethodName)) hown (mvT hZ (hw _ (List.mem_of_getElem? (i := 22) rfl))) (mvT hZ (hw _ (List.mem_of_getElem? (i := 23) rfl))) (notFace_of_selects (args := #[]) (mvT hZ (hw _ (List.mem_of_getElem? (i := 25) rfl)))) (mvT hZ (hw _ (List.mem_of_getElem? (i := 25) rfl))) (mvT hZ (hw _ (List.mem_of_getElem? (i := 24) rfl))) (by decide) (backOf (W := 0) (rm5 l Z a0 hw [] b10 (gk3b q0 p2 p5) (ins (ins (ins (fun _ => none) (k1 q0) (v1 q1)) (gk2 q0 p5) (v2 q1)) (gk3b q0 p2 p5) (v3 p3)) q15 T15.heap n0 Z15q I15q (own_k3 q0 p2 p5)) hZ (hw _ (List.mem_of_getElem? (i := 26) rfl)) (hw _ (List.mem_of_getElem? (i := 3) rfl)) (by decide) (by decide)) q20a q20c (g := (mkF m 214 #[.val (.long q0), .second, .val (.long q1), .second, .val (.int p2), .val (.int p3), .val (.int p4), .val (.int p5), .val (.int (k1 q0)), .val (.int (gk2 q0 p5)), .val (.int (gk3b q0 p2 p5)), .val (.int (v1 q1)), .val (.int (v2 q1)), .val (.int (v3 p3)), .val (.int (gq p4)), .val (.ref b10), .val (.int (1 : Int32)), .val (.int (1 : Int32)), .val (.int (1 : Int32)), .unset, .unset] [(.int (gk3b q0 p2 p5)), (.ref b10)])) rfl (by rw [hml]; rfl) (Steps.refl _) (argsL := [(.int (gk3b q0 p2 p5))]) (rest := []) (lenOf pd_1 rfl) rfl (by show 2 * 0 + _ ≤ _; exact Nat.le_of_eq rfl) (hb hby at_214) (fun _ _ => ⟨rfl, e19, (by decide : 9 + 0 ≤ _), (by decide : 63 + 0 ≤ _)⟩)
  dsimp only [Pt.U, Pt.locs, Pt.cells, Pt.slots] at X20 l20 y20 z20 st20 hQ20
  subst l20 y20 z20
  obtain ⟨rfl, rfl, e20⟩ := hQ20
  try rw [List.append_nil] at X20
  obtain ⟨_, _, ⟨T21, L21, k21, n21⟩, -, X21, ⟨Lc21, hQ21, l21, y21, z21⟩, st21⟩ := Jvm.LawKit.callS X20 hx (y := (⟨"com/example/mastiff/mastiff/IntMapGetPinLaw", "expected", "(IIIIIII)I"⟩ : MethodName)) hown (mvT hZ (hw _ (List.mem_of_getElem? (i := 47) rfl))) (mvT hZ (hw _ (List.mem_of_getElem? (i := 48) rfl))) (mvT hZ (hw _ (List.mem_of_getElem? (i := 49) rfl))) (mvT hZ (hw _ (List.mem_of_getElem? (i := 50) rfl))) (by decide) (backOf (W := 1) (rm10 l Z a0 hw [] (gk3b q0 p2 p5) (k1 q0) (v1 q1) (gk2 q0 p5) (v2 q1) (gk3b q0 p2 p5) (v3 p3)  T15.heap ) hZ (hw _ (List.mem_of_getElem? (i := 50) rfl)) (hw _ (List.mem_of_getElem? (i := 49) rfl)) (by decide) (by decide)) (g := (mkF m 231 #[.val (.long q0), .second, .val (.long q1), .second, .val (.int p2), .val (.int p3), .val (.int p4), .val (.int p5), .val (.int (k1 q0)), .val (.int (gk2 q0 p5)), .val (.int (gk3b q0 p2 p5)), .val (.int (v1 q1)), .val (.int (v2 q1)), .val (.int (v3 p3)), .val (.int (gq p4)), .val (.ref b10), .val (.int (1 : Int32)), .val (.int (1 : Int32)), .val (.int (1 : Int32)), .unset, .unset] [(.int (v3 p3)), (.int (gk3b q0 p2 p5)), (.int (v2 q1)), (.int (gk2 q0 p5)), (.int (v1 q1)), (.int (k1 q0)), (.int (gk3b q0 p2 p5)), (.int (gvalM (ins (ins (ins (fun _ => none) (k1 q0) (v1 q1)) (gk2 q0 p5) (v2 q1)) (gk3b q0 p2 p5) (v3 p3)) (gk3b q0 p2 p5)))])) rfl (by rw [hml]; rfl) (argsL := [(.int (gk3b q0 p2 p5)), (.int (k1 q0)), (.int (v1 q1)), (.int (gk2 q0 p5)), (.int (v2 q1)), (.int (gk3b q0 p2 p5)), (.int (v3 p3))]) (rest := [(.int (gvalM (ins (ins (ins (fun _ => none) (k1 q0) (v1 q1)) (gk2 q0 p5) (v2 q1)) (gk3b q0 p2 p5) (v3 p3)) (gk3b q0 p2 p5)))]) (lenOf pd_6 rfl) rfl (by show 2 * 0 + _ ≤ _; exact Nat.le_of_eq rfl) (hb hby at_231) (fun _ _ => ⟨rfl, e20, (by decide : 9 + 0 ≤ _), (by decide : 63 + 0 ≤ _)⟩)
  dsimp only [Pt.U, Pt.locs, Pt.cells, Pt.slots] at X21 l21 y21 z21 st21 hQ21
  subst l21 y21 z21
  obtain ⟨rfl, rfl, e21⟩ := hQ21
  try rw [List.append_nil] at X21
  obtain ⟨cq22, kq22, q22a, q22b, q22c⟩ := isOf hZ e21 (own_imE I15q)
  obtain ⟨_, _, ⟨T22, L22, k22, n22⟩, -, X22, ⟨Lc22, hQ22, l22, y22, z22⟩, st22⟩ := X21.virtualBack hx (y := (⟨"com/example/mastiff/mastiff/IntMap", "get", "(I)I"⟩ : MethodName)) (z := (⟨"com/example/mastiff/mastiff/IntMap", "get", "(I)I"⟩ : MethodName)) hown (mvT hZ (hw _ (List.mem_of_getElem? (i := 22) rfl))) (mvT hZ (hw _ (List.mem_of_getElem? (i := 23) rfl))) (notFace_of_selects (args := #[]) (mvT hZ (hw _ (List.mem_of_getElem? (i := 25) rfl)))) (mvT hZ (hw _ (List.mem_of_getElem? (i := 25) rfl))) (mvT hZ (hw _ (List.mem_of_getElem? (i := 24) rfl))) (by decide) (backOf (W := 0) (rm5 l Z a0 hw [] b10 (gq p4) (ins (ins (ins (fun _ => none) (k1 q0) (v1 q1)) (gk2 q0 p5) (v2 q1)) (gk3b q0 p2 p5) (v3 p3)) q15 T15.heap n0 Z15q I15q (own_nn _)) hZ (hw _ (List.mem_of_getElem? (i := 26) rfl)) (hw _ (List.mem_of_getElem? (i := 3) rfl)) (by decide) (by decide)) q22a q22c (g := (mkF m 248 #[.val (.long q0), .second, .val (.long q1), .second, .val (.int p2), .val (.int p3), .val (.int p4), .val (.int p5), .val (.int (k1 q0)), .val (.int (gk2 q0 p5)), .val (.int (gk3b q0 p2 p5)), .val (.int (v1 q1)), .val (.int (v2 q1)), .val (.int (v3 p3)), .val (.int (gq p4)), .val (.ref b10), .val (.int (1 : Int32)), .val (.int (1 : Int32)), .val (.int (1 : Int32)), .val (.int (1 : Int32)), .unset] [(.int (gq p4)), (.ref b10)])) rfl (by rw [hml]; rfl) (Steps.refl _) (argsL := [(.int (gq p4))]) (rest := []) (lenOf pd_1 rfl) rfl (by show 2 * 0 + _ ≤ _; exact Nat.le_of_eq rfl) (hb hby at_248) (fun _ _ => ⟨rfl, e21, (by decide : 9 + 0 ≤ _), (by decide : 63 + 0 ≤ _)⟩)
  dsimp only [Pt.U, Pt.locs, Pt.cells, Pt.slots] at X22 l22 y22 z22 st22 hQ22
  subst l22 y22 z22
  obtain ⟨rfl, rfl, e22⟩ := hQ22
  try rw [List.append_nil] at X22
  obtain ⟨_, _, ⟨T23, L23, k23, n23⟩, -, X23, ⟨Lc23, hQ23, l23, y23, z23⟩, st23⟩ := Jvm.LawKit.callS X22 hx (y := (⟨"com/example/mastiff/mastiff/IntMapGetPinLaw", "expected", "(IIIIIII)I"⟩ : MethodName)) hown (mvT hZ (hw _ (List.mem_of_getElem? (i := 47) rfl))) (mvT hZ (hw _ (List.mem_of_getElem? (i := 48) rfl))) (mvT hZ (hw _ (List.mem_of_getElem? (i := 49) rfl))) (mvT hZ (hw _ (List.mem_of_getElem? (i := 50) rfl))) (by decide) (backOf (W := 1) (rm10 l Z a0 hw [] (gq p4) (k1 q0) (v1 q1) (gk2 q0 p5) (v2 q1) (gk3b q0 p2 p5) (v3 p3)  T15.heap ) hZ (hw _ (List.mem_of_getElem? (i := 50) rfl)) (hw _ (List.mem_of_getElem? (i := 49) rfl)) (by decide) (by decide)) (g := (mkF m 265 #[.val (.long q0), .second, .val (.long q1), .second, .val (.int p2), .val (.int p3), .val (.int p4), .val (.int p5), .val (.int (k1 q0)), .val (.int (gk2 q0 p5)), .val (.int (gk3b q0 p2 p5)), .val (.int (v1 q1)), .val (.int (v2 q1)), .val (.int (v3 p3)), .val (.int (gq p4)), .val (.ref b10), .val (.int (1 : Int32)), .val (.int (1 : Int32)), .val (.int (1 : Int32)), .val (.int (1 : Int32)), .unset] [(.int (v3 p3)), (.int (gk3b q0 p2 p5)), (.int (v2 q1)), (.int (gk2 q0 p5)), (.int (v1 q1)), (.int (k1 q0)), (.int (gq p4)), (.int (gvalM (ins (ins (ins (fun _ => none) (k1 q0) (v1 q1)) (gk2 q0 p5) (v2 q1)) (gk3b q0 p2 p5) (v3 p3)) (gq p4)))])) rfl (by rw [hml]; rfl) (argsL := [(.int (gq p4)), (.int (k1 q0)), (.int (v1 q1)), (.int (gk2 q0 p5)), (.int (v2 q1)), (.int (gk3b q0 p2 p5)), (.int (v3 p3))]) (rest := [(.int (gvalM (ins (ins (ins (fun _ => none) (k1 q0) (v1 q1)) (gk2 q0 p5) (v2 q1)) (gk3b q0 p2 p5) (v3 p3)) (gq p4)))]) (lenOf pd_6 rfl) rfl (by show 2 * 0 + _ ≤ _; exact Nat.le_of_eq rfl) (hb hby at_265) (fun _ _ => ⟨rfl, e22, (by decide : 9 + 0 ≤ _), (by decide : 63 + 0 ≤ _)⟩)
  dsimp only [Pt.U, Pt.locs, Pt.cells, Pt.slots] at X23 l23 y23 z23 st23 hQ23
  subst l23 y23 z23
  obtain ⟨rfl, rfl, e23⟩ := hQ23
  try rw [List.append_nil] at X23
  have K24 : ∀ t, Steps p.tables e below (T23.setTop (mkF m 308 #[.val (.long q0), .second, .val (.long q1), .second, .val (.int p2), .val (.int p3), .val (.int p4), .val (.int p5), .val (.int (k1 q0)), .val (.int (gk2 q0 p5)), .val (.int (gk3b q0 p2 p5)), .val (.int (v1 q1)), .val (.int (v2 q1)), .val (.int (v3 p3)), .val (.int (gq p4)), .val (.ref b10), .val (.int (1 : Int32)), .val (.int (1 : Int32)), .val (.int (1 : Int32)), .val (.int (1 : Int32)), .val (.int (1 : Int32))] [(.int (1 : Int32))])) t → Steps p.tables e below (s₁.setTop (mkF m 0 #[.val (.long q0), .second, .val (.long q1), .second, .val (.int p2), .val (.int p3), .val (.int p4), .val (.int p5), .unset, .unset, .unset, .unset, .unset, .unset, .unset, .unset, .unset, .unset, .unset, .unset, .unset] [])) t := by
    intro t kt
    refine K9 _ ?_
    show Steps p.tables e below (s₁.setTop (mkF m 57 #[.val (.long q0), .second, .val (.long q1), .second, .val (.int p2), .val (.int p3), .val (.int p4), .val (.int p5), .val (.int (k1 q0)), .val (.int (gk2 q0 p5)), .val (.int (gk3b q0 p2 p5)), .unset, .unset, .unset, .unset, .unset, .unset, .unset, .unset, .unset, .unset] [])) _
    refine XS.lloadN X0.here hx rfl (hb hby at_57) rfl ?_
    show Steps p.tables e below (s₁.setTop (mkF m 58 #[.val (.long q0), .second, .val (.long q1), .second, .val (.int p2), .val (.int p3), .val (.int p4), .val (.int p5), .val (.int (k1 q0)), .val (.int (gk2 q0 p5)), .val (.int (gk3b q0 p2 p5)), .unset, .unset, .unset, .unset, .unset, .unset, .unset, .unset, .unset, .unset] [(.long q1)])) _
    refine XS.l2i X0.here hx rfl (hb hby at_58) rfl ?_
    show Steps p.tables e below (s₁.setTop (mkF m 59 #[.val (.long q0), .second, .val (.long q1), .second, .val (.int p2), .val (.int p3), .val (.int p4), .val (.int p5), .val (.int (k1 q0)), .val (.int (gk2 q0 p5)), .val (.int (gk3b q0 p2 p5)), .unset, .unset, .unset, .unset, .unset, .unset, .unset, .unset, .unset, .unset] [(.int (q1.toInt32))])) _
    refine X0.ldcInt hx hown (mvT hZ (hw _ (List.mem_of_getElem? (i := 0) rfl))) (g := (mkF m 59 #[.val (.long q0), .second, .val (.long q1), .second, .val (.int p2), .val (.int p3), .val (.int p4), .val (.int p5), .val (.int (k1 q0)), .val (.int (gk2 q0 p5)), .val (.int (gk3b q0 p2 p5)), .unset, .unset, .unset, .unset, .unset, .unset, .unset, .unset, .unset, .unset] [(.int (q1.toInt32))])) rfl (hb hby at_59) _ ?_
    show Steps p.tables e below (s₁.setTop (mkF m 61 #[.val (.long q0), .second, .val (.long q1), .second, .val (.int p2), .val (.int p3), .val (.int p4), .val (.int p5), .val (.int (k1 q0)), .val (.int (gk2 q0 p5)), .val (.int (gk3b q0 p2 p5)), .unset, .unset, .unset, .unset, .unset, .unset, .unset, .unset, .unset, .unset] [(.int (2147483647 : Int32)), (.int (q1.toInt32))])) _
    refine XS.iand X0.here hx rfl (hb hby at_61) rfl ?_
    show Steps p.tables e below (s₁.setTop (mkF m 62 #[.val (.long q0), .second, .val (.long q1), .second, .val (.int p2), .val (.int p3), .val (.int p4), .val (.int p5), .val (.int (k1 q0)), .val (.int (gk2 q0 p5)), .val (.int (gk3b q0 p2 p5)), .unset, .unset, .unset, .unset, .unset, .unset, .unset, .unset, .unset, .unset] [(.int ((q1.toInt32) &&& (2147483647 : Int32)))])) _
    refine XS.istore X0.here hx rfl (hb hby at_62) rfl (l' := #[.val (.long q0), .second, .val (.long q1), .second, .val (.int p2), .val (.int p3), .val (.int p4), .val (.int p5), .val (.int (k1 q0)), .val (.int (gk2 q0 p5)), .val (.int (gk3b q0 p2 p5)), .val (.int (v1 q1)), .unset, .unset, .unset, .unset, .unset, .unset, .unset, .unset, .unset]) rfl ?_
    show Steps p.tables e below (s₁.setTop (mkF m 64 #[.val (.long q0), .second, .val (.long q1), .second, .val (.int p2), .val (.int p3), .val (.int p4), .val (.int p5), .val (.int (k1 q0)), .val (.int (gk2 q0 p5)), .val (.int (gk3b q0 p2 p5)), .val (.int (v1 q1)), .unset, .unset, .unset, .unset, .unset, .unset, .unset, .unset, .unset] [])) _
    refine XS.lloadN X0.here hx rfl (hb hby at_64) rfl ?_
    show Steps p.tables e below (s₁.setTop (mkF m 65 #[.val (.long q0), .second, .val (.long q1), .second, .val (.int p2), .val (.int p3), .val (.int p4), .val (.int p5), .val (.int (k1 q0)), .val (.int (gk2 q0 p5)), .val (.int (gk3b q0 p2 p5)), .val (.int (v1 q1)), .unset, .unset, .unset, .unset, .unset, .unset, .unset, .unset, .unset] [(.long q1)])) _
    refine XS.bipush X0.here hx rfl (hb hby at_65) ?_
    show Steps p.tables e below (s₁.setTop (mkF m 67 #[.val (.long q0), .second, .val (.long q1), .second, .val (.int p2), .val (.int p3), .val (.int p4), .val (.int p5), .val (.int (k1 q0)), .val (.int (gk2 q0 p5)), .val (.int (gk3b q0 p2 p5)), .val (.int (v1 q1)), .unset, .unset, .unset, .unset, .unset, .unset, .unset, .unset, .unset] [(.int (32 : Int32)), (.long q1)])) _
    refine XS.lushr X0.here hx rfl (hb hby at_67) rfl ?_
    show Steps p.tables e below (s₁.setTop (mkF m 68 #[.val (.long q0), .second, .val (.long q1), .second, .val (.int p2), .val (.int p3), .val (.int p4), .val (.int p5), .val (.int (k1 q0)), .val (.int (gk2 q0 p5)), .val (.int (gk3b q0 p2 p5)), .val (.int (v1 q1)), .unset, .unset, .unset, .unset, .unset, .unset, .unset, .unset, .unset] [(.long ((q1.toUInt64 >>> ((32 : Int32) &&& 0x3f).toInt64.toUInt64).toInt64))])) _
    refine XS.l2i X0.here hx rfl (hb hby at_68) rfl ?_
    show Steps p.tables e below (s₁.setTop (mkF m 69 #[.val (.long q0), .second, .val (.long q1), .second, .val (.int p2), .val (.int p3), .val (.int p4), .val (.int p5), .val (.int (k1 q0)), .val (.int (gk2 q0 p5)), .val (.int (gk3b q0 p2 p5)), .val (.int (v1 q1)), .unset, .unset, .unset, .unset, .unset, .unset, .unset, .unset, .unset] [(.int (((q1.toUInt64 >>> ((32 : Int32) &&& 0x3f).toInt64.toUInt64).toInt64).toInt32))])) _
    refine X0.ldcInt hx hown (mvT hZ (hw _ (List.mem_of_getElem? (i := 0) rfl))) (g := (mkF m 69 #[.val (.long q0), .second, .val (.long q1), .second, .val (.int p2), .val (.int p3), .val (.int p4), .val (.int p5), .val (.int (k1 q0)), .val (.int (gk2 q0 p5)), .val (.int (gk3b q0 p2 p5)), .val (.int (v1 q1)), .unset, .unset, .unset, .unset, .unset, .unset, .unset, .unset, .unset] [(.int (((q1.toUInt64 >>> ((32 : Int32) &&& 0x3f).toInt64.toUInt64).toInt64).toInt32))])) rfl (hb hby at_69) _ ?_
    show Steps p.tables e below (s₁.setTop (mkF m 71 #[.val (.long q0), .second, .val (.long q1), .second, .val (.int p2), .val (.int p3), .val (.int p4), .val (.int p5), .val (.int (k1 q0)), .val (.int (gk2 q0 p5)), .val (.int (gk3b q0 p2 p5)), .val (.int (v1 q1)), .unset, .unset, .unset, .unset, .unset, .unset, .unset, .unset, .unset] [(.int (2147483647 : Int32)), (.int (((q1.toUInt64 >>> ((32 : Int32) &&& 0x3f).toInt64.toUInt64).toInt64).toInt32))])) _
    refine XS.iand X0.here hx rfl (hb hby at_71) rfl ?_
    show Steps p.tables e below (s₁.setTop (mkF m 72 #[.val (.long q0), .second, .val (.long q1), .second, .val (.int p2), .val (.int p3), .val (.int p4), .val (.int p5), .val (.int (k1 q0)), .val (.int (gk2 q0 p5)), .val (.int (gk3b q0 p2 p5)), .val (.int (v1 q1)), .unset, .unset, .unset, .unset, .unset, .unset, .unset, .unset, .unset] [(.int ((((q1.toUInt64 >>> ((32 : Int32) &&& 0x3f).toInt64.toUInt64).toInt64).toInt32) &&& (2147483647 : Int32)))])) _
    refine XS.istore X0.here hx rfl (hb hby at_72) rfl (l' := #[.val (.long q0), .second, .val (.long q1), .second, .val (.int p2), .val (.int p3), .val (.int p4), .val (.int p5), .val (.int (k1 q0)), .val (.int (gk2 q0 p5)), .val (.int (gk3b q0 p2 p5)), .val (.int (v1 q1)), .val (.int (v2 q1)), .unset, .unset, .unset, .unset, .unset, .unset, .unset, .unset]) rfl ?_
    show Steps p.tables e below (s₁.setTop (mkF m 74 #[.val (.long q0), .second, .val (.long q1), .second, .val (.int p2), .val (.int p3), .val (.int p4), .val (.int p5), .val (.int (k1 q0)), .val (.int (gk2 q0 p5)), .val (.int (gk3b q0 p2 p5)), .val (.int (v1 q1)), .val (.int (v2 q1)), .unset, .unset, .unset, .unset, .unset, .unset, .unset, .unset] [])) _
    refine XS.iload X0.here hx rfl (hb hby at_74) rfl ?_
    show Steps p.tables e below (s₁.setTop (mkF m 76 #[.val (.long q0), .second, .val (.long q1), .second, .val (.int p2), .val (.int p3), .val (.int p4), .val (.int p5), .val (.int (k1 q0)), .val (.int (gk2 q0 p5)), .val (.int (gk3b q0 p2 p5)), .val (.int (v1 q1)), .val (.int (v2 q1)), .unset, .unset, .unset, .unset, .unset, .unset, .unset, .unset] [(.int p3)])) _
    refine X0.ldcInt hx hown (mvT hZ (hw _ (List.mem_of_getElem? (i := 0) rfl))) (g := (mkF m 76 #[.val (.long q0), .second, .val (.long q1), .second, .val (.int p2), .val (.int p3), .val (.int p4), .val (.int p5), .val (.int (k1 q0)), .val (.int (gk2 q0 p5)), .val (.int (gk3b q0 p2 p5)), .val (.int (v1 q1)), .val (.int (v2 q1)), .unset, .unset, .unset, .unset, .unset, .unset, .unset, .unset] [(.int p3)])) rfl (hb hby at_76) _ ?_
    show Steps p.tables e below (s₁.setTop (mkF m 78 #[.val (.long q0), .second, .val (.long q1), .second, .val (.int p2), .val (.int p3), .val (.int p4), .val (.int p5), .val (.int (k1 q0)), .val (.int (gk2 q0 p5)), .val (.int (gk3b q0 p2 p5)), .val (.int (v1 q1)), .val (.int (v2 q1)), .unset, .unset, .unset, .unset, .unset, .unset, .unset, .unset] [(.int (2147483647 : Int32)), (.int p3)])) _
    refine XS.iand X0.here hx rfl (hb hby at_78) rfl ?_
    show Steps p.tables e below (s₁.setTop (mkF m 79 #[.val (.long q0), .second, .val (.long q1), .second, .val (.int p2), .val (.int p3), .val (.int p4), .val (.int p5), .val (.int (k1 q0)), .val (.int (gk2 q0 p5)), .val (.int (gk3b q0 p2 p5)), .val (.int (v1 q1)), .val (.int (v2 q1)), .unset, .unset, .unset, .unset, .unset, .unset, .unset, .unset] [(.int (p3 &&& (2147483647 : Int32)))])) _
    refine XS.istore X0.here hx rfl (hb hby at_79) rfl (l' := #[.val (.long q0), .second, .val (.long q1), .second, .val (.int p2), .val (.int p3), .val (.int p4), .val (.int p5), .val (.int (k1 q0)), .val (.int (gk2 q0 p5)), .val (.int (gk3b q0 p2 p5)), .val (.int (v1 q1)), .val (.int (v2 q1)), .val (.int (v3 p3)), .unset, .unset, .unset, .unset, .unset, .unset, .unset]) rfl ?_
    show Steps p.tables e below (s₁.setTop (mkF m 81 #[.val (.long q0), .second, .val (.long q1), .second, .val (.int p2), .val (.int p3), .val (.int p4), .val (.int p5), .val (.int (k1 q0)), .val (.int (gk2 q0 p5)), .val (.int (gk3b q0 p2 p5)), .val (.int (v1 q1)), .val (.int (v2 q1)), .val (.int (v3 p3)), .unset, .unset, .unset, .unset, .unset, .unset, .unset] [])) _
    refine XS.iload X0.here hx rfl (hb hby at_81) rfl ?_
    show Steps p.tables e below (s₁.setTop (mkF m 83 #[.val (.long q0), .second, .val (.long q1), .second, .val (.int p2), .val (.int p3), .val (.int p4), .val (.int p5), .val (.int (k1 q0)), .val (.int (gk2 q0 p5)), .val (.int (gk3b q0 p2 p5)), .val (.int (v1 q1)), .val (.int (v2 q1)), .val (.int (v3 p3)), .unset, .unset, .unset, .unset, .unset, .unset, .unset] [(.int p4)])) _
    refine X0.ldcInt hx hown (mvT hZ (hw _ (List.mem_of_getElem? (i := 0) rfl))) (g := (mkF m 83 #[.val (.long q0), .second, .val (.long q1), .second, .val (.int p2), .val (.int p3), .val (.int p4), .val (.int p5), .val (.int (k1 q0)), .val (.int (gk2 q0 p5)), .val (.int (gk3b q0 p2 p5)), .val (.int (v1 q1)), .val (.int (v2 q1)), .val (.int (v3 p3)), .unset, .unset, .unset, .unset, .unset, .unset, .unset] [(.int p4)])) rfl (hb hby at_83) _ ?_
    show Steps p.tables e below (s₁.setTop (mkF m 85 #[.val (.long q0), .second, .val (.long q1), .second, .val (.int p2), .val (.int p3), .val (.int p4), .val (.int p5), .val (.int (k1 q0)), .val (.int (gk2 q0 p5)), .val (.int (gk3b q0 p2 p5)), .val (.int (v1 q1)), .val (.int (v2 q1)), .val (.int (v3 p3)), .unset, .unset, .unset, .unset, .unset, .unset, .unset] [(.int (2147483647 : Int32)), (.int p4)])) _
    refine XS.iand X0.here hx rfl (hb hby at_85) rfl ?_
    show Steps p.tables e below (s₁.setTop (mkF m 86 #[.val (.long q0), .second, .val (.long q1), .second, .val (.int p2), .val (.int p3), .val (.int p4), .val (.int p5), .val (.int (k1 q0)), .val (.int (gk2 q0 p5)), .val (.int (gk3b q0 p2 p5)), .val (.int (v1 q1)), .val (.int (v2 q1)), .val (.int (v3 p3)), .unset, .unset, .unset, .unset, .unset, .unset, .unset] [(.int (p4 &&& (2147483647 : Int32)))])) _
    refine XS.istore X0.here hx rfl (hb hby at_86) rfl (l' := #[.val (.long q0), .second, .val (.long q1), .second, .val (.int p2), .val (.int p3), .val (.int p4), .val (.int p5), .val (.int (k1 q0)), .val (.int (gk2 q0 p5)), .val (.int (gk3b q0 p2 p5)), .val (.int (v1 q1)), .val (.int (v2 q1)), .val (.int (v3 p3)), .val (.int (gq p4)), .unset, .unset, .unset, .unset, .unset, .unset]) rfl ?_
    show Steps p.tables e below (s₁.setTop (mkF m 88 #[.val (.long q0), .second, .val (.long q1), .second, .val (.int p2), .val (.int p3), .val (.int p4), .val (.int p5), .val (.int (k1 q0)), .val (.int (gk2 q0 p5)), .val (.int (gk3b q0 p2 p5)), .val (.int (v1 q1)), .val (.int (v2 q1)), .val (.int (v3 p3)), .val (.int (gq p4)), .unset, .unset, .unset, .unset, .unset, .unset] [])) _
    refine st10 _ ?_
    show Steps p.tables e below (T10.setTop (mkF m 91 #[.val (.long q0), .second, .val (.long q1), .second, .val (.int p2), .val (.int p3), .val (.int p4), .val (.int p5), .val (.int (k1 q0)), .val (.int (gk2 q0 p5)), .val (.int (gk3b q0 p2 p5)), .val (.int (v1 q1)), .val (.int (v2 q1)), .val (.int (v3 p3)), .val (.int (gq p4)), .unset, .unset, .unset, .unset, .unset, .unset] [(.ref b10)])) _
    refine XS.dup X10.here hx rfl (hb hby at_91) rfl rfl ?_
    show Steps p.tables e below (T10.setTop (mkF m 92 #[.val (.long q0), .second, .val (.long q1), .second, .val (.int p2), .val (.int p3), .val (.int p4), .val (.int p5), .val (.int (k1 q0)), .val (.int (gk2 q0 p5)), .val (.int (gk3b q0 p2 p5)), .val (.int (v1 q1)), .val (.int (v2 q1)), .val (.int (v3 p3)), .val (.int (gq p4)), .unset, .unset, .unset, .unset, .unset, .unset] [(.ref b10), (.ref b10)])) _
    refine st11.trans ?_
    show Steps p.tables e below (T11.setTop (mkF m 95 #[.val (.long q0), .second, .val (.long q1), .second, .val (.int p2), .val (.int p3), .val (.int p4), .val (.int p5), .val (.int (k1 q0)), .val (.int (gk2 q0 p5)), .val (.int (gk3b q0 p2 p5)), .val (.int (v1 q1)), .val (.int (v2 q1)), .val (.int (v3 p3)), .val (.int (gq p4)), .unset, .unset, .unset, .unset, .unset, .unset] [(.ref b10)])) _
    refine XS.astore X11.here hx rfl (hb hby at_95) rfl rfl (l' := #[.val (.long q0), .second, .val (.long q1), .second, .val (.int p2), .val (.int p3), .val (.int p4), .val (.int p5), .val (.int (k1 q0)), .val (.int (gk2 q0 p5)), .val (.int (gk3b q0 p2 p5)), .val (.int (v1 q1)), .val (.int (v2 q1)), .val (.int (v3 p3)), .val (.int (gq p4)), .val (.ref b10), .unset, .unset, .unset, .unset, .unset]) rfl ?_
    show Steps p.tables e below (T11.setTop (mkF m 97 #[.val (.long q0), .second, .val (.long q1), .second, .val (.int p2), .val (.int p3), .val (.int p4), .val (.int p5), .val (.int (k1 q0)), .val (.int (gk2 q0 p5)), .val (.int (gk3b q0 p2 p5)), .val (.int (v1 q1)), .val (.int (v2 q1)), .val (.int (v3 p3)), .val (.int (gq p4)), .val (.ref b10), .unset, .unset, .unset, .unset, .unset] [])) _
    refine XS.aload X11.here hx rfl (hb hby at_97) rfl rfl ?_
    show Steps p.tables e below (T11.setTop (mkF m 99 #[.val (.long q0), .second, .val (.long q1), .second, .val (.int p2), .val (.int p3), .val (.int p4), .val (.int p5), .val (.int (k1 q0)), .val (.int (gk2 q0 p5)), .val (.int (gk3b q0 p2 p5)), .val (.int (v1 q1)), .val (.int (v2 q1)), .val (.int (v3 p3)), .val (.int (gq p4)), .val (.ref b10), .unset, .unset, .unset, .unset, .unset] [(.ref b10)])) _
    refine XS.iload X11.here hx rfl (hb hby at_99) rfl ?_
    show Steps p.tables e below (T11.setTop (mkF m 101 #[.val (.long q0), .second, .val (.long q1), .second, .val (.int p2), .val (.int p3), .val (.int p4), .val (.int p5), .val (.int (k1 q0)), .val (.int (gk2 q0 p5)), .val (.int (gk3b q0 p2 p5)), .val (.int (v1 q1)), .val (.int (v2 q1)), .val (.int (v3 p3)), .val (.int (gq p4)), .val (.ref b10), .unset, .unset, .unset, .unset, .unset] [(.int (gq p4)), (.ref b10)])) _
    refine st12.trans ?_
    show Steps p.tables e below (T12.setTop (mkF m 104 #[.val (.long q0), .second, .val (.long q1), .second, .val (.int p2), .val (.int p3), .val (.int p4), .val (.int p5), .val (.int (k1 q0)), .val (.int (gk2 q0 p5)), .val (.int (gk3b q0 p2 p5)), .val (.int (v1 q1)), .val (.int (v2 q1)), .val (.int (v3 p3)), .val (.int (gq p4)), .val (.ref b10), .unset, .unset, .unset, .unset, .unset] [(.int (gvalM (fun _ => none) (gq p4)))])) _
    refine XS.iconst X12.here hx rfl (hb hby at_104) ?_
    show Steps p.tables e below (T12.setTop (mkF m 105 #[.val (.long q0), .second, .val (.long q1), .second, .val (.int p2), .val (.int p3), .val (.int p4), .val (.int p5), .val (.int (k1 q0)), .val (.int (gk2 q0 p5)), .val (.int (gk3b q0 p2 p5)), .val (.int (v1 q1)), .val (.int (v2 q1)), .val (.int (v3 p3)), .val (.int (gq p4)), .val (.ref b10), .unset, .unset, .unset, .unset, .unset] [(.int (-1 : Int32)), (.int (gvalM (fun _ => none) (gq p4)))])) _
    refine XS.icmpNo X12.here hx rfl (hb hby at_105) rfl (teq (show (gvalM (fun _ => none) (gq p4)) = (-1 : Int32) from rfl)).2 ?_
    show Steps p.tables e below (T12.setTop (mkF m 108 #[.val (.long q0), .second, .val (.long q1), .second, .val (.int p2), .val (.int p3), .val (.int p4), .val (.int p5), .val (.int (k1 q0)), .val (.int (gk2 q0 p5)), .val (.int (gk3b q0 p2 p5)), .val (.int (v1 q1)), .val (.int (v2 q1)), .val (.int (v3 p3)), .val (.int (gq p4)), .val (.ref b10), .unset, .unset, .unset, .unset, .unset] [])) _
    refine XS.iconst X12.here hx rfl (hb hby at_108) ?_
    show Steps p.tables e below (T12.setTop (mkF m 109 #[.val (.long q0), .second, .val (.long q1), .second, .val (.int p2), .val (.int p3), .val (.int p4), .val (.int p5), .val (.int (k1 q0)), .val (.int (gk2 q0 p5)), .val (.int (gk3b q0 p2 p5)), .val (.int (v1 q1)), .val (.int (v2 q1)), .val (.int (v3 p3)), .val (.int (gq p4)), .val (.ref b10), .unset, .unset, .unset, .unset, .unset] [(.int (1 : Int32))])) _
    refine XS.goto X12.here hx rfl (pc0 := 109) (pc' := 113) rfl (hb hby at_109) (by decide) (by decide) ?_
    show Steps p.tables e below (T12.setTop (mkF m 113 #[.val (.long q0), .second, .val (.long q1), .second, .val (.int p2), .val (.int p3), .val (.int p4), .val (.int p5), .val (.int (k1 q0)), .val (.int (gk2 q0 p5)), .val (.int (gk3b q0 p2 p5)), .val (.int (v1 q1)), .val (.int (v2 q1)), .val (.int (v3 p3)), .val (.int (gq p4)), .val (.ref b10), .unset, .unset, .unset, .unset, .unset] [(.int (1 : Int32))])) _
    refine XS.istore X12.here hx rfl (hb hby at_113) rfl (l' := #[.val (.long q0), .second, .val (.long q1), .second, .val (.int p2), .val (.int p3), .val (.int p4), .val (.int p5), .val (.int (k1 q0)), .val (.int (gk2 q0 p5)), .val (.int (gk3b q0 p2 p5)), .val (.int (v1 q1)), .val (.int (v2 q1)), .val (.int (v3 p3)), .val (.int (gq p4)), .val (.ref b10), .val (.int (1 : Int32)), .unset, .unset, .unset, .unset]) rfl ?_
    show Steps p.tables e below (T12.setTop (mkF m 115 #[.val (.long q0), .second, .val (.long q1), .second, .val (.int p2), .val (.int p3), .val (.int p4), .val (.int p5), .val (.int (k1 q0)), .val (.int (gk2 q0 p5)), .val (.int (gk3b q0 p2 p5)), .val (.int (v1 q1)), .val (.int (v2 q1)), .val (.int (v3 p3)), .val (.int (gq p4)), .val (.ref b10), .val (.int (1 : Int32)), .unset, .unset, .unset, .unset] [])) _
    refine XS.aload X12.here hx rfl (hb hby at_115) rfl rfl ?_
    show Steps p.tables e below (T12.setTop (mkF m 117 #[.val (.long q0), .second, .val (.long q1), .second, .val (.int p2), .val (.int p3), .val (.int p4), .val (.int p5), .val (.int (k1 q0)), .val (.int (gk2 q0 p5)), .val (.int (gk3b q0 p2 p5)), .val (.int (v1 q1)), .val (.int (v2 q1)), .val (.int (v3 p3)), .val (.int (gq p4)), .val (.ref b10), .val (.int (1 : Int32)), .unset, .unset, .unset, .unset] [(.ref b10)])) _
    refine XS.iload X12.here hx rfl (hb hby at_117) rfl ?_
    show Steps p.tables e below (T12.setTop (mkF m 119 #[.val (.long q0), .second, .val (.long q1), .second, .val (.int p2), .val (.int p3), .val (.int p4), .val (.int p5), .val (.int (k1 q0)), .val (.int (gk2 q0 p5)), .val (.int (gk3b q0 p2 p5)), .val (.int (v1 q1)), .val (.int (v2 q1)), .val (.int (v3 p3)), .val (.int (gq p4)), .val (.ref b10), .val (.int (1 : Int32)), .unset, .unset, .unset, .unset] [(.int (k1 q0)), (.ref b10)])) _
    refine XS.iload X12.here hx rfl (hb hby at_119) rfl ?_
    show Steps p.tables e below (T12.setTop (mkF m 121 #[.val (.long q0), .second, .val (.long q1), .second, .val (.int p2), .val (.int p3), .val (.int p4), .val (.int p5), .val (.int (k1 q0)), .val (.int (gk2 q0 p5)), .val (.int (gk3b q0 p2 p5)), .val (.int (v1 q1)), .val (.int (v2 q1)), .val (.int (v3 p3)), .val (.int (gq p4)), .val (.ref b10), .val (.int (1 : Int32)), .unset, .unset, .unset, .unset] [(.int (v1 q1)), (.int (k1 q0)), (.ref b10)])) _
    refine st13.trans ?_
    show Steps p.tables e below (T13.setTop (mkF m 124 #[.val (.long q0), .second, .val (.long q1), .second, .val (.int p2), .val (.int p3), .val (.int p4), .val (.int p5), .val (.int (k1 q0)), .val (.int (gk2 q0 p5)), .val (.int (gk3b q0 p2 p5)), .val (.int (v1 q1)), .val (.int (v2 q1)), .val (.int (v3 p3)), .val (.int (gq p4)), .val (.ref b10), .val (.int (1 : Int32)), .unset, .unset, .unset, .unset] [])) _
    refine XS.aload X13.here hx rfl (hb hby at_124) rfl rfl ?_
    show Steps p.tables e below (T13.setTop (mkF m 126 #[.val (.long q0), .second, .val (.long q1), .second, .val (.int p2), .val (.int p3), .val (.int p4), .val (.int p5), .val (.int (k1 q0)), .val (.int (gk2 q0 p5)), .val (.int (gk3b q0 p2 p5)), .val (.int (v1 q1)), .val (.int (v2 q1)), .val (.int (v3 p3)), .val (.int (gq p4)), .val (.ref b10), .val (.int (1 : Int32)), .unset, .unset, .unset, .unset] [(.ref b10)])) _
    refine XS.iload X13.here hx rfl (hb hby at_126) rfl ?_
    show Steps p.tables e below (T13.setTop (mkF m 128 #[.val (.long q0), .second, .val (.long q1), .second, .val (.int p2), .val (.int p3), .val (.int p4), .val (.int p5), .val (.int (k1 q0)), .val (.int (gk2 q0 p5)), .val (.int (gk3b q0 p2 p5)), .val (.int (v1 q1)), .val (.int (v2 q1)), .val (.int (v3 p3)), .val (.int (gq p4)), .val (.ref b10), .val (.int (1 : Int32)), .unset, .unset, .unset, .unset] [(.int (gk2 q0 p5)), (.ref b10)])) _
    refine XS.iload X13.here hx rfl (hb hby at_128) rfl ?_
    show Steps p.tables e below (T13.setTop (mkF m 130 #[.val (.long q0), .second, .val (.long q1), .second, .val (.int p2), .val (.int p3), .val (.int p4), .val (.int p5), .val (.int (k1 q0)), .val (.int (gk2 q0 p5)), .val (.int (gk3b q0 p2 p5)), .val (.int (v1 q1)), .val (.int (v2 q1)), .val (.int (v3 p3)), .val (.int (gq p4)), .val (.ref b10), .val (.int (1 : Int32)), .unset, .unset, .unset, .unset] [(.int (v2 q1)), (.int (gk2 q0 p5)), (.ref b10)])) _
    refine st14.trans ?_
    show Steps p.tables e below (T14.setTop (mkF m 133 #[.val (.long q0), .second, .val (.long q1), .second, .val (.int p2), .val (.int p3), .val (.int p4), .val (.int p5), .val (.int (k1 q0)), .val (.int (gk2 q0 p5)), .val (.int (gk3b q0 p2 p5)), .val (.int (v1 q1)), .val (.int (v2 q1)), .val (.int (v3 p3)), .val (.int (gq p4)), .val (.ref b10), .val (.int (1 : Int32)), .unset, .unset, .unset, .unset] [])) _
    refine XS.aload X14.here hx rfl (hb hby at_133) rfl rfl ?_
    show Steps p.tables e below (T14.setTop (mkF m 135 #[.val (.long q0), .second, .val (.long q1), .second, .val (.int p2), .val (.int p3), .val (.int p4), .val (.int p5), .val (.int (k1 q0)), .val (.int (gk2 q0 p5)), .val (.int (gk3b q0 p2 p5)), .val (.int (v1 q1)), .val (.int (v2 q1)), .val (.int (v3 p3)), .val (.int (gq p4)), .val (.ref b10), .val (.int (1 : Int32)), .unset, .unset, .unset, .unset] [(.ref b10)])) _
    refine XS.iload X14.here hx rfl (hb hby at_135) rfl ?_
    show Steps p.tables e below (T14.setTop (mkF m 137 #[.val (.long q0), .second, .val (.long q1), .second, .val (.int p2), .val (.int p3), .val (.int p4), .val (.int p5), .val (.int (k1 q0)), .val (.int (gk2 q0 p5)), .val (.int (gk3b q0 p2 p5)), .val (.int (v1 q1)), .val (.int (v2 q1)), .val (.int (v3 p3)), .val (.int (gq p4)), .val (.ref b10), .val (.int (1 : Int32)), .unset, .unset, .unset, .unset] [(.int (gk3b q0 p2 p5)), (.ref b10)])) _
    refine XS.iload X14.here hx rfl (hb hby at_137) rfl ?_
    show Steps p.tables e below (T14.setTop (mkF m 139 #[.val (.long q0), .second, .val (.long q1), .second, .val (.int p2), .val (.int p3), .val (.int p4), .val (.int p5), .val (.int (k1 q0)), .val (.int (gk2 q0 p5)), .val (.int (gk3b q0 p2 p5)), .val (.int (v1 q1)), .val (.int (v2 q1)), .val (.int (v3 p3)), .val (.int (gq p4)), .val (.ref b10), .val (.int (1 : Int32)), .unset, .unset, .unset, .unset] [(.int (v3 p3)), (.int (gk3b q0 p2 p5)), (.ref b10)])) _
    refine st15.trans ?_
    show Steps p.tables e below (T15.setTop (mkF m 142 #[.val (.long q0), .second, .val (.long q1), .second, .val (.int p2), .val (.int p3), .val (.int p4), .val (.int p5), .val (.int (k1 q0)), .val (.int (gk2 q0 p5)), .val (.int (gk3b q0 p2 p5)), .val (.int (v1 q1)), .val (.int (v2 q1)), .val (.int (v3 p3)), .val (.int (gq p4)), .val (.ref b10), .val (.int (1 : Int32)), .unset, .unset, .unset, .unset] [])) _
    refine XS.aload X15.here hx rfl (hb hby at_142) rfl rfl ?_
    show Steps p.tables e below (T15.setTop (mkF m 144 #[.val (.long q0), .second, .val (.long q1), .second, .val (.int p2), .val (.int p3), .val (.int p4), .val (.int p5), .val (.int (k1 q0)), .val (.int (gk2 q0 p5)), .val (.int (gk3b q0 p2 p5)), .val (.int (v1 q1)), .val (.int (v2 q1)), .val (.int (v3 p3)), .val (.int (gq p4)), .val (.ref b10), .val (.int (1 : Int32)), .unset, .unset, .unset, .unset] [(.ref b10)])) _
    refine XS.iload X15.here hx rfl (hb hby at_144) rfl ?_
    show Steps p.tables e below (T15.setTop (mkF m 146 #[.val (.long q0), .second, .val (.long q1), .second, .val (.int p2), .val (.int p3), .val (.int p4), .val (.int p5), .val (.int (k1 q0)), .val (.int (gk2 q0 p5)), .val (.int (gk3b q0 p2 p5)), .val (.int (v1 q1)), .val (.int (v2 q1)), .val (.int (v3 p3)), .val (.int (gq p4)), .val (.ref b10), .val (.int (1 : Int32)), .unset, .unset, .unset, .unset] [(.int (k1 q0)), (.ref b10)])) _
    refine st16.trans ?_
    show Steps p.tables e below (T16.setTop (mkF m 149 #[.val (.long q0), .second, .val (.long q1), .second, .val (.int p2), .val (.int p3), .val (.int p4), .val (.int p5), .val (.int (k1 q0)), .val (.int (gk2 q0 p5)), .val (.int (gk3b q0 p2 p5)), .val (.int (v1 q1)), .val (.int (v2 q1)), .val (.int (v3 p3)), .val (.int (gq p4)), .val (.ref b10), .val (.int (1 : Int32)), .unset, .unset, .unset, .unset] [(.int (gvalM (ins (ins (ins (fun _ => none) (k1 q0) (v1 q1)) (gk2 q0 p5) (v2 q1)) (gk3b q0 p2 p5) (v3 p3)) (k1 q0)))])) _
    refine XS.iload X16.here hx rfl (hb hby at_149) rfl ?_
    show Steps p.tables e below (T16.setTop (mkF m 151 #[.val (.long q0), .second, .val (.long q1), .second, .val (.int p2), .val (.int p3), .val (.int p4), .val (.int p5), .val (.int (k1 q0)), .val (.int (gk2 q0 p5)), .val (.int (gk3b q0 p2 p5)), .val (.int (v1 q1)), .val (.int (v2 q1)), .val (.int (v3 p3)), .val (.int (gq p4)), .val (.ref b10), .val (.int (1 : Int32)), .unset, .unset, .unset, .unset] [(.int (k1 q0)), (.int (gvalM (ins (ins (ins (fun _ => none) (k1 q0) (v1 q1)) (gk2 q0 p5) (v2 q1)) (gk3b q0 p2 p5) (v3 p3)) (k1 q0)))])) _
    refine XS.iload X16.here hx rfl (hb hby at_151) rfl ?_
    show Steps p.tables e below (T16.setTop (mkF m 153 #[.val (.long q0), .second, .val (.long q1), .second, .val (.int p2), .val (.int p3), .val (.int p4), .val (.int p5), .val (.int (k1 q0)), .val (.int (gk2 q0 p5)), .val (.int (gk3b q0 p2 p5)), .val (.int (v1 q1)), .val (.int (v2 q1)), .val (.int (v3 p3)), .val (.int (gq p4)), .val (.ref b10), .val (.int (1 : Int32)), .unset, .unset, .unset, .unset] [(.int (k1 q0)), (.int (k1 q0)), (.int (gvalM (ins (ins (ins (fun _ => none) (k1 q0) (v1 q1)) (gk2 q0 p5) (v2 q1)) (gk3b q0 p2 p5) (v3 p3)) (k1 q0)))])) _
    refine XS.iload X16.here hx rfl (hb hby at_153) rfl ?_
    show Steps p.tables e below (T16.setTop (mkF m 155 #[.val (.long q0), .second, .val (.long q1), .second, .val (.int p2), .val (.int p3), .val (.int p4), .val (.int p5), .val (.int (k1 q0)), .val (.int (gk2 q0 p5)), .val (.int (gk3b q0 p2 p5)), .val (.int (v1 q1)), .val (.int (v2 q1)), .val (.int (v3 p3)), .val (.int (gq p4)), .val (.ref b10), .val (.int (1 : Int32)), .unset, .unset, .unset, .unset] [(.int (v1 q1)), (.int (k1 q0)), (.int (k1 q0)), (.int (gvalM (ins (ins (ins (fun _ => none) (k1 q0) (v1 q1)) (gk2 q0 p5) (v2 q1)) (gk3b q0 p2 p5) (v3 p3)) (k1 q0)))])) _
    refine XS.iload X16.here hx rfl (hb hby at_155) rfl ?_
    show Steps p.tables e below (T16.setTop (mkF m 157 #[.val (.long q0), .second, .val (.long q1), .second, .val (.int p2), .val (.int p3), .val (.int p4), .val (.int p5), .val (.int (k1 q0)), .val (.int (gk2 q0 p5)), .val (.int (gk3b q0 p2 p5)), .val (.int (v1 q1)), .val (.int (v2 q1)), .val (.int (v3 p3)), .val (.int (gq p4)), .val (.ref b10), .val (.int (1 : Int32)), .unset, .unset, .unset, .unset] [(.int (gk2 q0 p5)), (.int (v1 q1)), (.int (k1 q0)), (.int (k1 q0)), (.int (gvalM (ins (ins (ins (fun _ => none) (k1 q0) (v1 q1)) (gk2 q0 p5) (v2 q1)) (gk3b q0 p2 p5) (v3 p3)) (k1 q0)))])) _
    refine XS.iload X16.here hx rfl (hb hby at_157) rfl ?_
    show Steps p.tables e below (T16.setTop (mkF m 159 #[.val (.long q0), .second, .val (.long q1), .second, .val (.int p2), .val (.int p3), .val (.int p4), .val (.int p5), .val (.int (k1 q0)), .val (.int (gk2 q0 p5)), .val (.int (gk3b q0 p2 p5)), .val (.int (v1 q1)), .val (.int (v2 q1)), .val (.int (v3 p3)), .val (.int (gq p4)), .val (.ref b10), .val (.int (1 : Int32)), .unset, .unset, .unset, .unset] [(.int (v2 q1)), (.int (gk2 q0 p5)), (.int (v1 q1)), (.int (k1 q0)), (.int (k1 q0)), (.int (gvalM (ins (ins (ins (fun _ => none) (k1 q0) (v1 q1)) (gk2 q0 p5) (v2 q1)) (gk3b q0 p2 p5) (v3 p3)) (k1 q0)))])) _
    refine XS.iload X16.here hx rfl (hb hby at_159) rfl ?_
    show Steps p.tables e below (T16.setTop (mkF m 161 #[.val (.long q0), .second, .val (.long q1), .second, .val (.int p2), .val (.int p3), .val (.int p4), .val (.int p5), .val (.int (k1 q0)), .val (.int (gk2 q0 p5)), .val (.int (gk3b q0 p2 p5)), .val (.int (v1 q1)), .val (.int (v2 q1)), .val (.int (v3 p3)), .val (.int (gq p4)), .val (.ref b10), .val (.int (1 : Int32)), .unset, .unset, .unset, .unset] [(.int (gk3b q0 p2 p5)), (.int (v2 q1)), (.int (gk2 q0 p5)), (.int (v1 q1)), (.int (k1 q0)), (.int (k1 q0)), (.int (gvalM (ins (ins (ins (fun _ => none) (k1 q0) (v1 q1)) (gk2 q0 p5) (v2 q1)) (gk3b q0 p2 p5) (v3 p3)) (k1 q0)))])) _
    refine XS.iload X16.here hx rfl (hb hby at_161) rfl ?_
    show Steps p.tables e below (T16.setTop (mkF m 163 #[.val (.long q0), .second, .val (.long q1), .second, .val (.int p2), .val (.int p3), .val (.int p4), .val (.int p5), .val (.int (k1 q0)), .val (.int (gk2 q0 p5)), .val (.int (gk3b q0 p2 p5)), .val (.int (v1 q1)), .val (.int (v2 q1)), .val (.int (v3 p3)), .val (.int (gq p4)), .val (.ref b10), .val (.int (1 : Int32)), .unset, .unset, .unset, .unset] [(.int (v3 p3)), (.int (gk3b q0 p2 p5)), (.int (v2 q1)), (.int (gk2 q0 p5)), (.int (v1 q1)), (.int (k1 q0)), (.int (k1 q0)), (.int (gvalM (ins (ins (ins (fun _ => none) (k1 q0) (v1 q1)) (gk2 q0 p5) (v2 q1)) (gk3b q0 p2 p5) (v3 p3)) (k1 q0)))])) _
    refine st17 _ ?_
    show Steps p.tables e below (T17.setTop (mkF m 166 #[.val (.long q0), .second, .val (.long q1), .second, .val (.int p2), .val (.int p3), .val (.int p4), .val (.int p5), .val (.int (k1 q0)), .val (.int (gk2 q0 p5)), .val (.int (gk3b q0 p2 p5)), .val (.int (v1 q1)), .val (.int (v2 q1)), .val (.int (v3 p3)), .val (.int (gq p4)), .val (.ref b10), .val (.int (1 : Int32)), .unset, .unset, .unset, .unset] [(.int (f10 (k1 q0) (k1 q0) (v1 q1) (gk2 q0 p5) (v2 q1) (gk3b q0 p2 p5) (v3 p3))), (.int (gvalM (ins (ins (ins (fun _ => none) (k1 q0) (v1 q1)) (gk2 q0 p5) (v2 q1)) (gk3b q0 p2 p5) (v3 p3)) (k1 q0)))])) _
    refine XS.icmpNo X17.here hx rfl (hb hby at_166) rfl (teq (show (gvalM (ins (ins (ins (fun _ => none) (k1 q0) (v1 q1)) (gk2 q0 p5) (v2 q1)) (gk3b q0 p2 p5) (v3 p3)) (k1 q0)) = (f10 (k1 q0) (k1 q0) (v1 q1) (gk2 q0 p5) (v2 q1) (gk3b q0 p2 p5) (v3 p3)) from (own_get _ _ _ _ _ _ _))).2 ?_
    show Steps p.tables e below (T17.setTop (mkF m 169 #[.val (.long q0), .second, .val (.long q1), .second, .val (.int p2), .val (.int p3), .val (.int p4), .val (.int p5), .val (.int (k1 q0)), .val (.int (gk2 q0 p5)), .val (.int (gk3b q0 p2 p5)), .val (.int (v1 q1)), .val (.int (v2 q1)), .val (.int (v3 p3)), .val (.int (gq p4)), .val (.ref b10), .val (.int (1 : Int32)), .unset, .unset, .unset, .unset] [])) _
    refine XS.iconst X17.here hx rfl (hb hby at_169) ?_
    show Steps p.tables e below (T17.setTop (mkF m 170 #[.val (.long q0), .second, .val (.long q1), .second, .val (.int p2), .val (.int p3), .val (.int p4), .val (.int p5), .val (.int (k1 q0)), .val (.int (gk2 q0 p5)), .val (.int (gk3b q0 p2 p5)), .val (.int (v1 q1)), .val (.int (v2 q1)), .val (.int (v3 p3)), .val (.int (gq p4)), .val (.ref b10), .val (.int (1 : Int32)), .unset, .unset, .unset, .unset] [(.int (1 : Int32))])) _
    refine XS.goto X17.here hx rfl (pc0 := 170) (pc' := 174) rfl (hb hby at_170) (by decide) (by decide) ?_
    show Steps p.tables e below (T17.setTop (mkF m 174 #[.val (.long q0), .second, .val (.long q1), .second, .val (.int p2), .val (.int p3), .val (.int p4), .val (.int p5), .val (.int (k1 q0)), .val (.int (gk2 q0 p5)), .val (.int (gk3b q0 p2 p5)), .val (.int (v1 q1)), .val (.int (v2 q1)), .val (.int (v3 p3)), .val (.int (gq p4)), .val (.ref b10), .val (.int (1 : Int32)), .unset, .unset, .unset, .unset] [(.int (1 : Int32))])) _
    refine XS.istore X17.here hx rfl (hb hby at_174) rfl (l' := #[.val (.long q0), .second, .val (.long q1), .second, .val (.int p2), .val (.int p3), .val (.int p4), .val (.int p5), .val (.int (k1 q0)), .val (.int (gk2 q0 p5)), .val (.int (gk3b q0 p2 p5)), .val (.int (v1 q1)), .val (.int (v2 q1)), .val (.int (v3 p3)), .val (.int (gq p4)), .val (.ref b10), .val (.int (1 : Int32)), .val (.int (1 : Int32)), .unset, .unset, .unset]) rfl ?_
    show Steps p.tables e below (T17.setTop (mkF m 176 #[.val (.long q0), .second, .val (.long q1), .second, .val (.int p2), .val (.int p3), .val (.int p4), .val (.int p5), .val (.int (k1 q0)), .val (.int (gk2 q0 p5)), .val (.int (gk3b q0 p2 p5)), .val (.int (v1 q1)), .val (.int (v2 q1)), .val (.int (v3 p3)), .val (.int (gq p4)), .val (.ref b10), .val (.int (1 : Int32)), .val (.int (1 : Int32)), .unset, .unset, .unset] [])) _
    refine XS.aload X17.here hx rfl (hb hby at_176) rfl rfl ?_
    show Steps p.tables e below (T17.setTop (mkF m 178 #[.val (.long q0), .second, .val (.long q1), .second, .val (.int p2), .val (.int p3), .val (.int p4), .val (.int p5), .val (.int (k1 q0)), .val (.int (gk2 q0 p5)), .val (.int (gk3b q0 p2 p5)), .val (.int (v1 q1)), .val (.int (v2 q1)), .val (.int (v3 p3)), .val (.int (gq p4)), .val (.ref b10), .val (.int (1 : Int32)), .val (.int (1 : Int32)), .unset, .unset, .unset] [(.ref b10)])) _
    refine XS.iload X17.here hx rfl (hb hby at_178) rfl ?_
    show Steps p.tables e below (T17.setTop (mkF m 180 #[.val (.long q0), .second, .val (.long q1), .second, .val (.int p2), .val (.int p3), .val (.int p4), .val (.int p5), .val (.int (k1 q0)), .val (.int (gk2 q0 p5)), .val (.int (gk3b q0 p2 p5)), .val (.int (v1 q1)), .val (.int (v2 q1)), .val (.int (v3 p3)), .val (.int (gq p4)), .val (.ref b10), .val (.int (1 : Int32)), .val (.int (1 : Int32)), .unset, .unset, .unset] [(.int (gk2 q0 p5)), (.ref b10)])) _
    refine st18.trans ?_
    show Steps p.tables e below (T18.setTop (mkF m 183 #[.val (.long q0), .second, .val (.long q1), .second, .val (.int p2), .val (.int p3), .val (.int p4), .val (.int p5), .val (.int (k1 q0)), .val (.int (gk2 q0 p5)), .val (.int (gk3b q0 p2 p5)), .val (.int (v1 q1)), .val (.int (v2 q1)), .val (.int (v3 p3)), .val (.int (gq p4)), .val (.ref b10), .val (.int (1 : Int32)), .val (.int (1 : Int32)), .unset, .unset, .unset] [(.int (gvalM (ins (ins (ins (fun _ => none) (k1 q0) (v1 q1)) (gk2 q0 p5) (v2 q1)) (gk3b q0 p2 p5) (v3 p3)) (gk2 q0 p5)))])) _
    refine XS.iload X18.here hx rfl (hb hby at_183) rfl ?_
    show Steps p.tables e below (T18.setTop (mkF m 185 #[.val (.long q0), .second, .val (.long q1), .second, .val (.int p2), .val (.int p3), .val (.int p4), .val (.int p5), .val (.int (k1 q0)), .val (.int (gk2 q0 p5)), .val (.int (gk3b q0 p2 p5)), .val (.int (v1 q1)), .val (.int (v2 q1)), .val (.int (v3 p3)), .val (.int (gq p4)), .val (.ref b10), .val (.int (1 : Int32)), .val (.int (1 : Int32)), .unset, .unset, .unset] [(.int (gk2 q0 p5)), (.int (gvalM (ins (ins (ins (fun _ => none) (k1 q0) (v1 q1)) (gk2 q0 p5) (v2 q1)) (gk3b q0 p2 p5) (v3 p3)) (gk2 q0 p5)))])) _
    refine XS.iload X18.here hx rfl (hb hby at_185) rfl ?_
    show Steps p.tables e below (T18.setTop (mkF m 187 #[.val (.long q0), .second, .val (.long q1), .second, .val (.int p2), .val (.int p3), .val (.int p4), .val (.int p5), .val (.int (k1 q0)), .val (.int (gk2 q0 p5)), .val (.int (gk3b q0 p2 p5)), .val (.int (v1 q1)), .val (.int (v2 q1)), .val (.int (v3 p3)), .val (.int (gq p4)), .val (.ref b10), .val (.int (1 : Int32)), .val (.int (1 : Int32)), .unset, .unset, .unset] [(.int (k1 q0)), (.int (gk2 q0 p5)), (.int (gvalM (ins (ins (ins (fun _ => none) (k1 q0) (v1 q1)) (gk2 q0 p5) (v2 q1)) (gk3b q0 p2 p5) (v3 p3)) (gk2 q0 p5)))])) _
    refine XS.iload X18.here hx rfl (hb hby at_187) rfl ?_
    show Steps p.tables e below (T18.setTop (mkF m 189 #[.val (.long q0), .second, .val (.long q1), .second, .val (.int p2), .val (.int p3), .val (.int p4), .val (.int p5), .val (.int (k1 q0)), .val (.int (gk2 q0 p5)), .val (.int (gk3b q0 p2 p5)), .val (.int (v1 q1)), .val (.int (v2 q1)), .val (.int (v3 p3)), .val (.int (gq p4)), .val (.ref b10), .val (.int (1 : Int32)), .val (.int (1 : Int32)), .unset, .unset, .unset] [(.int (v1 q1)), (.int (k1 q0)), (.int (gk2 q0 p5)), (.int (gvalM (ins (ins (ins (fun _ => none) (k1 q0) (v1 q1)) (gk2 q0 p5) (v2 q1)) (gk3b q0 p2 p5) (v3 p3)) (gk2 q0 p5)))])) _
    refine XS.iload X18.here hx rfl (hb hby at_189) rfl ?_
    show Steps p.tables e below (T18.setTop (mkF m 191 #[.val (.long q0), .second, .val (.long q1), .second, .val (.int p2), .val (.int p3), .val (.int p4), .val (.int p5), .val (.int (k1 q0)), .val (.int (gk2 q0 p5)), .val (.int (gk3b q0 p2 p5)), .val (.int (v1 q1)), .val (.int (v2 q1)), .val (.int (v3 p3)), .val (.int (gq p4)), .val (.ref b10), .val (.int (1 : Int32)), .val (.int (1 : Int32)), .unset, .unset, .unset] [(.int (gk2 q0 p5)), (.int (v1 q1)), (.int (k1 q0)), (.int (gk2 q0 p5)), (.int (gvalM (ins (ins (ins (fun _ => none) (k1 q0) (v1 q1)) (gk2 q0 p5) (v2 q1)) (gk3b q0 p2 p5) (v3 p3)) (gk2 q0 p5)))])) _
    refine XS.iload X18.here hx rfl (hb hby at_191) rfl ?_
    show Steps p.tables e below (T18.setTop (mkF m 193 #[.val (.long q0), .second, .val (.long q1), .second, .val (.int p2), .val (.int p3), .val (.int p4), .val (.int p5), .val (.int (k1 q0)), .val (.int (gk2 q0 p5)), .val (.int (gk3b q0 p2 p5)), .val (.int (v1 q1)), .val (.int (v2 q1)), .val (.int (v3 p3)), .val (.int (gq p4)), .val (.ref b10), .val (.int (1 : Int32)), .val (.int (1 : Int32)), .unset, .unset, .unset] [(.int (v2 q1)), (.int (gk2 q0 p5)), (.int (v1 q1)), (.int (k1 q0)), (.int (gk2 q0 p5)), (.int (gvalM (ins (ins (ins (fun _ => none) (k1 q0) (v1 q1)) (gk2 q0 p5) (v2 q1)) (gk3b q0 p2 p5) (v3 p3)) (gk2 q0 p5)))])) _
    refine XS.iload X18.here hx rfl (hb hby at_193) rfl ?_
    show Steps p.tables e below (T18.setTop (mkF m 195 #[.val (.long q0), .second, .val (.long q1), .second, .val (.int p2), .val (.int p3), .val (.int p4), .val (.int p5), .val (.int (k1 q0)), .val (.int (gk2 q0 p5)), .val (.int (gk3b q0 p2 p5)), .val (.int (v1 q1)), .val (.int (v2 q1)), .val (.int (v3 p3)), .val (.int (gq p4)), .val (.ref b10), .val (.int (1 : Int32)), .val (.int (1 : Int32)), .unset, .unset, .unset] [(.int (gk3b q0 p2 p5)), (.int (v2 q1)), (.int (gk2 q0 p5)), (.int (v1 q1)), (.int (k1 q0)), (.int (gk2 q0 p5)), (.int (gvalM (ins (ins (ins (fun _ => none) (k1 q0) (v1 q1)) (gk2 q0 p5) (v2 q1)) (gk3b q0 p2 p5) (v3 p3)) (gk2 q0 p5)))])) _
    refine XS.iload X18.here hx rfl (hb hby at_195) rfl ?_
    show Steps p.tables e below (T18.setTop (mkF m 197 #[.val (.long q0), .second, .val (.long q1), .second, .val (.int p2), .val (.int p3), .val (.int p4), .val (.int p5), .val (.int (k1 q0)), .val (.int (gk2 q0 p5)), .val (.int (gk3b q0 p2 p5)), .val (.int (v1 q1)), .val (.int (v2 q1)), .val (.int (v3 p3)), .val (.int (gq p4)), .val (.ref b10), .val (.int (1 : Int32)), .val (.int (1 : Int32)), .unset, .unset, .unset] [(.int (v3 p3)), (.int (gk3b q0 p2 p5)), (.int (v2 q1)), (.int (gk2 q0 p5)), (.int (v1 q1)), (.int (k1 q0)), (.int (gk2 q0 p5)), (.int (gvalM (ins (ins (ins (fun _ => none) (k1 q0) (v1 q1)) (gk2 q0 p5) (v2 q1)) (gk3b q0 p2 p5) (v3 p3)) (gk2 q0 p5)))])) _
    refine st19 _ ?_
    show Steps p.tables e below (T19.setTop (mkF m 200 #[.val (.long q0), .second, .val (.long q1), .second, .val (.int p2), .val (.int p3), .val (.int p4), .val (.int p5), .val (.int (k1 q0)), .val (.int (gk2 q0 p5)), .val (.int (gk3b q0 p2 p5)), .val (.int (v1 q1)), .val (.int (v2 q1)), .val (.int (v3 p3)), .val (.int (gq p4)), .val (.ref b10), .val (.int (1 : Int32)), .val (.int (1 : Int32)), .unset, .unset, .unset] [(.int (f10 (gk2 q0 p5) (k1 q0) (v1 q1) (gk2 q0 p5) (v2 q1) (gk3b q0 p2 p5) (v3 p3))), (.int (gvalM (ins (ins (ins (fun _ => none) (k1 q0) (v1 q1)) (gk2 q0 p5) (v2 q1)) (gk3b q0 p2 p5) (v3 p3)) (gk2 q0 p5)))])) _
    refine XS.icmpNo X19.here hx rfl (hb hby at_200) rfl (teq (show (gvalM (ins (ins (ins (fun _ => none) (k1 q0) (v1 q1)) (gk2 q0 p5) (v2 q1)) (gk3b q0 p2 p5) (v3 p3)) (gk2 q0 p5)) = (f10 (gk2 q0 p5) (k1 q0) (v1 q1) (gk2 q0 p5) (v2 q1) (gk3b q0 p2 p5) (v3 p3)) from (own_get _ _ _ _ _ _ _))).2 ?_
    show Steps p.tables e below (T19.setTop (mkF m 203 #[.val (.long q0), .second, .val (.long q1), .second, .val (.int p2), .val (.int p3), .val (.int p4), .val (.int p5), .val (.int (k1 q0)), .val (.int (gk2 q0 p5)), .val (.int (gk3b q0 p2 p5)), .val (.int (v1 q1)), .val (.int (v2 q1)), .val (.int (v3 p3)), .val (.int (gq p4)), .val (.ref b10), .val (.int (1 : Int32)), .val (.int (1 : Int32)), .unset, .unset, .unset] [])) _
    refine XS.iconst X19.here hx rfl (hb hby at_203) ?_
    show Steps p.tables e below (T19.setTop (mkF m 204 #[.val (.long q0), .second, .val (.long q1), .second, .val (.int p2), .val (.int p3), .val (.int p4), .val (.int p5), .val (.int (k1 q0)), .val (.int (gk2 q0 p5)), .val (.int (gk3b q0 p2 p5)), .val (.int (v1 q1)), .val (.int (v2 q1)), .val (.int (v3 p3)), .val (.int (gq p4)), .val (.ref b10), .val (.int (1 : Int32)), .val (.int (1 : Int32)), .unset, .unset, .unset] [(.int (1 : Int32))])) _
    refine XS.goto X19.here hx rfl (pc0 := 204) (pc' := 208) rfl (hb hby at_204) (by decide) (by decide) ?_
    show Steps p.tables e below (T19.setTop (mkF m 208 #[.val (.long q0), .second, .val (.long q1), .second, .val (.int p2), .val (.int p3), .val (.int p4), .val (.int p5), .val (.int (k1 q0)), .val (.int (gk2 q0 p5)), .val (.int (gk3b q0 p2 p5)), .val (.int (v1 q1)), .val (.int (v2 q1)), .val (.int (v3 p3)), .val (.int (gq p4)), .val (.ref b10), .val (.int (1 : Int32)), .val (.int (1 : Int32)), .unset, .unset, .unset] [(.int (1 : Int32))])) _
    refine XS.istore X19.here hx rfl (hb hby at_208) rfl (l' := #[.val (.long q0), .second, .val (.long q1), .second, .val (.int p2), .val (.int p3), .val (.int p4), .val (.int p5), .val (.int (k1 q0)), .val (.int (gk2 q0 p5)), .val (.int (gk3b q0 p2 p5)), .val (.int (v1 q1)), .val (.int (v2 q1)), .val (.int (v3 p3)), .val (.int (gq p4)), .val (.ref b10), .val (.int (1 : Int32)), .val (.int (1 : Int32)), .val (.int (1 : Int32)), .unset, .unset]) rfl ?_
    show Steps p.tables e below (T19.setTop (mkF m 210 #[.val (.long q0), .second, .val (.long q1), .second, .val (.int p2), .val (.int p3), .val (.int p4), .val (.int p5), .val (.int (k1 q0)), .val (.int (gk2 q0 p5)), .val (.int (gk3b q0 p2 p5)), .val (.int (v1 q1)), .val (.int (v2 q1)), .val (.int (v3 p3)), .val (.int (gq p4)), .val (.ref b10), .val (.int (1 : Int32)), .val (.int (1 : Int32)), .val (.int (1 : Int32)), .unset, .unset] [])) _
    refine XS.aload X19.here hx rfl (hb hby at_210) rfl rfl ?_
    show Steps p.tables e below (T19.setTop (mkF m 212 #[.val (.long q0), .second, .val (.long q1), .second, .val (.int p2), .val (.int p3), .val (.int p4), .val (.int p5), .val (.int (k1 q0)), .val (.int (gk2 q0 p5)), .val (.int (gk3b q0 p2 p5)), .val (.int (v1 q1)), .val (.int (v2 q1)), .val (.int (v3 p3)), .val (.int (gq p4)), .val (.ref b10), .val (.int (1 : Int32)), .val (.int (1 : Int32)), .val (.int (1 : Int32)), .unset, .unset] [(.ref b10)])) _
    refine XS.iload X19.here hx rfl (hb hby at_212) rfl ?_
    show Steps p.tables e below (T19.setTop (mkF m 214 #[.val (.long q0), .second, .val (.long q1), .second, .val (.int p2), .val (.int p3), .val (.int p4), .val (.int p5), .val (.int (k1 q0)), .val (.int (gk2 q0 p5)), .val (.int (gk3b q0 p2 p5)), .val (.int (v1 q1)), .val (.int (v2 q1)), .val (.int (v3 p3)), .val (.int (gq p4)), .val (.ref b10), .val (.int (1 : Int32)), .val (.int (1 : Int32)), .val (.int (1 : Int32)), .unset, .unset] [(.int (gk3b q0 p2 p5)), (.ref b10)])) _
    refine st20.trans ?_
    show Steps p.tables e below (T20.setTop (mkF m 217 #[.val (.long q0), .second, .val (.long q1), .second, .val (.int p2), .val (.int p3), .val (.int p4), .val (.int p5), .val (.int (k1 q0)), .val (.int (gk2 q0 p5)), .val (.int (gk3b q0 p2 p5)), .val (.int (v1 q1)), .val (.int (v2 q1)), .val (.int (v3 p3)), .val (.int (gq p4)), .val (.ref b10), .val (.int (1 : Int32)), .val (.int (1 : Int32)), .val (.int (1 : Int32)), .unset, .unset] [(.int (gvalM (ins (ins (ins (fun _ => none) (k1 q0) (v1 q1)) (gk2 q0 p5) (v2 q1)) (gk3b q0 p2 p5) (v3 p3)) (gk3b q0 p2 p5)))])) _
    refine XS.iload X20.here hx rfl (hb hby at_217) rfl ?_
    show Steps p.tables e below (T20.setTop (mkF m 219 #[.val (.long q0), .second, .val (.long q1), .second, .val (.int p2), .val (.int p3), .val (.int p4), .val (.int p5), .val (.int (k1 q0)), .val (.int (gk2 q0 p5)), .val (.int (gk3b q0 p2 p5)), .val (.int (v1 q1)), .val (.int (v2 q1)), .val (.int (v3 p3)), .val (.int (gq p4)), .val (.ref b10), .val (.int (1 : Int32)), .val (.int (1 : Int32)), .val (.int (1 : Int32)), .unset, .unset] [(.int (gk3b q0 p2 p5)), (.int (gvalM (ins (ins (ins (fun _ => none) (k1 q0) (v1 q1)) (gk2 q0 p5) (v2 q1)) (gk3b q0 p2 p5) (v3 p3)) (gk3b q0 p2 p5)))])) _
    refine XS.iload X20.here hx rfl (hb hby at_219) rfl ?_
    show Steps p.tables e below (T20.setTop (mkF m 221 #[.val (.long q0), .second, .val (.long q1), .second, .val (.int p2), .val (.int p3), .val (.int p4), .val (.int p5), .val (.int (k1 q0)), .val (.int (gk2 q0 p5)), .val (.int (gk3b q0 p2 p5)), .val (.int (v1 q1)), .val (.int (v2 q1)), .val (.int (v3 p3)), .val (.int (gq p4)), .val (.ref b10), .val (.int (1 : Int32)), .val (.int (1 : Int32)), .val (.int (1 : Int32)), .unset, .unset] [(.int (k1 q0)), (.int (gk3b q0 p2 p5)), (.int (gvalM (ins (ins (ins (fun _ => none) (k1 q0) (v1 q1)) (gk2 q0 p5) (v2 q1)) (gk3b q0 p2 p5) (v3 p3)) (gk3b q0 p2 p5)))])) _
    refine XS.iload X20.here hx rfl (hb hby at_221) rfl ?_
    show Steps p.tables e below (T20.setTop (mkF m 223 #[.val (.long q0), .second, .val (.long q1), .second, .val (.int p2), .val (.int p3), .val (.int p4), .val (.int p5), .val (.int (k1 q0)), .val (.int (gk2 q0 p5)), .val (.int (gk3b q0 p2 p5)), .val (.int (v1 q1)), .val (.int (v2 q1)), .val (.int (v3 p3)), .val (.int (gq p4)), .val (.ref b10), .val (.int (1 : Int32)), .val (.int (1 : Int32)), .val (.int (1 : Int32)), .unset, .unset] [(.int (v1 q1)), (.int (k1 q0)), (.int (gk3b q0 p2 p5)), (.int (gvalM (ins (ins (ins (fun _ => none) (k1 q0) (v1 q1)) (gk2 q0 p5) (v2 q1)) (gk3b q0 p2 p5) (v3 p3)) (gk3b q0 p2 p5)))])) _
    refine XS.iload X20.here hx rfl (hb hby at_223) rfl ?_
    show Steps p.tables e below (T20.setTop (mkF m 225 #[.val (.long q0), .second, .val (.long q1), .second, .val (.int p2), .val (.int p3), .val (.int p4), .val (.int p5), .val (.int (k1 q0)), .val (.int (gk2 q0 p5)), .val (.int (gk3b q0 p2 p5)), .val (.int (v1 q1)), .val (.int (v2 q1)), .val (.int (v3 p3)), .val (.int (gq p4)), .val (.ref b10), .val (.int (1 : Int32)), .val (.int (1 : Int32)), .val (.int (1 : Int32)), .unset, .unset] [(.int (gk2 q0 p5)), (.int (v1 q1)), (.int (k1 q0)), (.int (gk3b q0 p2 p5)), (.int (gvalM (ins (ins (ins (fun _ => none) (k1 q0) (v1 q1)) (gk2 q0 p5) (v2 q1)) (gk3b q0 p2 p5) (v3 p3)) (gk3b q0 p2 p5)))])) _
    refine XS.iload X20.here hx rfl (hb hby at_225) rfl ?_
    show Steps p.tables e below (T20.setTop (mkF m 227 #[.val (.long q0), .second, .val (.long q1), .second, .val (.int p2), .val (.int p3), .val (.int p4), .val (.int p5), .val (.int (k1 q0)), .val (.int (gk2 q0 p5)), .val (.int (gk3b q0 p2 p5)), .val (.int (v1 q1)), .val (.int (v2 q1)), .val (.int (v3 p3)), .val (.int (gq p4)), .val (.ref b10), .val (.int (1 : Int32)), .val (.int (1 : Int32)), .val (.int (1 : Int32)), .unset, .unset] [(.int (v2 q1)), (.int (gk2 q0 p5)), (.int (v1 q1)), (.int (k1 q0)), (.int (gk3b q0 p2 p5)), (.int (gvalM (ins (ins (ins (fun _ => none) (k1 q0) (v1 q1)) (gk2 q0 p5) (v2 q1)) (gk3b q0 p2 p5) (v3 p3)) (gk3b q0 p2 p5)))])) _
    refine XS.iload X20.here hx rfl (hb hby at_227) rfl ?_
    show Steps p.tables e below (T20.setTop (mkF m 229 #[.val (.long q0), .second, .val (.long q1), .second, .val (.int p2), .val (.int p3), .val (.int p4), .val (.int p5), .val (.int (k1 q0)), .val (.int (gk2 q0 p5)), .val (.int (gk3b q0 p2 p5)), .val (.int (v1 q1)), .val (.int (v2 q1)), .val (.int (v3 p3)), .val (.int (gq p4)), .val (.ref b10), .val (.int (1 : Int32)), .val (.int (1 : Int32)), .val (.int (1 : Int32)), .unset, .unset] [(.int (gk3b q0 p2 p5)), (.int (v2 q1)), (.int (gk2 q0 p5)), (.int (v1 q1)), (.int (k1 q0)), (.int (gk3b q0 p2 p5)), (.int (gvalM (ins (ins (ins (fun _ => none) (k1 q0) (v1 q1)) (gk2 q0 p5) (v2 q1)) (gk3b q0 p2 p5) (v3 p3)) (gk3b q0 p2 p5)))])) _
    refine XS.iload X20.here hx rfl (hb hby at_229) rfl ?_
    show Steps p.tables e below (T20.setTop (mkF m 231 #[.val (.long q0), .second, .val (.long q1), .second, .val (.int p2), .val (.int p3), .val (.int p4), .val (.int p5), .val (.int (k1 q0)), .val (.int (gk2 q0 p5)), .val (.int (gk3b q0 p2 p5)), .val (.int (v1 q1)), .val (.int (v2 q1)), .val (.int (v3 p3)), .val (.int (gq p4)), .val (.ref b10), .val (.int (1 : Int32)), .val (.int (1 : Int32)), .val (.int (1 : Int32)), .unset, .unset] [(.int (v3 p3)), (.int (gk3b q0 p2 p5)), (.int (v2 q1)), (.int (gk2 q0 p5)), (.int (v1 q1)), (.int (k1 q0)), (.int (gk3b q0 p2 p5)), (.int (gvalM (ins (ins (ins (fun _ => none) (k1 q0) (v1 q1)) (gk2 q0 p5) (v2 q1)) (gk3b q0 p2 p5) (v3 p3)) (gk3b q0 p2 p5)))])) _
    refine st21 _ ?_
    show Steps p.tables e below (T21.setTop (mkF m 234 #[.val (.long q0), .second, .val (.long q1), .second, .val (.int p2), .val (.int p3), .val (.int p4), .val (.int p5), .val (.int (k1 q0)), .val (.int (gk2 q0 p5)), .val (.int (gk3b q0 p2 p5)), .val (.int (v1 q1)), .val (.int (v2 q1)), .val (.int (v3 p3)), .val (.int (gq p4)), .val (.ref b10), .val (.int (1 : Int32)), .val (.int (1 : Int32)), .val (.int (1 : Int32)), .unset, .unset] [(.int (f10 (gk3b q0 p2 p5) (k1 q0) (v1 q1) (gk2 q0 p5) (v2 q1) (gk3b q0 p2 p5) (v3 p3))), (.int (gvalM (ins (ins (ins (fun _ => none) (k1 q0) (v1 q1)) (gk2 q0 p5) (v2 q1)) (gk3b q0 p2 p5) (v3 p3)) (gk3b q0 p2 p5)))])) _
    refine XS.icmpNo X21.here hx rfl (hb hby at_234) rfl (teq (show (gvalM (ins (ins (ins (fun _ => none) (k1 q0) (v1 q1)) (gk2 q0 p5) (v2 q1)) (gk3b q0 p2 p5) (v3 p3)) (gk3b q0 p2 p5)) = (f10 (gk3b q0 p2 p5) (k1 q0) (v1 q1) (gk2 q0 p5) (v2 q1) (gk3b q0 p2 p5) (v3 p3)) from (own_get _ _ _ _ _ _ _))).2 ?_
    show Steps p.tables e below (T21.setTop (mkF m 237 #[.val (.long q0), .second, .val (.long q1), .second, .val (.int p2), .val (.int p3), .val (.int p4), .val (.int p5), .val (.int (k1 q0)), .val (.int (gk2 q0 p5)), .val (.int (gk3b q0 p2 p5)), .val (.int (v1 q1)), .val (.int (v2 q1)), .val (.int (v3 p3)), .val (.int (gq p4)), .val (.ref b10), .val (.int (1 : Int32)), .val (.int (1 : Int32)), .val (.int (1 : Int32)), .unset, .unset] [])) _
    refine XS.iconst X21.here hx rfl (hb hby at_237) ?_
    show Steps p.tables e below (T21.setTop (mkF m 238 #[.val (.long q0), .second, .val (.long q1), .second, .val (.int p2), .val (.int p3), .val (.int p4), .val (.int p5), .val (.int (k1 q0)), .val (.int (gk2 q0 p5)), .val (.int (gk3b q0 p2 p5)), .val (.int (v1 q1)), .val (.int (v2 q1)), .val (.int (v3 p3)), .val (.int (gq p4)), .val (.ref b10), .val (.int (1 : Int32)), .val (.int (1 : Int32)), .val (.int (1 : Int32)), .unset, .unset] [(.int (1 : Int32))])) _
    refine XS.goto X21.here hx rfl (pc0 := 238) (pc' := 242) rfl (hb hby at_238) (by decide) (by decide) ?_
    show Steps p.tables e below (T21.setTop (mkF m 242 #[.val (.long q0), .second, .val (.long q1), .second, .val (.int p2), .val (.int p3), .val (.int p4), .val (.int p5), .val (.int (k1 q0)), .val (.int (gk2 q0 p5)), .val (.int (gk3b q0 p2 p5)), .val (.int (v1 q1)), .val (.int (v2 q1)), .val (.int (v3 p3)), .val (.int (gq p4)), .val (.ref b10), .val (.int (1 : Int32)), .val (.int (1 : Int32)), .val (.int (1 : Int32)), .unset, .unset] [(.int (1 : Int32))])) _
    refine XS.istore X21.here hx rfl (hb hby at_242) rfl (l' := #[.val (.long q0), .second, .val (.long q1), .second, .val (.int p2), .val (.int p3), .val (.int p4), .val (.int p5), .val (.int (k1 q0)), .val (.int (gk2 q0 p5)), .val (.int (gk3b q0 p2 p5)), .val (.int (v1 q1)), .val (.int (v2 q1)), .val (.int (v3 p3)), .val (.int (gq p4)), .val (.ref b10), .val (.int (1 : Int32)), .val (.int (1 : Int32)), .val (.int (1 : Int32)), .val (.int (1 : Int32)), .unset]) rfl ?_
    show Steps p.tables e below (T21.setTop (mkF m 244 #[.val (.long q0), .second, .val (.long q1), .second, .val (.int p2), .val (.int p3), .val (.int p4), .val (.int p5), .val (.int (k1 q0)), .val (.int (gk2 q0 p5)), .val (.int (gk3b q0 p2 p5)), .val (.int (v1 q1)), .val (.int (v2 q1)), .val (.int (v3 p3)), .val (.int (gq p4)), .val (.ref b10), .val (.int (1 : Int32)), .val (.int (1 : Int32)), .val (.int (1 : Int32)), .val (.int (1 : Int32)), .unset] [])) _
    refine XS.aload X21.here hx rfl (hb hby at_244) rfl rfl ?_
    show Steps p.tables e below (T21.setTop (mkF m 246 #[.val (.long q0), .second, .val (.long q1), .second, .val (.int p2), .val (.int p3), .val (.int p4), .val (.int p5), .val (.int (k1 q0)), .val (.int (gk2 q0 p5)), .val (.int (gk3b q0 p2 p5)), .val (.int (v1 q1)), .val (.int (v2 q1)), .val (.int (v3 p3)), .val (.int (gq p4)), .val (.ref b10), .val (.int (1 : Int32)), .val (.int (1 : Int32)), .val (.int (1 : Int32)), .val (.int (1 : Int32)), .unset] [(.ref b10)])) _
    refine XS.iload X21.here hx rfl (hb hby at_246) rfl ?_
    show Steps p.tables e below (T21.setTop (mkF m 248 #[.val (.long q0), .second, .val (.long q1), .second, .val (.int p2), .val (.int p3), .val (.int p4), .val (.int p5), .val (.int (k1 q0)), .val (.int (gk2 q0 p5)), .val (.int (gk3b q0 p2 p5)), .val (.int (v1 q1)), .val (.int (v2 q1)), .val (.int (v3 p3)), .val (.int (gq p4)), .val (.ref b10), .val (.int (1 : Int32)), .val (.int (1 : Int32)), .val (.int (1 : Int32)), .val (.int (1 : Int32)), .unset] [(.int (gq p4)), (.ref b10)])) _
    refine st22.trans ?_
    show Steps p.tables e below (T22.setTop (mkF m 251 #[.val (.long q0), .second, .val (.long q1), .second, .val (.int p2), .val (.int p3), .val (.int p4), .val (.int p5), .val (.int (k1 q0)), .val (.int (gk2 q0 p5)), .val (.int (gk3b q0 p2 p5)), .val (.int (v1 q1)), .val (.int (v2 q1)), .val (.int (v3 p3)), .val (.int (gq p4)), .val (.ref b10), .val (.int (1 : Int32)), .val (.int (1 : Int32)), .val (.int (1 : Int32)), .val (.int (1 : Int32)), .unset] [(.int (gvalM (ins (ins (ins (fun _ => none) (k1 q0) (v1 q1)) (gk2 q0 p5) (v2 q1)) (gk3b q0 p2 p5) (v3 p3)) (gq p4)))])) _
    refine XS.iload X22.here hx rfl (hb hby at_251) rfl ?_
    show Steps p.tables e below (T22.setTop (mkF m 253 #[.val (.long q0), .second, .val (.long q1), .second, .val (.int p2), .val (.int p3), .val (.int p4), .val (.int p5), .val (.int (k1 q0)), .val (.int (gk2 q0 p5)), .val (.int (gk3b q0 p2 p5)), .val (.int (v1 q1)), .val (.int (v2 q1)), .val (.int (v3 p3)), .val (.int (gq p4)), .val (.ref b10), .val (.int (1 : Int32)), .val (.int (1 : Int32)), .val (.int (1 : Int32)), .val (.int (1 : Int32)), .unset] [(.int (gq p4)), (.int (gvalM (ins (ins (ins (fun _ => none) (k1 q0) (v1 q1)) (gk2 q0 p5) (v2 q1)) (gk3b q0 p2 p5) (v3 p3)) (gq p4)))])) _
    refine XS.iload X22.here hx rfl (hb hby at_253) rfl ?_
    show Steps p.tables e below (T22.setTop (mkF m 255 #[.val (.long q0), .second, .val (.long q1), .second, .val (.int p2), .val (.int p3), .val (.int p4), .val (.int p5), .val (.int (k1 q0)), .val (.int (gk2 q0 p5)), .val (.int (gk3b q0 p2 p5)), .val (.int (v1 q1)), .val (.int (v2 q1)), .val (.int (v3 p3)), .val (.int (gq p4)), .val (.ref b10), .val (.int (1 : Int32)), .val (.int (1 : Int32)), .val (.int (1 : Int32)), .val (.int (1 : Int32)), .unset] [(.int (k1 q0)), (.int (gq p4)), (.int (gvalM (ins (ins (ins (fun _ => none) (k1 q0) (v1 q1)) (gk2 q0 p5) (v2 q1)) (gk3b q0 p2 p5) (v3 p3)) (gq p4)))])) _
    refine XS.iload X22.here hx rfl (hb hby at_255) rfl ?_
    show Steps p.tables e below (T22.setTop (mkF m 257 #[.val (.long q0), .second, .val (.long q1), .second, .val (.int p2), .val (.int p3), .val (.int p4), .val (.int p5), .val (.int (k1 q0)), .val (.int (gk2 q0 p5)), .val (.int (gk3b q0 p2 p5)), .val (.int (v1 q1)), .val (.int (v2 q1)), .val (.int (v3 p3)), .val (.int (gq p4)), .val (.ref b10), .val (.int (1 : Int32)), .val (.int (1 : Int32)), .val (.int (1 : Int32)), .val (.int (1 : Int32)), .unset] [(.int (v1 q1)), (.int (k1 q0)), (.int (gq p4)), (.int (gvalM (ins (ins (ins (fun _ => none) (k1 q0) (v1 q1)) (gk2 q0 p5) (v2 q1)) (gk3b q0 p2 p5) (v3 p3)) (gq p4)))])) _
    refine XS.iload X22.here hx rfl (hb hby at_257) rfl ?_
    show Steps p.tables e below (T22.setTop (mkF m 259 #[.val (.long q0), .second, .val (.long q1), .second, .val (.int p2), .val (.int p3), .val (.int p4), .val (.int p5), .val (.int (k1 q0)), .val (.int (gk2 q0 p5)), .val (.int (gk3b q0 p2 p5)), .val (.int (v1 q1)), .val (.int (v2 q1)), .val (.int (v3 p3)), .val (.int (gq p4)), .val (.ref b10), .val (.int (1 : Int32)), .val (.int (1 : Int32)), .val (.int (1 : Int32)), .val (.int (1 : Int32)), .unset] [(.int (gk2 q0 p5)), (.int (v1 q1)), (.int (k1 q0)), (.int (gq p4)), (.int (gvalM (ins (ins (ins (fun _ => none) (k1 q0) (v1 q1)) (gk2 q0 p5) (v2 q1)) (gk3b q0 p2 p5) (v3 p3)) (gq p4)))])) _
    refine XS.iload X22.here hx rfl (hb hby at_259) rfl ?_
    show Steps p.tables e below (T22.setTop (mkF m 261 #[.val (.long q0), .second, .val (.long q1), .second, .val (.int p2), .val (.int p3), .val (.int p4), .val (.int p5), .val (.int (k1 q0)), .val (.int (gk2 q0 p5)), .val (.int (gk3b q0 p2 p5)), .val (.int (v1 q1)), .val (.int (v2 q1)), .val (.int (v3 p3)), .val (.int (gq p4)), .val (.ref b10), .val (.int (1 : Int32)), .val (.int (1 : Int32)), .val (.int (1 : Int32)), .val (.int (1 : Int32)), .unset] [(.int (v2 q1)), (.int (gk2 q0 p5)), (.int (v1 q1)), (.int (k1 q0)), (.int (gq p4)), (.int (gvalM (ins (ins (ins (fun _ => none) (k1 q0) (v1 q1)) (gk2 q0 p5) (v2 q1)) (gk3b q0 p2 p5) (v3 p3)) (gq p4)))])) _
    refine XS.iload X22.here hx rfl (hb hby at_261) rfl ?_
    show Steps p.tables e below (T22.setTop (mkF m 263 #[.val (.long q0), .second, .val (.long q1), .second, .val (.int p2), .val (.int p3), .val (.int p4), .val (.int p5), .val (.int (k1 q0)), .val (.int (gk2 q0 p5)), .val (.int (gk3b q0 p2 p5)), .val (.int (v1 q1)), .val (.int (v2 q1)), .val (.int (v3 p3)), .val (.int (gq p4)), .val (.ref b10), .val (.int (1 : Int32)), .val (.int (1 : Int32)), .val (.int (1 : Int32)), .val (.int (1 : Int32)), .unset] [(.int (gk3b q0 p2 p5)), (.int (v2 q1)), (.int (gk2 q0 p5)), (.int (v1 q1)), (.int (k1 q0)), (.int (gq p4)), (.int (gvalM (ins (ins (ins (fun _ => none) (k1 q0) (v1 q1)) (gk2 q0 p5) (v2 q1)) (gk3b q0 p2 p5) (v3 p3)) (gq p4)))])) _
    refine XS.iload X22.here hx rfl (hb hby at_263) rfl ?_
    show Steps p.tables e below (T22.setTop (mkF m 265 #[.val (.long q0), .second, .val (.long q1), .second, .val (.int p2), .val (.int p3), .val (.int p4), .val (.int p5), .val (.int (k1 q0)), .val (.int (gk2 q0 p5)), .val (.int (gk3b q0 p2 p5)), .val (.int (v1 q1)), .val (.int (v2 q1)), .val (.int (v3 p3)), .val (.int (gq p4)), .val (.ref b10), .val (.int (1 : Int32)), .val (.int (1 : Int32)), .val (.int (1 : Int32)), .val (.int (1 : Int32)), .unset] [(.int (v3 p3)), (.int (gk3b q0 p2 p5)), (.int (v2 q1)), (.int (gk2 q0 p5)), (.int (v1 q1)), (.int (k1 q0)), (.int (gq p4)), (.int (gvalM (ins (ins (ins (fun _ => none) (k1 q0) (v1 q1)) (gk2 q0 p5) (v2 q1)) (gk3b q0 p2 p5) (v3 p3)) (gq p4)))])) _
    refine st23 _ ?_
    show Steps p.tables e below (T23.setTop (mkF m 268 #[.val (.long q0), .second, .val (.long q1), .second, .val (.int p2), .val (.int p3), .val (.int p4), .val (.int p5), .val (.int (k1 q0)), .val (.int (gk2 q0 p5)), .val (.int (gk3b q0 p2 p5)), .val (.int (v1 q1)), .val (.int (v2 q1)), .val (.int (v3 p3)), .val (.int (gq p4)), .val (.ref b10), .val (.int (1 : Int32)), .val (.int (1 : Int32)), .val (.int (1 : Int32)), .val (.int (1 : Int32)), .unset] [(.int (f10 (gq p4) (k1 q0) (v1 q1) (gk2 q0 p5) (v2 q1) (gk3b q0 p2 p5) (v3 p3))), (.int (gvalM (ins (ins (ins (fun _ => none) (k1 q0) (v1 q1)) (gk2 q0 p5) (v2 q1)) (gk3b q0 p2 p5) (v3 p3)) (gq p4)))])) _
    refine XS.icmpNo X23.here hx rfl (hb hby at_268) rfl (teq (show (gvalM (ins (ins (ins (fun _ => none) (k1 q0) (v1 q1)) (gk2 q0 p5) (v2 q1)) (gk3b q0 p2 p5) (v3 p3)) (gq p4)) = (f10 (gq p4) (k1 q0) (v1 q1) (gk2 q0 p5) (v2 q1) (gk3b q0 p2 p5) (v3 p3)) from (own_get _ _ _ _ _ _ _))).2 ?_
    show Steps p.tables e below (T23.setTop (mkF m 271 #[.val (.long q0), .second, .val (.long q1), .second, .val (.int p2), .val (.int p3), .val (.int p4), .val (.int p5), .val (.int (k1 q0)), .val (.int (gk2 q0 p5)), .val (.int (gk3b q0 p2 p5)), .val (.int (v1 q1)), .val (.int (v2 q1)), .val (.int (v3 p3)), .val (.int (gq p4)), .val (.ref b10), .val (.int (1 : Int32)), .val (.int (1 : Int32)), .val (.int (1 : Int32)), .val (.int (1 : Int32)), .unset] [])) _
    refine XS.iconst X23.here hx rfl (hb hby at_271) ?_
    show Steps p.tables e below (T23.setTop (mkF m 272 #[.val (.long q0), .second, .val (.long q1), .second, .val (.int p2), .val (.int p3), .val (.int p4), .val (.int p5), .val (.int (k1 q0)), .val (.int (gk2 q0 p5)), .val (.int (gk3b q0 p2 p5)), .val (.int (v1 q1)), .val (.int (v2 q1)), .val (.int (v3 p3)), .val (.int (gq p4)), .val (.ref b10), .val (.int (1 : Int32)), .val (.int (1 : Int32)), .val (.int (1 : Int32)), .val (.int (1 : Int32)), .unset] [(.int (1 : Int32))])) _
    refine XS.goto X23.here hx rfl (pc0 := 272) (pc' := 276) rfl (hb hby at_272) (by decide) (by decide) ?_
    show Steps p.tables e below (T23.setTop (mkF m 276 #[.val (.long q0), .second, .val (.long q1), .second, .val (.int p2), .val (.int p3), .val (.int p4), .val (.int p5), .val (.int (k1 q0)), .val (.int (gk2 q0 p5)), .val (.int (gk3b q0 p2 p5)), .val (.int (v1 q1)), .val (.int (v2 q1)), .val (.int (v3 p3)), .val (.int (gq p4)), .val (.ref b10), .val (.int (1 : Int32)), .val (.int (1 : Int32)), .val (.int (1 : Int32)), .val (.int (1 : Int32)), .unset] [(.int (1 : Int32))])) _
    refine XS.istore X23.here hx rfl (hb hby at_276) rfl (l' := #[.val (.long q0), .second, .val (.long q1), .second, .val (.int p2), .val (.int p3), .val (.int p4), .val (.int p5), .val (.int (k1 q0)), .val (.int (gk2 q0 p5)), .val (.int (gk3b q0 p2 p5)), .val (.int (v1 q1)), .val (.int (v2 q1)), .val (.int (v3 p3)), .val (.int (gq p4)), .val (.ref b10), .val (.int (1 : Int32)), .val (.int (1 : Int32)), .val (.int (1 : Int32)), .val (.int (1 : Int32)), .val (.int (1 : Int32))]) rfl ?_
    show Steps p.tables e below (T23.setTop (mkF m 278 #[.val (.long q0), .second, .val (.long q1), .second, .val (.int p2), .val (.int p3), .val (.int p4), .val (.int p5), .val (.int (k1 q0)), .val (.int (gk2 q0 p5)), .val (.int (gk3b q0 p2 p5)), .val (.int (v1 q1)), .val (.int (v2 q1)), .val (.int (v3 p3)), .val (.int (gq p4)), .val (.ref b10), .val (.int (1 : Int32)), .val (.int (1 : Int32)), .val (.int (1 : Int32)), .val (.int (1 : Int32)), .val (.int (1 : Int32))] [])) _
    refine XS.iload X23.here hx rfl (hb hby at_278) rfl ?_
    show Steps p.tables e below (T23.setTop (mkF m 280 #[.val (.long q0), .second, .val (.long q1), .second, .val (.int p2), .val (.int p3), .val (.int p4), .val (.int p5), .val (.int (k1 q0)), .val (.int (gk2 q0 p5)), .val (.int (gk3b q0 p2 p5)), .val (.int (v1 q1)), .val (.int (v2 q1)), .val (.int (v3 p3)), .val (.int (gq p4)), .val (.ref b10), .val (.int (1 : Int32)), .val (.int (1 : Int32)), .val (.int (1 : Int32)), .val (.int (1 : Int32)), .val (.int (1 : Int32))] [(.int (1 : Int32))])) _
    refine XS.ifNo X23.here hx rfl (hb hby at_280) rfl ((if0 _ _).trans (feq (by decide : ¬ ((1 : Int32) = (0 : Int32)))).1) ?_
    show Steps p.tables e below (T23.setTop (mkF m 283 #[.val (.long q0), .second, .val (.long q1), .second, .val (.int p2), .val (.int p3), .val (.int p4), .val (.int p5), .val (.int (k1 q0)), .val (.int (gk2 q0 p5)), .val (.int (gk3b q0 p2 p5)), .val (.int (v1 q1)), .val (.int (v2 q1)), .val (.int (v3 p3)), .val (.int (gq p4)), .val (.ref b10), .val (.int (1 : Int32)), .val (.int (1 : Int32)), .val (.int (1 : Int32)), .val (.int (1 : Int32)), .val (.int (1 : Int32))] [])) _
    refine XS.iload X23.here hx rfl (hb hby at_283) rfl ?_
    show Steps p.tables e below (T23.setTop (mkF m 285 #[.val (.long q0), .second, .val (.long q1), .second, .val (.int p2), .val (.int p3), .val (.int p4), .val (.int p5), .val (.int (k1 q0)), .val (.int (gk2 q0 p5)), .val (.int (gk3b q0 p2 p5)), .val (.int (v1 q1)), .val (.int (v2 q1)), .val (.int (v3 p3)), .val (.int (gq p4)), .val (.ref b10), .val (.int (1 : Int32)), .val (.int (1 : Int32)), .val (.int (1 : Int32)), .val (.int (1 : Int32)), .val (.int (1 : Int32))] [(.int (1 : Int32))])) _
    refine XS.ifNo X23.here hx rfl (hb hby at_285) rfl ((if0 _ _).trans (feq (by decide : ¬ ((1 : Int32) = (0 : Int32)))).1) ?_
    show Steps p.tables e below (T23.setTop (mkF m 288 #[.val (.long q0), .second, .val (.long q1), .second, .val (.int p2), .val (.int p3), .val (.int p4), .val (.int p5), .val (.int (k1 q0)), .val (.int (gk2 q0 p5)), .val (.int (gk3b q0 p2 p5)), .val (.int (v1 q1)), .val (.int (v2 q1)), .val (.int (v3 p3)), .val (.int (gq p4)), .val (.ref b10), .val (.int (1 : Int32)), .val (.int (1 : Int32)), .val (.int (1 : Int32)), .val (.int (1 : Int32)), .val (.int (1 : Int32))] [])) _
    refine XS.iload X23.here hx rfl (hb hby at_288) rfl ?_
    show Steps p.tables e below (T23.setTop (mkF m 290 #[.val (.long q0), .second, .val (.long q1), .second, .val (.int p2), .val (.int p3), .val (.int p4), .val (.int p5), .val (.int (k1 q0)), .val (.int (gk2 q0 p5)), .val (.int (gk3b q0 p2 p5)), .val (.int (v1 q1)), .val (.int (v2 q1)), .val (.int (v3 p3)), .val (.int (gq p4)), .val (.ref b10), .val (.int (1 : Int32)), .val (.int (1 : Int32)), .val (.int (1 : Int32)), .val (.int (1 : Int32)), .val (.int (1 : Int32))] [(.int (1 : Int32))])) _
    refine XS.ifNo X23.here hx rfl (hb hby at_290) rfl ((if0 _ _).trans (feq (by decide : ¬ ((1 : Int32) = (0 : Int32)))).1) ?_
    show Steps p.tables e below (T23.setTop (mkF m 293 #[.val (.long q0), .second, .val (.long q1), .second, .val (.int p2), .val (.int p3), .val (.int p4), .val (.int p5), .val (.int (k1 q0)), .val (.int (gk2 q0 p5)), .val (.int (gk3b q0 p2 p5)), .val (.int (v1 q1)), .val (.int (v2 q1)), .val (.int (v3 p3)), .val (.int (gq p4)), .val (.ref b10), .val (.int (1 : Int32)), .val (.int (1 : Int32)), .val (.int (1 : Int32)), .val (.int (1 : Int32)), .val (.int (1 : Int32))] [])) _
    refine XS.iload X23.here hx rfl (hb hby at_293) rfl ?_
    show Steps p.tables e below (T23.setTop (mkF m 295 #[.val (.long q0), .second, .val (.long q1), .second, .val (.int p2), .val (.int p3), .val (.int p4), .val (.int p5), .val (.int (k1 q0)), .val (.int (gk2 q0 p5)), .val (.int (gk3b q0 p2 p5)), .val (.int (v1 q1)), .val (.int (v2 q1)), .val (.int (v3 p3)), .val (.int (gq p4)), .val (.ref b10), .val (.int (1 : Int32)), .val (.int (1 : Int32)), .val (.int (1 : Int32)), .val (.int (1 : Int32)), .val (.int (1 : Int32))] [(.int (1 : Int32))])) _
    refine XS.ifNo X23.here hx rfl (hb hby at_295) rfl ((if0 _ _).trans (feq (by decide : ¬ ((1 : Int32) = (0 : Int32)))).1) ?_
    show Steps p.tables e below (T23.setTop (mkF m 298 #[.val (.long q0), .second, .val (.long q1), .second, .val (.int p2), .val (.int p3), .val (.int p4), .val (.int p5), .val (.int (k1 q0)), .val (.int (gk2 q0 p5)), .val (.int (gk3b q0 p2 p5)), .val (.int (v1 q1)), .val (.int (v2 q1)), .val (.int (v3 p3)), .val (.int (gq p4)), .val (.ref b10), .val (.int (1 : Int32)), .val (.int (1 : Int32)), .val (.int (1 : Int32)), .val (.int (1 : Int32)), .val (.int (1 : Int32))] [])) _
    refine XS.iload X23.here hx rfl (hb hby at_298) rfl ?_
    show Steps p.tables e below (T23.setTop (mkF m 300 #[.val (.long q0), .second, .val (.long q1), .second, .val (.int p2), .val (.int p3), .val (.int p4), .val (.int p5), .val (.int (k1 q0)), .val (.int (gk2 q0 p5)), .val (.int (gk3b q0 p2 p5)), .val (.int (v1 q1)), .val (.int (v2 q1)), .val (.int (v3 p3)), .val (.int (gq p4)), .val (.ref b10), .val (.int (1 : Int32)), .val (.int (1 : Int32)), .val (.int (1 : Int32)), .val (.int (1 : Int32)), .val (.int (1 : Int32))] [(.int (1 : Int32))])) _
    refine XS.ifNo X23.here hx rfl (hb hby at_300) rfl ((if0 _ _).trans (feq (by decide : ¬ ((1 : Int32) = (0 : Int32)))).1) ?_
    show Steps p.tables e below (T23.setTop (mkF m 303 #[.val (.long q0), .second, .val (.long q1), .second, .val (.int p2), .val (.int p3), .val (.int p4), .val (.int p5), .val (.int (k1 q0)), .val (.int (gk2 q0 p5)), .val (.int (gk3b q0 p2 p5)), .val (.int (v1 q1)), .val (.int (v2 q1)), .val (.int (v3 p3)), .val (.int (gq p4)), .val (.ref b10), .val (.int (1 : Int32)), .val (.int (1 : Int32)), .val (.int (1 : Int32)), .val (.int (1 : Int32)), .val (.int (1 : Int32))] [])) _
    refine XS.iconst X23.here hx rfl (hb hby at_303) ?_
    show Steps p.tables e below (T23.setTop (mkF m 304 #[.val (.long q0), .second, .val (.long q1), .second, .val (.int p2), .val (.int p3), .val (.int p4), .val (.int p5), .val (.int (k1 q0)), .val (.int (gk2 q0 p5)), .val (.int (gk3b q0 p2 p5)), .val (.int (v1 q1)), .val (.int (v2 q1)), .val (.int (v3 p3)), .val (.int (gq p4)), .val (.ref b10), .val (.int (1 : Int32)), .val (.int (1 : Int32)), .val (.int (1 : Int32)), .val (.int (1 : Int32)), .val (.int (1 : Int32))] [(.int (1 : Int32))])) _
    refine XS.goto X23.here hx rfl (pc0 := 304) (pc' := 308) rfl (hb hby at_304) (by decide) (by decide) ?_
    exact kt
  obtain ⟨fs, hr, hrun, hended, hW, hsame⟩ := X23.leave (v := some (.int (1 : Int32))) (fun h => by rw [Bd.returns] at h; cases h)
  refine ⟨_, _, pre0 _ (K24 _ ?_), hrun, hended, _, _, rfl, ?_, ⟨_, rfl⟩, hW, hsame.mono (by decide) (by decide)⟩
  · show Steps p.tables e below (T23.setTop (mkF m 308 #[.val (.long q0), .second, .val (.long q1), .second, .val (.int p2), .val (.int p3), .val (.int p4), .val (.int p5), .val (.int (k1 q0)), .val (.int (gk2 q0 p5)), .val (.int (gk3b q0 p2 p5)), .val (.int (v1 q1)), .val (.int (v2 q1)), .val (.int (v3 p3)), .val (.int (gq p4)), .val (.ref b10), .val (.int (1 : Int32)), .val (.int (1 : Int32)), .val (.int (1 : Int32)), .val (.int (1 : Int32)), .val (.int (1 : Int32))] [(.int (1 : Int32))])) _
    exact retN X23 hx (t := .boolean) Bd.returns (by simp) (hb hby at_308) hr
  · show Q0 Z q0 q1 p2 p3 p4 p5  h0 n0 _ T23.heap _
    rw [e23]
    exact ⟨rfl, N15⟩
set_option maxRecDepth 65536 in
set_option maxHeartbeats 40000000 in
theorem comes_1 {Post : Tables → Env → Array Value → State → Outcome → State → Prop} (hpost : ∀ tb e args s v u, (limb_1_1.after args s (.returned v) u = true ∧ limb_1_2.after args s (.returned v) u = true ∧ True) → FrameEnd s (.returned v) u (Jvm.fieldLocs frame_1_writes args s ++ Jvm.arrayLocs frame_1_arrays args s ++ Jvm.staticLocs frame_1_statics s) 24 128 → Post tb e args s (.returned v) u) :
    ArmFor flags0 classFile x code maxLocals ret World_1 tables_1 room_1 Calls_1 rest_1 Pre_1 Post := by
  intro l hfl _ _ p e ha hc hk s m args below hf hA hF happ hP
  obtain ⟨hcalls, hrest, hpre⟩ := hP
  obtain ⟨-, -, -, hnamed, -, -, -, hat⟩ := (Spec.applies_iff hf).mp happ
  obtain ⟨hg, hn⟩ := and_e (Cond.before_iff.mp (show (Jvm.Cond.and given_1 narrow_1).before args s = true from hpre))
  obtain ⟨hcount, hk0⟩ := and_e hg
  obtain ⟨hi0, hk1⟩ := and_e hk0
  obtain ⟨hi1, hk2⟩ := and_e hk1
  obtain ⟨hi2, hk3⟩ := and_e hk2
  obtain ⟨hi3, hk4⟩ := and_e hk3
  obtain ⟨hi4, hk5⟩ := and_e hk4
  have hi5 := hk5
  obtain ⟨w0, w1, w2, w3, w4, w5, rfl⟩ : ∃ w0 w1 w2 w3 w4 w5 : Value, args = #[w0, w1, w2, w3, w4, w5] := by
    have hs : args.size = 6 := by simpa [Cond.value, given_1] using hcount
    obtain ⟨L⟩ := args
    match L, hs with
    | [w0, w1, w2, w3, w4, w5], _ => exact ⟨w0, w1, w2, w3, w4, w5, rfl⟩
  have hw := fun d (hd : d ∈ tables_1) => atoms_spec (ws := Jvm.Cond.code x code maxLocals ret :: tables_1) hat d (List.mem_cons_of_mem _ hd)
  obtain ⟨i0, ei0⟩ := isL_v hi0
  obtain rfl : w0 = (.long i0) := Option.some.inj ei0
  obtain ⟨i1, ei1⟩ := isL_v hi1
  obtain rfl : w1 = (.long i1) := Option.some.inj ei1
  obtain ⟨i2, ei2⟩ := is_v hi2
  obtain rfl : w2 = (.int i2) := Option.some.inj ei2
  obtain ⟨i3, ei3⟩ := is_v hi3
  obtain rfl : w3 = (.int i3) := Option.some.inj ei3
  obtain ⟨i4, ei4⟩ := is_v hi4
  obtain rfl : w4 = (.int i4) := Option.some.inj ei4
  obtain ⟨i5, ei5⟩ := is_v hi5
  obtain rfl : w5 = (.int i5) := Option.some.inj ei5
  obtain ⟨n, o, h1, h2, h3, v, L, rfl, hQ, hq⟩ := rm0 l s _ hw tables_1 i0 i1 i2 i3 i4 i5 s.heap s.heap.size (Nat.le_refl _) p e ha hc hk s m _ below hf ((Spec.applies_iff_loose hf).mp happ).1 ⟨rfl, State.Warmed39.refl s, rfl⟩ trivial
  obtain ⟨rfl, N⟩ : v = some (.int 1) ∧ Fr s.heap.size L := by
    exact ⟨hQ.1, hQ.2⟩
  refine ⟨n, _, h1, h2, h3, hpost _ _ _ _ _ _ ⟨Cond.after_iff.mpr rfl, Cond.after_iff.mpr (eq_i res_at (Term.int_eval (1)) rfl), trivial⟩ ⟨hq.1, hq.2.1, (hq.2.2.sift fun y hy => Or.inr (N y hy)).mono (by decide) (by decide)⟩⟩
theorem main_1_1 : Claimed_1_1 := comes_1 fun _ _ _ _ _ _ h hF => ⟨h.1, hF⟩
theorem main_1_2 : Claimed_1_2 := comes_1 fun _ _ _ _ _ _ h hF => ⟨h.2.1, hF⟩
end Jvm.Pilot.@@N@@
namespace Jvm.Pilot.@@N@@
open Jvm Jvm.ClassFile Sem Op Lib Jvm.Free Jvm.Stand Jvm.Pilot.@@N@@.Jvm.D
/-! MADE BY PROGRAM (witnessworld.py) out of the Statement's table words and the real class files: 10 classes; the members and pool entries that the words name. The judged class is class 1, her method 1. -/
namespace start1
open Jvm.ClassFile
def u (s : String) : CpInfo := .utf8 (stringToUtf16 s)
/-- a pool by its gaps: so many unusable entries, then the entry; so many at the end -/
def gap : Nat → List CpInfo → List CpInfo
  | 0, r => r
  | n + 1, r => .unusable :: gap n r
def poolList (es : List (Nat × CpInfo)) (last : Nat) : List CpInfo := es.foldr (fun e r => gap e.1 (e.2 :: r)) (gap last [])
def pool (es : List (Nat × CpInfo)) (last : Nat) : Array CpInfo := ⟨poolList es last⟩
def fileOf (pool : Array CpInfo) (this : Nat) (attrs : Array Attribute := #[]) (ms : Array MethodInfo := #[]) (fl : Nat := 33) (sup : Nat := 0) (ifs : Array Nat := #[]) (fds : Array FieldInfo := #[]) : ClassFile where
  minorVersion := 0
  majorVersion := 65
  constantPool := pool
  accessFlags := fl
  thisClass := this
  superClass := sup
  interfaces := ifs
  fields := fds
  methods := ms
  attributes := attrs
def plain (name : String) (sup : Option ClassId) : Class where
  name := name
  kind := .ordinary
  loader := none
  accessFlags := 33
  super := sup
  interfaces := #[]
  cf := none
  fields := #[]
  methods := #[]
  instanceTypes := #[]
  staticTypes := #[]
  resolved := #[]
  callSites := []
  init := .initialized
  statics := none
  mirror := none

def pool0 : Array CpInfo := pool [(5, u "<init>"), (0, u "()V"), (1, .class_ 10), (1, u "java/lang/Object")] 113

def k0c0 : Code := { maxStack := 0, maxLocals := 1, code := object_method_1_code, exceptionTable := #[], attributes := #[] }
def k0m0 : Method := { name := "<init>", desc := "()V", sig := { parameters := [], returnType := none }, accessFlags := 1, code := some k0c0 }
/-- java/lang/Object -/
def k0 : Class := { plain "java/lang/Object" none with
  accessFlags := 33
  interfaces := #[]
  cf := some (fileOf pool0 8 #[] #[{ accessFlags := 1, nameIndex := 5, descriptorIndex := 6, attributes := #[] }] 33 0 #[] #[])
  fields := #[]
  methods := #[k0m0]
  instanceTypes := #[]
  staticTypes := #[]
  resolved := Array.replicate 124 none
  statics := none }

def pool1 : Array CpInfo := pool [(2, .class_ 4), (0, .nameAndType 5 6), (0, u "java/lang/Object"), (0, u "<init>"), (0, u "()V"), (0, .integer 2147483647), (0, .class_ 9), (0, u "com/example/mastiff/mastiff/IntMap"), (0, .methodref 8 3), (0, .methodref 8 12), (0, .nameAndType 13 14), (0, u "get"), (0, u "(I)I"), (0, .methodref 8 16), (0, .nameAndType 17 18), (0, u "put"), (0, u "(II)V"), (0, .methodref 20 21), (0, .class_ 22), (0, .nameAndType 23 24), (0, u "com/example/mastiff/mastiff/IntMapGetPinLaw"), (0, u "expected"), (0, u "(IIIIIII)I"), (2, u "law"), (0, u "(JJIIII)Z")] 3

def k1m0 : Method := { name := "<init>", desc := "()V", sig := { parameters := [], returnType := none }, accessFlags := 1, code := none }
def k1c1 : Code := { maxStack := 8, maxLocals := 21, code := code, exceptionTable := #[], attributes := #[] }
def k1m1 : Method := { name := "law", desc := "(JJIIII)Z", sig := { parameters := [.long, .long, .int, .int, .int, .int], returnType := some .boolean }, accessFlags := 9, code := some k1c1 }
def k1c2 : Code := { maxStack := 2, maxLocals := 7, code := method_3_code, exceptionTable := #[], attributes := #[] }
def k1m2 : Method := { name := "expected", desc := "(IIIIIII)I", sig := { parameters := [.int, .int, .int, .int, .int, .int, .int], returnType := some .int }, accessFlags := 10, code := some k1c2 }
/-- com/example/mastiff/mastiff/IntMapGetPinLaw -/
def k1 : Class := { plain "com/example/mastiff/mastiff/IntMapGetPinLaw" (some 0) with
  accessFlags := 49
  interfaces := #[]
  cf := some (fileOf pool1 20 #[] #[{ accessFlags := 1, nameIndex := 5, descriptorIndex := 6, attributes := #[] }, { accessFlags := 9, nameIndex := 27, descriptorIndex := 28, attributes := #[] }, { accessFlags := 10, nameIndex := 23, descriptorIndex := 24, attributes := #[] }] 49 2 #[] #[])
  fields := #[]
  methods := #[k1m0, k1m1, k1m2]
  instanceTypes := #[]
  staticTypes := #[]
  resolved := Array.replicate 32 none
  statics := none }

def pool2 : Array CpInfo := pool [(1, .methodref 2 3), (0, .class_ 4), (0, .nameAndType 5 6), (0, u "java/lang/Object"), (0, u "<init>"), (0, u "()V"), (0, .methodref 8 9), (0, .class_ 10), (0, .nameAndType 11 12), (0, u "com/example/mastiff/mastiff/IntMap"), (0, u "empty"), (0, u "(I)[I"), (0, .fieldref 8 14), (0, .nameAndType 15 16), (0, u "keys"), (0, u "[I"), (0, .fieldref 8 18), (0, .nameAndType 19 16), (0, u "values"), (0, .methodref 8 21), (0, .nameAndType 22 23), (0, u "slotOf"), (0, u "(I)I"), (0, .fieldref 8 25), (0, .nameAndType 26 27), (0, u "size"), (0, u "I"), (0, .methodref 8 29), (0, .nameAndType 30 6), (0, u "grow"), (0, .methodref 8 32), (0, .nameAndType 33 34), (0, u "putIfAbsent"), (0, u "(II)I"), (0, .methodref 8 36), (0, .nameAndType 37 23), (0, u "mix"), (0, .integer 2654435769), (0, .methodref 40 41), (0, .class_ 42), (0, .nameAndType 43 44), (0, u "java/util/Arrays"), (0, u "fill"), (0, u "([II)V"), (0, u "NONE"), (4, u "get"), (3, u "put"), (0, u "(II)V")] 7

def k2c0 : Code := { maxStack := 2, maxLocals := 1, code := prog_6_method_1_code, exceptionTable := #[], attributes := #[] }
def k2m0 : Method := { name := "<init>", desc := "()V", sig := { parameters := [], returnType := none }, accessFlags := 0, code := some k2c0 }
def k2c1 : Code := { maxStack := 2, maxLocals := 3, code := prog_6_method_2_code, exceptionTable := #[], attributes := #[] }
def k2m1 : Method := { name := "get", desc := "(I)I", sig := { parameters := [.int], returnType := some .int }, accessFlags := 0, code := some k2c1 }
def k2c2 : Code := { maxStack := 3, maxLocals := 5, code := prog_6_method_4_code, exceptionTable := #[], attributes := #[] }
def k2m2 : Method := { name := "putIfAbsent", desc := "(II)I", sig := { parameters := [.int, .int], returnType := some .int }, accessFlags := 0, code := some k2c2 }
def k2c3 : Code := { maxStack := 3, maxLocals := 3, code := prog_6_method_5_code, exceptionTable := #[], attributes := #[] }
def k2m3 : Method := { name := "put", desc := "(II)V", sig := { parameters := [.int, .int], returnType := none }, accessFlags := 0, code := some k2c3 }
def k2c4 : Code := { maxStack := 2, maxLocals := 4, code := prog_6_method_10_code, exceptionTable := #[], attributes := #[] }
def k2m4 : Method := { name := "slotOf", desc := "(I)I", sig := { parameters := [.int], returnType := some .int }, accessFlags := 2, code := some k2c4 }
def k2c5 : Code := { maxStack := 4, maxLocals := 5, code := prog_6_method_11_code, exceptionTable := #[], attributes := #[] }
def k2m5 : Method := { name := "grow", desc := "()V", sig := { parameters := [], returnType := none }, accessFlags := 2, code := some k2c5 }
def k2c6 : Code := { maxStack := 3, maxLocals := 2, code := prog_6_method_12_code, exceptionTable := #[], attributes := #[] }
def k2m6 : Method := { name := "mix", desc := "(I)I", sig := { parameters := [.int], returnType := some .int }, accessFlags := 10, code := some k2c6 }
def k2c7 : Code := { maxStack := 2, maxLocals := 2, code := prog_6_method_13_code, exceptionTable := #[], attributes := #[] }
def k2m7 : Method := { name := "empty", desc := "(I)[I", sig := { parameters := [.int], returnType := some (.array .int) }, accessFlags := 10, code := some k2c7 }
/-- com/example/mastiff/mastiff/IntMap -/
def k2 : Class := { plain "com/example/mastiff/mastiff/IntMap" (some 0) with
  accessFlags := 32
  interfaces := #[]
  cf := some (fileOf pool2 8 #[] #[{ accessFlags := 0, nameIndex := 5, descriptorIndex := 6, attributes := #[] }, { accessFlags := 0, nameIndex := 50, descriptorIndex := 23, attributes := #[] }, { accessFlags := 0, nameIndex := 33, descriptorIndex := 34, attributes := #[] }, { accessFlags := 0, nameIndex := 54, descriptorIndex := 55, attributes := #[] }, { accessFlags := 2, nameIndex := 22, descriptorIndex := 23, attributes := #[] }, { accessFlags := 2, nameIndex := 30, descriptorIndex := 6, attributes := #[] }, { accessFlags := 10, nameIndex := 37, descriptorIndex := 23, attributes := #[] }, { accessFlags := 10, nameIndex := 11, descriptorIndex := 12, attributes := #[] }] 32 2 #[] #[{ accessFlags := 24, nameIndex := 45, descriptorIndex := 27, attributes := #[] }, { accessFlags := 2, nameIndex := 15, descriptorIndex := 16, attributes := #[] }, { accessFlags := 2, nameIndex := 19, descriptorIndex := 16, attributes := #[] }, { accessFlags := 2, nameIndex := 26, descriptorIndex := 27, attributes := #[] }])
  fields := #[{ name := "NONE", type := .int, accessFlags := 24, slot := 0, constantValue := 0 }, { name := "keys", type := (.array .int), accessFlags := 2, slot := 0, constantValue := 0 }, { name := "values", type := (.array .int), accessFlags := 2, slot := 1, constantValue := 0 }, { name := "size", type := .int, accessFlags := 2, slot := 2, constantValue := 0 }]
  methods := #[k2m0, k2m1, k2m2, k2m3, k2m4, k2m5, k2m6, k2m7]
  instanceTypes := #[(.array .int), (.array .int), .int]
  staticTypes := #[.int]
  resolved := Array.replicate 63 none
  statics := none }

def pool3 : Array CpInfo := pool [(2, .class_ 4), (1, u "java/lang/Object"), (0, u "<init>"), (0, u "()V"), (7, .class_ 16), (1, u "java/util/Arrays"), (57, .class_ 76), (1, u "java/util/Arrays$NaturalOrder"), (36, .class_ 115), (1, u "java/util/Arrays$LegacyMergeSort"), (1, u "Z"), (257, .class_ 376), (0, u "java/util/Arrays$ArrayList"), (68, u "$assertionsDisabled"), (269, u "MIN_ARRAY_SORT_GRAN"), (0, u "I"), (2, u "INSERTIONSORT_THRESHOLD"), (120, u "fill"), (4, u "([II)V"), (129, .class_ 976), (0, u "java/util/Arrays$ArrayItr")] 52

def k3m0 : Method := { name := "<init>", desc := "()V", sig := { parameters := [], returnType := none }, accessFlags := 2, code := none }
def k3c1 : Code := { maxStack := 3, maxLocals := 4, code := jdk_65_method_103_code, exceptionTable := #[], attributes := #[] }
def k3m1 : Method := { name := "fill", desc := "([II)V", sig := { parameters := [(.array .int), .int], returnType := none }, accessFlags := 9, code := some k3c1 }
/-- java/util/Arrays -/
def k3 : Class := { plain "java/util/Arrays" (some 0) with
  accessFlags := 49
  interfaces := #[]
  cf := some (fileOf pool3 14 #[.nestMembers #[975, 375, 113, 74]] #[{ accessFlags := 2, nameIndex := 5, descriptorIndex := 6, attributes := #[] }, { accessFlags := 9, nameIndex := 840, descriptorIndex := 845, attributes := #[] }] 49 2 #[] #[{ accessFlags := 26, nameIndex := 715, descriptorIndex := 716, attributes := #[] }, { accessFlags := 26, nameIndex := 719, descriptorIndex := 716, attributes := #[] }, { accessFlags := 4120, nameIndex := 445, descriptorIndex := 117, attributes := #[] }])
  fields := #[{ name := "MIN_ARRAY_SORT_GRAN", type := .int, accessFlags := 26, slot := 0, constantValue := 0 }, { name := "INSERTIONSORT_THRESHOLD", type := .int, accessFlags := 26, slot := 1, constantValue := 0 }, { name := "$assertionsDisabled", type := .boolean, accessFlags := 4120, slot := 2, constantValue := 0 }]
  methods := #[k3m0, k3m1]
  instanceTypes := #[]
  staticTypes := #[.int, .int, .boolean]
  resolved := Array.replicate 1029 none
  statics := none }

def pool4 : Array CpInfo := pool [(1, u "java/lang/Cloneable"), (0, .class_ 1), (0, u "java/lang/Object"), (0, .class_ 3)] 3

/-- java/lang/Cloneable -/
def k4 : Class := { plain "java/lang/Cloneable" (some 0) with
  accessFlags := 1537
  interfaces := #[]
  cf := some (fileOf pool4 2 #[] #[] 1537 4 #[] #[])
  fields := #[]
  methods := #[]
  instanceTypes := #[]
  staticTypes := #[]
  resolved := Array.replicate 8 none
  statics := none }

def pool5 : Array CpInfo := pool [(1, u "java/io/Serializable"), (0, .class_ 1), (0, u "java/lang/Object"), (0, .class_ 3)] 3

/-- java/io/Serializable -/
def k5 : Class := { plain "java/io/Serializable" (some 0) with
  accessFlags := 1537
  interfaces := #[]
  cf := some (fileOf pool5 2 #[] #[] 1537 4 #[] #[])
  fields := #[]
  methods := #[]
  instanceTypes := #[]
  staticTypes := #[]
  resolved := Array.replicate 8 none
  statics := none }

/-- the primitive byte -/
def k6 : Class := { plain "byte" none with kind := .primitive 'B', accessFlags := 0x411 }
/-- [B -/
def k7 : Class := { plain "[B" (some 0) with kind := .array 6 .byte, interfaces := #[4, 5], accessFlags := 1041 }

/-- the primitive int -/
def k8 : Class := { plain "int" none with kind := .primitive 'I', accessFlags := 0x411 }
/-- [I -/
def k9 : Class := { plain "[I" (some 0) with kind := .array 8 .int, interfaces := #[4, 5], accessFlags := 1041 }

def heap : Heap := #[]
def classes : Array Class := #[k0, k1, k2, k3, k4, k5, k6, k7, k8, k9]
def interned : List (Array UInt16 × Addr) := []
def slotsUsed : Nat := 0
def theMethod : MethodId := ⟨1, 1⟩
def args0 : Array Value := #[.long 5, .long 5, .int 5, .int 5, .int 5, .int 5]
def aboutOver (below : List Frame) : State where
  vm := { classes := classes, interned := interned.toArray }
  heap := heap
  slotsUsed := slotsUsed
  threads := #[{ frames := .invoking theMethod args0 :: below }]
def below0 : List Frame := [.native { method := ⟨0, 0⟩, args := #[] }]
def about1 : State := aboutOver below0
def p0 : Program := .bare "" "" ""
def e0 : Env := launch0.env 0 0 0
theorem w_frames : about1.frames = Frame.invoking theMethod args0 :: below0 := rfl
set_option maxRecDepth 65536 in
theorem w_args : argsFit about1.vm theMethod args0 = true := by decide +kernel
set_option maxRecDepth 65536 in
theorem w_heap : heapFits about1 = true := by decide +kernel
set_option maxRecDepth 65536 in
theorem w_runnable : about1.curStatus? = some .runnable := by decide +kernel
set_option maxRecDepth 65536 in
theorem w_alone : about1.alone = true := by decide +kernel
set_option maxRecDepth 65536 in
theorem w_named : about1.methodNamed? x = some theMethod := by decide +kernel
set_option maxRecDepth 65536 in
theorem w_hears : about1.hears theMethod below0 = true := by decide +kernel
set_option maxRecDepth 65536 in
theorem w_ripe : about1.ripe theMethod args0 below0 = true := by decide +kernel
theorem w_running : about1.status = .running := rfl
set_option maxRecDepth 65536 in
theorem w_room : about1.hasRoom e0.platform room_1 = true :=
  launch0.hasRoom_least _ room_1 (by decide +kernel) (by decide +kernel) (by decide +kernel) (by decide +kernel) (by decide +kernel) (by decide +kernel)
theorem allAtoms_all (ts : List Jvm.Cond) (a : Array Jvm.Value) (st : Jvm.State) : (allAtoms ts).before a st = ts.all (fun c => c.before a st) := by
  induction ts with
  | nil => rfl
  | cons c t ih =>
    show (Jvm.Cond.and c (allAtoms t)).before a st = _
    rw [Jvm.Cond.before_and, ih, List.all_cons]
def words1 : List Jvm.Cond := Jvm.Cond.code x code maxLocals ret :: tables_1
/-- a 'code' word, met by the world's own term for the bytes: nothing is compared byte by byte -/
theorem code_word {y : MethodName} {bytes : ByteArray} {mx : Nat} {rt : Option FieldType} {a : Array Value} {s : State} {m : MethodId} {meth : Method} {c : Code} (h1 : s.methodNamed? y = some m) (h2 : s.vm.method? m = some meth) (h3 : meth.code = some c) (h4 : c.code = bytes)
    (h5 : (c.maxLocals == mx && c.exceptionTable.isEmpty && decide (c.maxStack ≤ mostOperands) && decide (meth.sig.returnType = rt) && !meth.locks && decide (parseMethodDescriptor y.desc = some meth.sig)) = true) : (Jvm.Cond.code y bytes mx rt).before a s = true := by
  simp only [Bool.and_eq_true, beq_iff_eq, Bool.not_eq_true', decide_eq_true_eq] at h5
  obtain ⟨⟨⟨⟨⟨g1, g2⟩, g3⟩, g4⟩, g5⟩, g6⟩ := h5
  simp [Cond.before, Cond.holds, Cond.value, h1, h2, h3, h4, g1, g2, g3, g4, g5, g6]
def isCode : Jvm.Cond → Bool
  | .code _ _ _ _ => true
  | _ => false
theorem all_split {L : List Jvm.Cond} {P : Jvm.Cond → Bool} (h1 : L.all (fun c => isCode c || P c) = true) (h2 : ∀ c ∈ L.filter isCode, P c = true) : L.all P = true := by
  refine List.all_eq_true.mpr fun c hc => ?_
  have h := List.all_eq_true.mp h1 c hc
  rcases Bool.eq_false_or_eq_true (isCode c) with hi | hi
  · exact h2 c (List.mem_filter.mpr ⟨hc, hi⟩)
  · simpa [hi] using h
set_option maxRecDepth 65536 in
theorem w_c0 : (Jvm.Cond.code x code maxLocals ret).before args0 about1 = true := code_word (m := ⟨1, 1⟩) (meth := k1m1) (c := k1c1) (by decide +kernel) rfl rfl rfl (by decide +kernel)
set_option maxRecDepth 65536 in
theorem w_c1 : (Jvm.Cond.code ({ cls := "com/example/mastiff/mastiff/IntMap", name := "<init>", desc := "()V" } : Jvm.MethodName) prog_6_method_1_code (1 : Nat) (Option.none : Option Jvm.ClassFile.FieldType)).before args0 about1 = true := code_word (m := ⟨2, 0⟩) (meth := k2m0) (c := k2c0) (by decide +kernel) rfl rfl rfl (by decide +kernel)
set_option maxRecDepth 65536 in
theorem w_c2 : (Jvm.Cond.code ({ cls := "java/lang/Object", name := "<init>", desc := "()V" } : Jvm.MethodName) object_method_1_code (1 : Nat) (Option.none : Option Jvm.ClassFile.FieldType)).before args0 about1 = true := code_word (m := ⟨0, 0⟩) (meth := k0m0) (c := k0c0) (by decide +kernel) rfl rfl rfl (by decide +kernel)
set_option maxRecDepth 65536 in
theorem w_c3 : (Jvm.Cond.code ({ cls := "com/example/mastiff/mastiff/IntMap", name := "empty", desc := "(I)[I" } : Jvm.MethodName) prog_6_method_13_code (2 : Nat) (Option.some (Jvm.ClassFile.FieldType.array Jvm.ClassFile.FieldType.int))).before args0 about1 = true := code_word (m := ⟨2, 7⟩) (meth := k2m7) (c := k2c7) (by decide +kernel) rfl rfl rfl (by decide +kernel)
set_option maxRecDepth 65536 in
theorem w_c4 : (Jvm.Cond.code ({ cls := "java/util/Arrays", name := "fill", desc := "([II)V" } : Jvm.MethodName) jdk_65_method_103_code (4 : Nat) (Option.none : Option Jvm.ClassFile.FieldType)).before args0 about1 = true := code_word (m := ⟨3, 1⟩) (meth := k3m1) (c := k3c1) (by decide +kernel) rfl rfl rfl (by decide +kernel)
set_option maxRecDepth 65536 in
theorem w_c5 : (Jvm.Cond.code ({ cls := "com/example/mastiff/mastiff/IntMap", name := "get", desc := "(I)I" } : Jvm.MethodName) prog_6_method_2_code (3 : Nat) (Option.some Jvm.ClassFile.FieldType.int)).before args0 about1 = true := code_word (m := ⟨2, 1⟩) (meth := k2m1) (c := k2c1) (by decide +kernel) rfl rfl rfl (by decide +kernel)
set_option maxRecDepth 65536 in
theorem w_c6 : (Jvm.Cond.code ({ cls := "com/example/mastiff/mastiff/IntMap", name := "slotOf", desc := "(I)I" } : Jvm.MethodName) prog_6_method_10_code (4 : Nat) (Option.some Jvm.ClassFile.FieldType.int)).before args0 about1 = true := code_word (m := ⟨2, 4⟩) (meth := k2m4) (c := k2c4) (by decide +kernel) rfl rfl rfl (by decide +kernel)
set_option maxRecDepth 65536 in
theorem w_c7 : (Jvm.Cond.code ({ cls := "com/example/mastiff/mastiff/IntMap", name := "mix", desc := "(I)I" } : Jvm.MethodName) prog_6_method_12_code (2 : Nat) (Option.some Jvm.ClassFile.FieldType.int)).before args0 about1 = true := code_word (m := ⟨2, 6⟩) (meth := k2m6) (c := k2c6) (by decide +kernel) rfl rfl rfl (by decide +kernel)
set_option maxRecDepth 65536 in
theorem w_c8 : (Jvm.Cond.code ({ cls := "com/example/mastiff/mastiff/IntMap", name := "put", desc := "(II)V" } : Jvm.MethodName) prog_6_method_5_code (3 : Nat) (Option.none : Option Jvm.ClassFile.FieldType)).before args0 about1 = true := code_word (m := ⟨2, 3⟩) (meth := k2m3) (c := k2c3) (by decide +kernel) rfl rfl rfl (by decide +kernel)
set_option maxRecDepth 65536 in
theorem w_c9 : (Jvm.Cond.code ({ cls := "com/example/mastiff/mastiff/IntMap", name := "putIfAbsent", desc := "(II)I" } : Jvm.MethodName) prog_6_method_4_code (5 : Nat) (Option.some Jvm.ClassFile.FieldType.int)).before args0 about1 = true := code_word (m := ⟨2, 2⟩) (meth := k2m2) (c := k2c2) (by decide +kernel) rfl rfl rfl (by decide +kernel)
set_option maxRecDepth 65536 in
theorem w_c10 : (Jvm.Cond.code ({ cls := "com/example/mastiff/mastiff/IntMapGetPinLaw", name := "expected", desc := "(IIIIIII)I" } : Jvm.MethodName) method_3_code (7 : Nat) (Option.some Jvm.ClassFile.FieldType.int)).before args0 about1 = true := code_word (m := ⟨1, 2⟩) (meth := k1m2) (c := k1c2) (by decide +kernel) rfl rfl rfl (by decide +kernel)
set_option maxRecDepth 65536 in
theorem w_c11 : (Jvm.Cond.code ({ cls := "com/example/mastiff/mastiff/IntMap", name := "grow", desc := "()V" } : Jvm.MethodName) prog_6_method_11_code (5 : Nat) (Option.none : Option Jvm.ClassFile.FieldType)).before args0 about1 = true := code_word (m := ⟨2, 5⟩) (meth := k2m5) (c := k2c5) (by decide +kernel) rfl rfl rfl (by decide +kernel)
def codes1 : List Jvm.Cond := [Jvm.Cond.code x code maxLocals ret, Jvm.Cond.code ({ cls := "com/example/mastiff/mastiff/IntMap", name := "<init>", desc := "()V" } : Jvm.MethodName) prog_6_method_1_code (1 : Nat) (Option.none : Option Jvm.ClassFile.FieldType), Jvm.Cond.code ({ cls := "java/lang/Object", name := "<init>", desc := "()V" } : Jvm.MethodName) object_method_1_code (1 : Nat) (Option.none : Option Jvm.ClassFile.FieldType), Jvm.Cond.code ({ cls := "com/example/mastiff/mastiff/IntMap", name := "empty", desc := "(I)[I" } : Jvm.MethodName) prog_6_method_13_code (2 : Nat) (Option.some (Jvm.ClassFile.FieldType.array Jvm.ClassFile.FieldType.int)), Jvm.Cond.code ({ cls := "java/util/Arrays", name := "fill", desc := "([II)V" } : Jvm.MethodName) jdk_65_method_103_code (4 : Nat) (Option.none : Option Jvm.ClassFile.FieldType), Jvm.Cond.code ({ cls := "com/example/mastiff/mastiff/IntMap", name := "get", desc := "(I)I" } : Jvm.MethodName) prog_6_method_2_code (3 : Nat) (Option.some Jvm.ClassFile.FieldType.int), Jvm.Cond.code ({ cls := "com/example/mastiff/mastiff/IntMap", name := "slotOf", desc := "(I)I" } : Jvm.MethodName) prog_6_method_10_code (4 : Nat) (Option.some Jvm.ClassFile.FieldType.int), Jvm.Cond.code ({ cls := "com/example/mastiff/mastiff/IntMap", name := "mix", desc := "(I)I" } : Jvm.MethodName) prog_6_method_12_code (2 : Nat) (Option.some Jvm.ClassFile.FieldType.int), Jvm.Cond.code ({ cls := "com/example/mastiff/mastiff/IntMap", name := "put", desc := "(II)V" } : Jvm.MethodName) prog_6_method_5_code (3 : Nat) (Option.none : Option Jvm.ClassFile.FieldType), Jvm.Cond.code ({ cls := "com/example/mastiff/mastiff/IntMap", name := "putIfAbsent", desc := "(II)I" } : Jvm.MethodName) prog_6_method_4_code (5 : Nat) (Option.some Jvm.ClassFile.FieldType.int), Jvm.Cond.code ({ cls := "com/example/mastiff/mastiff/IntMapGetPinLaw", name := "expected", desc := "(IIIIIII)I" } : Jvm.MethodName) method_3_code (7 : Nat) (Option.some Jvm.ClassFile.FieldType.int), Jvm.Cond.code ({ cls := "com/example/mastiff/mastiff/IntMap", name := "grow", desc := "()V" } : Jvm.MethodName) prog_6_method_11_code (5 : Nat) (Option.none : Option Jvm.ClassFile.FieldType)]
set_option maxRecDepth 65536 in
theorem codes_eq : words1.filter isCode = codes1 := rfl
theorem w_codes : ∀ c ∈ words1.filter isCode, c.before args0 about1 = true := by
  rw [codes_eq]
  intro c hc
  simp only [codes1, List.mem_cons, List.not_mem_nil, or_false] at hc
  rcases hc with rfl | rfl | rfl | rfl | rfl | rfl | rfl | rfl | rfl | rfl | rfl | rfl
  · exact w_c0
  · exact w_c1
  · exact w_c2
  · exact w_c3
  · exact w_c4
  · exact w_c5
  · exact w_c6
  · exact w_c7
  · exact w_c8
  · exact w_c9
  · exact w_c10
  · exact w_c11
set_option maxRecDepth 65536 in
theorem w_t1 : (words1.take 24).all (fun c => isCode c || c.before args0 about1) = true := by decide +kernel
set_option maxRecDepth 65536 in
theorem w_t2 : ((words1.drop 24).take 24).all (fun c => isCode c || c.before args0 about1) = true := by decide +kernel
set_option maxRecDepth 65536 in
theorem w_t3 : ((words1.drop 24).drop 24).all (fun c => isCode c || c.before args0 about1) = true := by decide +kernel
theorem w_tables : (allAtoms (Jvm.Cond.code x code maxLocals ret :: tables_1)).before args0 about1 = true := by
  rw [allAtoms_all]
  show words1.all (fun c => c.before args0 about1) = true
  refine all_split ?_ w_codes
  rw [← List.take_append_drop 24 words1, List.all_append, w_t1, ← List.take_append_drop 24 (words1.drop 24), List.all_append, w_t2, w_t3]
  rfl
set_option maxRecDepth 65536 in
theorem w_case : (Jvm.Cond.and given_1 narrow_1).before args0 about1 = true := by decide +kernel
theorem w_applies : (headSpec (Jvm.Cond.code x code maxLocals ret :: tables_1) room_1).applies x e0.platform about1 = true :=
  (Spec.applies_iff w_frames).mpr ⟨w_running, w_runnable, w_alone, w_named, w_hears, w_ripe, w_room, w_tables⟩
theorem atStart : AtStart classFile x code maxLocals ret World_1 tables_1 room_1 Calls_1 rest_1 Pre_1 launch0 p0 e0 about1 theMethod args0 below0 :=
  ⟨lists_1, trivial, launch0.admits_env _ _ _, launch0.least_env, fairChoices_fair.cas, fairChoices_fair.clock, w_frames, w_args, w_heap, w_applies, trivial, trivial, w_case⟩
end start1
theorem witness_1 : WitnessClaimed_1 := ⟨start1.p0, start1.e0, start1.about1, start1.theMethod, start1.args0, start1.below0, start1.atStart⟩
end Jvm.Pilot.@@N@@
