import JvmDerived
import JvmDerived.Pilot.@@N@@Statement
import JvmDerived.Pilot.@@N@@Code
set_option linter.unusedVariables false
set_option linter.unusedSimpArgs false
namespace Jvm.Pilot.@@N@@
open Jvm Jvm.ClassFile Sem Op Lib Jvm.Free Jvm.Stand Jvm.LawKit Jvm.RoadKit Bundle Jvm.Pilot.@@N@@.Jvm.D
-- BY HAND: an array of ints, bytes or chars, by the function that says what lies in each place
def up (f : Nat → Int32) (i : Nat) (v : Int32) : Nat → Int32 := fun j => if j = i then v else f j
theorem up_at (f : Nat → Int32) (i : Nat) (v : Int32) : up f i v i = v := if_pos rfl
theorem up_ne (f : Nat → Int32) {i j : Nat} (v : Int32) (h : j ≠ i) : up f i v j = f j := if_neg h
def Ia (Z : State) (h : Heap) (a : Addr) (ty : FieldType) (n : Nat) (f : Nat → Int32) : Prop :=
  ∃ c : Cell, Arr Z h a c ty ∧ c.slots.size = n ∧ n < 2147483648 ∧ ∀ j, j < n → c.slots[j]? = some (.int (f j)) ∧ fits ty (.int (f j)) = true
theorem clamp_of {j : Int32} {i : Nat} (h : j.toInt = (i : Int)) : j.toNatClampNeg = i := by
  rw [Int32.toNatClampNeg, h]; rfl
theorem inb {j : Int32} {i n : Nat} {c : Cell} (h : j.toInt = (i : Int)) (hn : i < n) (S : c.slots.size = n) : ¬ (j < 0 ∨ c.slots.size ≤ j.toNatClampNeg) := by
  rw [clamp_of h, Int32.lt_iff_toInt_lt, h, S, show (0 : Int32).toInt = 0 from rfl]
  omega
section OwnArr
variable {Z : State} {h h' : Heap} {a b : Addr} {ty : FieldType} {n : Nat} {f : Nat → Int32} {ws : List Addr} {sl : Nat} {v : Value}
theorem Ia.lt (F : Ia Z h a ty n f) : a < h.size := by obtain ⟨c, A, -⟩ := F; exact A.lt
theorem Ia.ext (F : Ia Z h a ty n f) (E : Ext h h') : Ia Z h' a ty n f := by obtain ⟨c, A, r⟩ := F; exact ⟨c, A.ext E, r⟩
theorem Ia.other (F : Ia Z h b ty n f) (W : Wr h h' a sl v) (q : b ≠ a) : Ia Z h' b ty n f := by obtain ⟨c, A, r⟩ := F; exact ⟨c, A.other W q, r⟩
theorem Ia.keep (F : Ia Z h a ty n f) (K : Keep h h' ws) (q : a ∉ ws) : Ia Z h' a ty n f := by obtain ⟨c, A, r⟩ := F; exact ⟨c, ⟨K.2.1 a c A.1 q, A.2⟩, r⟩
theorem Ia.fun {g : Nat → Int32} (F : Ia Z h a ty n f) (e : ∀ j, j < n → f j = g j) : Ia Z h a ty n g := by
  obtain ⟨c, A, S, q, H⟩ := F; exact ⟨c, A, S, q, fun j hj => by rw [← e j hj]; exact H j hj⟩
theorem Ia.set {c : Cell} (A : Arr Z h a c ty) (S : c.slots.size = n) (q : n < 2147483648) (H : ∀ j, j < n → c.slots[j]? = some (.int (f j)) ∧ fits ty (.int (f j)) = true) {i : Nat} {x : Int32} (W : Wr h h' a i (.int x)) (hf : fits ty (.int x) = true) : Ia Z h' a ty n (up f i x) := by
  refine ⟨c.setSlot i (.int x), A.same W, by rw [sz_set]; exact S, q, fun j hj => ?_⟩
  by_cases e : j = i
  · subst e
    rw [up_at]
    refine ⟨?_, hf⟩
    have : j < c.slots.size := by omega
    simp [Cell.setSlot, this]
  · rw [up_ne _ _ e]
    refine ⟨?_, (H j hj).2⟩
    have : ¬ i = j := fun z => e z.symm
    rw [← (H j hj).1]
    simp [Cell.setSlot, this]
theorem Ia.mk0 {k : ClassId} {z : Int32} (A : Arr Z h a (newA k ty z) ty) (hz : z.toInt = (n : Int)) (hd : defaultValue ty = .int 0) (hf : fits ty (.int 0) = true) : Ia Z h a ty n (fun _ => 0) := by
  have e := clamp_of hz
  have := rng32 z
  refine ⟨_, A, by rw [sz_new, e], by omega, fun j hj => ⟨?_, hf⟩⟩
  show (Array.replicate z.toNatClampNeg (defaultValue ty))[j]? = _
  rw [e, hd]
  simp [hj]
end OwnArr
section OwnSteps
variable {p : Program} {l : Launch} {e : Env} {R : Room} {s : State} {m : MethodId} {args : Array Value} {below : List Frame} {meth : Method} {c : Code} {T : State} {locs : List Loc} {cells slots : Nat} {Z : State} {a0 : Array Value} {h : Heap} {a : Addr} {n : Nat} {f : Nat → Int32} {ty : FieldType}
theorem iaI (X : Stand p l e R s m args below meth c T locs cells slots) (hx : p.tables.exec = Jvm.exec) (hZ : Z.Warmed39 s.vm) (eT : T.heap = h) (A : Ia Z h a .int n f) {j x : Int32} (i : Nat) (hi : j.toInt = (i : Int)) (hn : i < n) {g : JFrame} (hg : g.method = m) {rest : List Value} (hs : g.stack = .int x :: .int j :: .ref a :: rest) (hd : decode c.code g.pc = .ok (.iastore, 1)) :
    ∃ T' h', Stand p l e R s m args below meth c T' (locs ++ [⟨a, i⟩]) cells slots ∧ T'.heap = h' ∧ Wr h h' a i (.int x) ∧ Ia Z h' a .int n (up f i x) ∧ ∀ target, Steps p.tables e below (T'.setTop { g with pc := g.pc + 1, stack := rest }) target → Steps p.tables e below (T.setTop g) target := by
  obtain ⟨cl, A1, S, q, H⟩ := A
  obtain ⟨T', h', X', e', W, st⟩ := stI X hx hZ eT A1 (j := j) (inb hi hn S) hg hs hd
  rw [clamp_of hi] at X' W
  exact ⟨T', h', X', e', W, Ia.set A1 S q H W rfl, st⟩
theorem iaB (X : Stand p l e R s m args below meth c T locs cells slots) (hx : p.tables.exec = Jvm.exec) (hZ : Z.Warmed39 s.vm) (eT : T.heap = h) (A : Ia Z h a .byte n f) {j x : Int32} (i : Nat) (hi : j.toInt = (i : Int)) (hn : i < n) {g : JFrame} (hg : g.method = m) {rest : List Value} (hs : g.stack = .int x :: .int j :: .ref a :: rest) (hd : decode c.code g.pc = .ok (.bastore, 1)) :
    ∃ T' h', Stand p l e R s m args below meth c T' (locs ++ [⟨a, i⟩]) cells slots ∧ T'.heap = h' ∧ Wr h h' a i (.int (nar .byte x)) ∧ Ia Z h' a .byte n (up f i (nar .byte x)) ∧ ∀ target, Steps p.tables e below (T'.setTop { g with pc := g.pc + 1, stack := rest }) target → Steps p.tables e below (T.setTop g) target := by
  obtain ⟨cl, A1, S, q, H⟩ := A
  obtain ⟨T', h', X', e', W, st⟩ := stB X hx hZ eT A1 (j := j) (inb hi hn S) hg hs hd
  rw [clamp_of hi] at X' W
  exact ⟨T', h', X', e', W, Ia.set A1 S q H W (fits_nar_byte _), st⟩
theorem iaC (X : Stand p l e R s m args below meth c T locs cells slots) (hx : p.tables.exec = Jvm.exec) (hZ : Z.Warmed39 s.vm) (eT : T.heap = h) (A : Ia Z h a .char n f) {j x : Int32} (i : Nat) (hi : j.toInt = (i : Int)) (hn : i < n) {g : JFrame} (hg : g.method = m) {rest : List Value} (hs : g.stack = .int x :: .int j :: .ref a :: rest) (hd : decode c.code g.pc = .ok (.castore, 1)) :
    ∃ T' h', Stand p l e R s m args below meth c T' (locs ++ [⟨a, i⟩]) cells slots ∧ T'.heap = h' ∧ Wr h h' a i (.int (nar .char x)) ∧ Ia Z h' a .char n (up f i (nar .char x)) ∧ ∀ target, Steps p.tables e below (T'.setTop { g with pc := g.pc + 1, stack := rest }) target → Steps p.tables e below (T.setTop g) target := by
  obtain ⟨cl, A1, S, q, H⟩ := A
  obtain ⟨T', h', X', e', W, st⟩ := stC X hx hZ eT A1 (j := j) (inb hi hn S) hg hs hd
  rw [clamp_of hi] at X' W
  exact ⟨T', h', X', e', W, Ia.set A1 S q H W (fits_nar_char _), st⟩
theorem iaLI (X : Stand p l e R s m args below meth c T locs cells slots) (hx : p.tables.exec = Jvm.exec) (hZ : Z.Warmed39 s.vm) (eT : T.heap = h) (A : Ia Z h a .int n f) {j : Int32} (i : Nat) (hi : j.toInt = (i : Int)) (hn : i < n) {g : JFrame} (hg : g.method = m) {rest : List Value} (hs : g.stack = .int j :: .ref a :: rest) (hd : decode c.code g.pc = .ok (.iaload, 1)) (target : State)
    (k : Steps p.tables e below (T.setTop { g with pc := g.pc + 1, stack := .int (f i) :: rest }) target) : Steps p.tables e below (T.setTop g) target := by
  obtain ⟨cl, A1, S, q, H⟩ := A
  exact X.iaload hx (j := j) (v := .int (f i)) (by rw [eT]; exact A1.1) (State.isArrayOf_alike hZ.alike A1.2.1) A1.2.2 (inb hi hn S) (by rw [clamp_of hi]; exact (H i hn).1) hg hs hd target k
theorem iaLB (X : Stand p l e R s m args below meth c T locs cells slots) (hx : p.tables.exec = Jvm.exec) (hZ : Z.Warmed39 s.vm) (eT : T.heap = h) (A : Ia Z h a .byte n f) {j : Int32} (i : Nat) (hi : j.toInt = (i : Int)) (hn : i < n) {g : JFrame} (hg : g.method = m) {rest : List Value} (hs : g.stack = .int j :: .ref a :: rest) (hd : decode c.code g.pc = .ok (.baload, 1)) (target : State)
    (k : Steps p.tables e below (T.setTop { g with pc := g.pc + 1, stack := .int (f i) :: rest }) target) : Steps p.tables e below (T.setTop g) target := by
  obtain ⟨cl, A1, S, q, H⟩ := A
  exact X.baloadBytes hx (j := j) (v := .int (f i)) (by rw [eT]; exact A1.1) (State.isArrayOf_alike hZ.alike A1.2.1) A1.2.2 (inb hi hn S) (by rw [clamp_of hi]; exact (H i hn).1) hg hs hd target k
theorem iaLC (X : Stand p l e R s m args below meth c T locs cells slots) (hx : p.tables.exec = Jvm.exec) (hZ : Z.Warmed39 s.vm) (eT : T.heap = h) (A : Ia Z h a .char n f) {j : Int32} (i : Nat) (hi : j.toInt = (i : Int)) (hn : i < n) {g : JFrame} (hg : g.method = m) {rest : List Value} (hs : g.stack = .int j :: .ref a :: rest) (hd : decode c.code g.pc = .ok (.caload, 1)) (target : State)
    (k : Steps p.tables e below (T.setTop { g with pc := g.pc + 1, stack := .int (f i) :: rest }) target) : Steps p.tables e below (T.setTop g) target := by
  obtain ⟨cl, A1, S, q, H⟩ := A
  exact X.caload hx (j := j) (v := .int (f i)) (by rw [eT]; exact A1.1) (State.isArrayOf_alike hZ.alike A1.2.1) A1.2.2 (inb hi hn S) (by rw [clamp_of hi]; exact (H i hn).1) hg hs hd target k
theorem iaLen (X : Stand p l e R s m args below meth c T locs cells slots) (hx : p.tables.exec = Jvm.exec) (hZ : Z.Warmed39 s.vm) (eT : T.heap = h) (A : Ia Z h a ty n f) {g : JFrame} (hg : g.method = m) {rest : List Value} (hs : g.stack = .ref a :: rest) (hd : decode c.code g.pc = .ok (.arraylength, 1)) (target : State)
    (k : Steps p.tables e below (T.setTop { g with pc := g.pc + 1, stack := .int (Int32.ofNat n) :: rest }) target) : Steps p.tables e below (T.setTop g) target := by
  obtain ⟨cl, A1, S, q, H⟩ := A
  refine X.arraylength hx (by rw [eT]; exact A1.1) (State.isArrayOf_alike hZ.alike A1.2.1) hg hs hd target ?_
  rw [S]
  exact k
theorem iaNew (X : Stand p l e R s m args below meth c T locs cells slots) (hx : p.tables.exec = Jvm.exec) (hZ : Z.Warmed39 s.vm) {aty : ArrayType} (w : (Cond.arrayClass (newarray.typeOf aty)).before a0 Z = true) (eT : T.heap = h) {g : JFrame} (hg : g.method = m) (hd : decode c.code g.pc = .ok (.newarray aty, 2)) {z : Int32} {rest : List Value} (hs : g.stack = .int z :: rest)
    (n : Nat) (hz : z.toInt = (n : Int)) (cap : Nat) (hcap : n ≤ cap) (hb : cap * 8 ≤ 536870912) (hc : cells + 1 ≤ R.cells) (hl : slots + cap ≤ R.slots) (h1 : defaultValue (newarray.typeOf aty) = .int 0) (h2 : fits (newarray.typeOf aty) (.int 0) = true) :
    ∃ T' h', Stand p l e R s m args below meth c T' locs (cells + 1) (slots + cap) ∧ T'.heap = h' ∧ Ext h h' ∧ Ia Z h' h.size (newarray.typeOf aty) n (fun _ => 0) ∧
      ∀ target, Steps p.tables e below (T'.setTop { g with pc := g.pc + 2, stack := .ref h.size :: rest }) target → Steps p.tables e below (T.setTop g) target := by
  obtain ⟨T', h', cA, X', e', E, A, st⟩ := newP X hx hZ w eT hg hd hs (by rw [Int32.lt_iff_toInt_lt, hz, show (0 : Int32).toInt = 0 from rfl]; omega) (cap := cap) (by rw [clamp_of hz]; exact hcap) hb hc hl
  exact ⟨T', h', X', e', E, Ia.mk0 A hz h1 h2, st⟩
end OwnSteps
section OwnSteps2
variable {p : Program} {l : Launch} {e : Env} {R : Room} {s : State} {m : MethodId} {args : Array Value} {below : List Frame} {meth : Method} {c : Code} {T : State} {locs : List Loc} {cells slots : Nat} {Z : State} {a0 : Array Value} {h : Heap} {a : Addr} {n : Nat} {f : Nat → Int32} {ty : FieldType}
theorem iaNewE (X : Stand p l e R s m args below meth c T locs cells slots) (hx : p.tables.exec = Jvm.exec) (hZ : Z.Warmed39 s.vm) {aty : ArrayType} (w : (Cond.arrayClass (newarray.typeOf aty)).before a0 Z = true) (eT : T.heap = h) {g : JFrame} (hg : g.method = m) (hd : decode c.code g.pc = .ok (.newarray aty, 2)) {z : Int32} {rest : List Value} (hs : g.stack = .int z :: rest)
    (n : Nat) (hz : z.toInt = (n : Int)) (cap : Nat) (hcap : n ≤ cap) (hb : cap * 8 ≤ 536870912) (hc : cells + 1 ≤ R.cells) (hl : slots + cap ≤ R.slots) (h1 : defaultValue (newarray.typeOf aty) = .int 0) (h2 : fits (newarray.typeOf aty) (.int 0) = true) {ad : String} (had : "[" ++ (newarray.typeOf aty).toString = ad) :
    ∃ T' h', Stand p l e R s m args below meth c T' locs (cells + 1) (slots + cap) ∧ T'.heap = h' ∧ Ext h h' ∧ Ia Z h' h.size (newarray.typeOf aty) n (fun _ => 0) ∧ Exa Z h' h.size ad ∧
      ∀ target, Steps p.tables e below (T'.setTop { g with pc := g.pc + 2, stack := .ref h.size :: rest }) target → Steps p.tables e below (T.setTop g) target := by
  obtain ⟨T', h', cA, X', e', E, A, B, st⟩ := newPE X hx hZ w eT hg hd hs (by rw [Int32.lt_iff_toInt_lt, hz, show (0 : Int32).toInt = 0 from rfl]; omega) (cap := cap) (by rw [clamp_of hz]; exact hcap) hb hc hl had
  exact ⟨T', h', X', e', E, Ia.mk0 A hz h1 h2, B, st⟩
theorem iaClone (X : Stand p l e R s m args below meth c T locs cells slots) (hx : p.tables.exec = Jvm.exec) (hZ : Z.Warmed39 s.vm) {own ad : String} {index : Nat} (hown : s.vm.findClass own = some m.cls)
    (w1 : (Cond.methodLink own index ⟨ad, "clone", "()Ljava/lang/Object;"⟩).before a0 Z = true) (w2 : (Cond.sameMethod ad "java/lang/Object" "clone" "()Ljava/lang/Object;").before a0 Z = true) (w3 : (Cond.native ⟨"java/lang/Object", "clone", "()Ljava/lang/Object;"⟩).before a0 Z = true)
    (w4 : (Cond.instanceMethod ⟨"java/lang/Object", "clone", "()Ljava/lang/Object;"⟩).before a0 Z = true) (w5 : (Cond.selects ad ⟨ad, "clone", "()Ljava/lang/Object;"⟩ ⟨"java/lang/Object", "clone", "()Ljava/lang/Object;"⟩).before a0 Z = true) (w6 : (Cond.castable ad "java/lang/Cloneable").before a0 Z = true)
    (eT : T.heap = h) (A : Ia Z h a ty n f) (E : Exa Z h a ad) {g : JFrame} (hg : g.method = m) (hsize : g.locals.size = c.maxLocals) {rest : List Value} (hs : g.stack = .ref a :: rest) (hd : decode c.code g.pc = .ok (.invokevirtual index, 3))
    (hf : 1 ≤ R.frames) {W cap : Nat} (hW : 2 * g.monitorRoom + (rest.map fun v => v.category).sum ≤ W) (hl : W + 14 ≤ R.locals) (hcap : n ≤ cap) (hc : cells + 1 ≤ R.cells) (hsl : slots + cap ≤ R.slots) :
    ∃ T' h', Stand p l e R s m args below meth c T' locs (cells + 1) (slots + cap) ∧ T'.heap = h' ∧ Ext h h' ∧ Ia Z h' h.size ty n f ∧ Exa Z h' h.size ad ∧
      ∀ target, Steps p.tables e below (T'.setTop { g with pc := g.pc + 3, stack := .ref h.size :: rest }) target → Steps p.tables e below (T.setTop g) target := by
  obtain ⟨cl, A1, S, q, H⟩ := A
  have FC : FitC Z cl := fitC_of A1 fun i hi v hv => by
    have h1 := H i (S ▸ hi)
    rw [h1.1] at hv
    cases hv
    exact h1.2
  obtain ⟨T', h', X', e', ex, A', E', st⟩ := cloneA X hx hZ hown w1 w2 w3 w4 w5 w6 eT A1 E FC hg hsize hs hd hf hW hl (by rw [S]; exact hcap) hc hsl
  exact ⟨T', h', X', e', ex, ⟨cloneOf cl, A', S, q, H⟩, E', st⟩
end OwnSteps2
theorem own_narb {x : Int32} (h : fits .byte (.int x) = true) : nar .byte x = x := by
  have h1 := rng_byte h
  have h2 := c_i2b x
  apply Int32.toInt_inj.mp
  show x.toInt8.toInt32.toInt = x.toInt
  rw [Int32.lt_iff_toInt_lt, Int32.lt_iff_toInt_lt, show (-128 : Int32).toInt = -128 from rfl, show (127 : Int32).toInt = 127 from rfl] at h1
  omega
theorem Ia.fit {Z : State} {h : Heap} {a : Addr} {n : Nat} {f : Nat → Int32} {ty : FieldType} (F : Ia Z h a ty n f) {j : Nat} (hj : j < n) : fits ty (.int (f j)) = true := by
  obtain ⟨c, A, S, q, H⟩ := F; exact (H j hj).2
theorem own_getD (n : Nat) (f : Nat → Int32) (j : Nat) (hj : j < n) : ((List.range n).map fun t => Value.int (f t)).getD j (.int 0) = .int (f j) := by simp [List.getD_eq_getElem?_getD, hj]
theorem Ia.arv {Z : State} {h : Heap} {a : Addr} {n : Nat} {f : Nat → Int32} {ty : FieldType} (F : Ia Z h a ty n f) : ∃ k, Arv Z h a k ty (Int32.ofNat n) ((List.range n).map fun t => Value.int (f t)) (.int 0) := by
  obtain ⟨c, A, S, q, H⟩ := F
  have e : (Int32.ofNat n).toInt = (n : Int) := Int32.toInt_ofNat_of_lt (by omega)
  refine ⟨c.cls, c, A, rfl, by rw [clamp_of e]; exact S, by rw [Int32.lt_iff_toInt_lt, e, show (0 : Int32).toInt = 0 from rfl]; omega, fun j hj => ?_, fun j hj => ?_⟩
  · rw [own_getD n f j (by omega)]; exact (H j (by omega)).1
  · rw [own_getD n f j (by omega)]; exact (H j (by omega)).2
theorem Arv.ia {Z : State} {h : Heap} {a : Addr} {k : ClassId} {n : Nat} {ty : FieldType} {vs : List Value} {g : Nat → Int32} (F : Arv Z h a k ty (Int32.ofNat n) vs (.int 0)) (hn : n < 2147483648) (hg : ∀ j, j < n → vs.getD j (.int 0) = .int (g j)) : Ia Z h a ty n g := by
  obtain ⟨c, A, -, S, -, H, G⟩ := F
  have e : (Int32.ofNat n).toInt = (n : Int) := Int32.toInt_ofNat_of_lt (by omega)
  rw [clamp_of e] at S
  refine ⟨c, A, S, hn, fun j hj => ?_⟩
  have h1 := H j (by omega)
  have h2 := G j (by omega)
  rw [hg j hj] at h1 h2
  exact ⟨h1, h2⟩
theorem Ia.lt31 {Z : State} {h : Heap} {a : Addr} {n : Nat} {f : Nat → Int32} {ty : FieldType} (F : Ia Z h a ty n f) : n < 2147483648 := by obtain ⟨c, A, S, q, H⟩ := F; exact q
section OwnSteps3
variable {p : Program} {l : Launch} {e : Env} {R : Room} {s : State} {m : MethodId} {args : Array Value} {below : List Frame} {meth : Method} {c : Code} {T : State} {locs : List Loc} {cells slots : Nat} {Z : State} {a0 : Array Value} {h : Heap} {a b : Addr} {n n' : Nat} {f f' : Nat → Int32}
theorem iaCopy (X : Stand p l e R s m args below meth c T locs cells slots) (hx : p.tables.exec = Jvm.exec) (hZ : Z.Warmed39 s.vm) {own : String} {index : Nat} (hown : s.vm.findClass own = some m.cls)
    (w1 : (Cond.methodLink own index Jvm.Stand.acN).before a0 Z = true) (w2 : (Cond.native Jvm.Stand.acN).before a0 Z = true) (w3 : (Cond.static Jvm.Stand.acN).before a0 Z = true) (w4 : (Cond.initialized "java/lang/System").before a0 Z = true) (eT : T.heap = h)
    (A : Ia Z h a .byte n f) (B : Ia Z h b .byte n' f') {sp dp nn : Int32} (i j w : Nat) (hi : sp.toInt = (i : Int)) (hj : dp.toInt = (j : Int)) (hw : nn.toInt = (w : Int)) (h4 : i + w ≤ n) (h5 : j + w ≤ n') {n0 : Nat} (N : Fr n0 locs) (ge : n0 ≤ b)
    {g : JFrame} (hg : g.method = m) (hsize : g.locals.size = c.maxLocals) {rest : List Value} (hs : g.stack = .int nn :: .int dp :: .ref b :: .int sp :: .ref a :: rest) (hd : decode c.code g.pc = .ok (.invokestatic index, 3))
    (hf : 1 ≤ R.frames) {W : Nat} (hW : 2 * g.monitorRoom + (rest.map fun v => v.category).sum ≤ W) (hlo : W + (nativeFrameWords "java/lang/System" "arraycopy" 5 + 11) ≤ R.locals) :
    ∃ T' h' L, Stand p l e R s m args below meth c T' L cells slots ∧ T'.heap = h' ∧ Fr n0 L ∧ Keep h h' [b] ∧ Ia Z h' b .byte n' (fun t => if j ≤ t ∧ t < j + w then f (i + (t - j)) else f' t) ∧
      ∀ target, Steps p.tables e below (T'.setTop { g with pc := g.pc + 3, stack := rest }) target → Steps p.tables e below (T.setTop g) target := by
  obtain ⟨k, A'⟩ := A.arv
  obtain ⟨k', B'⟩ := B.arv
  have hn' := B.lt31
  have hn := A.lt31
  have en : (Int32.ofNat n).toInt = (n : Int) := Int32.toInt_ofNat_of_lt (by omega)
  have en' : (Int32.ofNat n').toInt = (n' : Int) := Int32.toInt_ofNat_of_lt (by omega)
  have nn0 : ∀ {x : Int32} {t : Nat}, x.toInt = (t : Int) → ¬ x < 0 := fun {x t} hx => by rw [Int32.lt_iff_toInt_lt, hx, show (0 : Int32).toInt = 0 from rfl]; omega
  obtain ⟨T', h', L, X', e', N', K', A2, st⟩ := cpA X hx hZ hown w1 w2 w3 w4 eT A' B' (Or.inl ⟨rfl, rfl⟩) (nn0 hi) (nn0 hj) (nn0 hw) (by rw [clamp_of hi, clamp_of hw, clamp_of en]; exact h4) (by rw [clamp_of hj, clamp_of hw, clamp_of en']; exact h5) rfl (by rw [clamp_of hj, clamp_of hw]; simp; exact h5) N ge hg hsize hs hd hf hW hlo
  refine ⟨T', h', L, X', e', N', K', Arv.ia A2 hn' (fun t ht => ?_), st⟩
  rw [clamp_of hi, clamp_of hj, clamp_of hw]
  by_cases q : j ≤ t ∧ t < j + w
  · rw [if_pos q]
    have h1 : t - j < w := by omega
    simp [List.getD_eq_getElem?_getD, List.getElem?_append, Nat.min_eq_left (show j ≤ n' by omega), show ¬ t < j by omega, q.2, h1, show i + (t - j) < n by omega]
  · rw [if_neg q]
    by_cases z : t < j
    · simp [List.getD_eq_getElem?_getD, List.getElem?_append, Nat.min_eq_left (show j ≤ n' by omega), z, show t < j + w by omega, ht]
    · have h2 : ¬ t < j + w := fun y => q ⟨by omega, y⟩
      simp [List.getD_eq_getElem?_getD, List.getElem?_append, Nat.min_eq_left (show j ≤ n' by omega), z, h2, show ¬ t - j < w by omega, show j + w + (t - j - w) = t by omega, show j + w + (t - (j + w)) = t by omega, ht]
end OwnSteps3
theorem own_sel {Z s : State} {a0 args : Array Value} {y : MethodName} {n : Nat} (hZ : Z.Warmed39 s.vm) (wi : (Jvm.Cond.instantiable y.cls n).before a0 Z = true) (wp : (Jvm.Cond.privateMethod y).before a0 Z = true) (wm : (Jvm.Cond.instanceMethod y).before a0 Z = true) (hy : y.cls ≠ "java/lang/invoke/MethodHandle" ∧ y.cls ≠ "java/lang/invoke/VarHandle") : (Jvm.Cond.selects y.cls y y).before args s = true := by
  obtain ⟨c, k, h1, h2, -, h4, -⟩ := Cond.instantiable_spec wi
  have h5 : k.isInterface = false := by cases h : k.isInterface <;> simp [h] at h4 ⊢
  exact mvT hZ (selects_self_of_private (args := a0) h1 h2 h5 (Cond.privateMethod_at wp) wm hy)
-- BY HAND: a BoundedBuffer, whole; x: the array that is copied out of
def Bb (Z : State) (h : Heap) (n0 : Nat) (o x : Addr) (fs : Nat → Int32) (lim sz cap : Nat) (f : Nat → Int32) : Prop :=
  ∃ (a : Addr) (lv sv : Int32), Exa Z h o "com/example/benchwire/benchwire/protocols/BoundedBuffer" ∧ Fld Z h o "com/example/benchwire/benchwire/protocols/BoundedBuffer" "limit" "I" (.int lv) ∧ Fld Z h o "com/example/benchwire/benchwire/protocols/BoundedBuffer" "bytes" "[B" (.ref a) ∧ Fld Z h o "com/example/benchwire/benchwire/protocols/BoundedBuffer" "size" "I" (.int sv) ∧ Ia Z h a .byte cap f ∧ Ia Z h x .byte 300 fs ∧
    n0 ≤ o ∧ n0 ≤ a ∧ o ≠ a ∧ o ≠ x ∧ a ≠ x ∧ lv.toInt = (lim : Int) ∧ sv.toInt = (sz : Int) ∧ lim ≤ 511 ∧ sz ≤ cap ∧ cap ≤ lim ∧ (cap = lim ∨ cap = 256)
theorem own_bbE {Z : State} {h : Heap} {n0 : Nat} {o x : Addr} {fs : Nat → Int32} {lim sz cap : Nat} {f : Nat → Int32} (I : Bb Z h n0 o x fs lim sz cap f) : Exa Z h o "com/example/benchwire/benchwire/protocols/BoundedBuffer" := by
  obtain ⟨a, lv, sv, E, -⟩ := I; exact E
theorem own_tn {n : Nat} (h : n ≤ 1000) : (Int32.ofNat n).toInt = (n : Int) := Int32.toInt_ofNat_of_lt (by omega)
theorem own_sub32 {a b : Int32} (h1 : -2147483648 ≤ a.toInt - b.toInt) (h2 : a.toInt - b.toInt < 2147483648) : (a - b).toInt = a.toInt - b.toInt := by
  have := c_isub a b; have := rng32 (a - b); omega
theorem own_add32 {a b : Int32} (h1 : -2147483648 ≤ a.toInt + b.toInt) (h2 : a.toInt + b.toInt < 2147483648) : (a + b).toInt = a.toInt + b.toInt := by
  have := c_iadd a b; have := rng32 (a + b); omega
theorem own_eq0 {r : Int32} {n : Nat} (h : r.toInt = (n : Int)) {q : Int32} (hq : q.toInt = (n : Int)) : r = q := Int32.toInt_inj.mp (by rw [h, hq])
theorem ef_3 (m : MethodId) (x0 : Int32) (x1 : Int32) : entryFrame m #[(.int x0), (.int x1)] 2 = mkF m 0 #[.val (.int x0), .val (.int x1)] [] := by first | (simp [entryFrame, mkF, argsToLocals, Value.category]; done) | rfl
theorem d3_0 : decode jdk_29_method_69_code 0 = .ok (.iload_n 0, 1) := by decide +kernel
theorem d3_1 : decode jdk_29_method_69_code 1 = .ok (.iload_n 1, 1) := by decide +kernel
theorem d3_2 : decode jdk_29_method_69_code 2 = .ok (.if_icmp .gt 7, 3) := by decide +kernel
theorem d3_9 : decode jdk_29_method_69_code 9 = .ok (.iload_n 1, 1) := by decide +kernel
theorem d3_10 : decode jdk_29_method_69_code 10 = .ok (.ireturn, 1) := by decide +kernel
theorem d3_5 : decode jdk_29_method_69_code 5 = .ok (.iload_n 0, 1) := by decide +kernel
theorem d3_6 : decode jdk_29_method_69_code 6 = .ok (.goto 4, 3) := by decide +kernel
def f3 (p0 : Int32) (p1 : Int32) : Int32 := if p1 < p0 then p1
  else p0
def Q3 (Z : State) (p0 : Int32) (p1 : Int32)  (h0 : Heap) (v : Option Value) (h : Heap) (L : List Loc) : Prop := v = some (.int (f3 p0 p1)) ∧ L = [] ∧ h = h0
set_option maxRecDepth 65536 in
set_option maxHeartbeats 40000000 in
theorem rm3 (l : Launch) (Z : State) (a0 : Array Value) (hw : ∀ d ∈ tables_1, d.before a0 Z = true) (ws : List Jvm.Cond) (p0 : Int32) (p1 : Int32)  (h0 : Heap)  :
    MetFree l (⟨"java/lang/Math", "min", "(II)I"⟩ : MethodName) (head1 (Jvm.Cond.code (⟨"java/lang/Math", "min", "(II)I"⟩ : MethodName) jdk_29_method_69_code 2 (some .int) :: ws) ({ frames := 0, cells := 0, slots := 0, locals := 0 } : Room)) (fun a U => a = #[(.int p0), (.int p1)] ∧ Z.Warmed39 U.vm ∧ U.heap = h0) (fun _ _ _ _ _ => True) (fun _ U o U' => ∃ v L, o = .returned v ∧ Q3 Z p0 p1  h0 v U'.heap L ∧ FrameEnd U o U' L ({ frames := 0, cells := 0, slots := 0, locals := 0 } : Room).cells ({ frames := 0, cells := 0, slots := 0, locals := 0 } : Room).slots) := by
  refine MetFree.of_bodySF (Jvm.Free.JP.mathPlain rfl (by decide +kernel)) hisR ?_
  intro p e s m args below meth c s₁ Bd hml0 hP hK
  obtain ⟨rfl, hZ, hh⟩ := hP
  have hx := Bd.exec
  have hby := Bd.bytes
  have hml : c.maxLocals = 2 := hml0
  have hown : s.vm.findClass "java/lang/Math" = some m.cls := findClass_of_methodNamed Bd.named
  have hnm := (name_of_methodNamed Bd.named Bd.method).1
  have X0 : Stand p l e ({ frames := 0, cells := 0, slots := 0, locals := 0 } : Room) s m #[(.int p0), (.int p1)] below meth c s₁ [] 0 0 := Stand.of_body Bd
  have e0 : s₁.heap = h0 := by rw [← hh, Bd.state]; rfl
  have pre0 : ∀ t, Steps p.tables e below (s₁.setTop (mkF m 0 #[.val (.int p0), .val (.int p1)] [])) t → Steps p.tables e below (s₁.setTop (entryFrame m #[(.int p0), (.int p1)] 2)) t := fun t k => castTop (ef_3 m p0 p1) k
  have K1 : ∀ t, Steps p.tables e below (s₁.setTop (mkF m 2 #[.val (.int p0), .val (.int p1)] [(.int p1), (.int p0)])) t → Steps p.tables e below (s₁.setTop (mkF m 0 #[.val (.int p0), .val (.int p1)] [])) t := by
    intro t kt
    show Steps p.tables e below (s₁.setTop (mkF m 0 #[.val (.int p0), .val (.int p1)] [])) _
    refine XS.iloadN X0.here hx rfl (hb hby d3_0) rfl ?_
    show Steps p.tables e below (s₁.setTop (mkF m 1 #[.val (.int p0), .val (.int p1)] [(.int p0)])) _
    refine XS.iloadN X0.here hx rfl (hb hby d3_1) rfl ?_
    exact kt
  by_cases hc2 : p1 < p0
  · skip
    have K3 : ∀ t, Steps p.tables e below (s₁.setTop (mkF m 10 #[.val (.int p0), .val (.int p1)] [(.int p1)])) t → Steps p.tables e below (s₁.setTop (mkF m 0 #[.val (.int p0), .val (.int p1)] [])) t := by
      intro t kt
      refine K1 _ ?_
      show Steps p.tables e below (s₁.setTop (mkF m 2 #[.val (.int p0), .val (.int p1)] [(.int p1), (.int p0)])) _
      refine XS.icmpYes X0.here hx rfl (pc0 := 2) (pc' := 9) rfl (hb hby d3_2) rfl (tlt hc2).2.2.1 (by decide) (by decide) ?_
      show Steps p.tables e below (s₁.setTop (mkF m 9 #[.val (.int p0), .val (.int p1)] [])) _
      refine XS.iloadN X0.here hx rfl (hb hby d3_9) rfl ?_
      exact kt
    have hv : f3 p0 p1 = p1 := by simp only [f3, if_pos hc2]
    obtain ⟨fsQ, hr, hrun, hended, hW, hsame⟩ := X0.leave (v := some (.int p1)) (fun h => by rw [Bd.returns] at h; cases h)
    refine ⟨_, _, pre0 _ (K3 _ ?_), hrun, hended, _, _, rfl, ?_, ⟨_, rfl⟩, hW, hsame.mono (by decide) (by decide)⟩
    · show Steps p.tables e below (s₁.setTop (mkF m 10 #[.val (.int p0), .val (.int p1)] [(.int p1)])) _
      exact retOut X0 hx Bd.returns rfl (Or.inl ⟨rfl, Or.inl rfl, _, rfl⟩) (hb hby d3_10) hr
    · show Q3 Z p0 p1  h0 _ s₁.heap _
      rw [e0]
      exact ⟨by rw [hv], rfl, rfl⟩
  · skip
    have K4 : ∀ t, Steps p.tables e below (s₁.setTop (mkF m 10 #[.val (.int p0), .val (.int p1)] [(.int p0)])) t → Steps p.tables e below (s₁.setTop (mkF m 0 #[.val (.int p0), .val (.int p1)] [])) t := by
      intro t kt
      refine K1 _ ?_
      show Steps p.tables e below (s₁.setTop (mkF m 2 #[.val (.int p0), .val (.int p1)] [(.int p1), (.int p0)])) _
      refine XS.icmpNo X0.here hx rfl (hb hby d3_2) rfl (flt hc2).2.2.1 ?_
      show Steps p.tables e below (s₁.setTop (mkF m 5 #[.val (.int p0), .val (.int p1)] [])) _
      refine XS.iloadN X0.here hx rfl (hb hby d3_5) rfl ?_
      show Steps p.tables e below (s₁.setTop (mkF m 6 #[.val (.int p0), .val (.int p1)] [(.int p0)])) _
      refine XS.goto X0.here hx rfl (pc0 := 6) (pc' := 10) rfl (hb hby d3_6) (by decide) (by decide) ?_
      exact kt
    have hv : f3 p0 p1 = p0 := by simp only [f3, if_neg hc2]
    obtain ⟨fsQ, hr, hrun, hended, hW, hsame⟩ := X0.leave (v := some (.int p0)) (fun h => by rw [Bd.returns] at h; cases h)
    refine ⟨_, _, pre0 _ (K4 _ ?_), hrun, hended, _, _, rfl, ?_, ⟨_, rfl⟩, hW, hsame.mono (by decide) (by decide)⟩
    · show Steps p.tables e below (s₁.setTop (mkF m 10 #[.val (.int p0), .val (.int p1)] [(.int p0)])) _
      exact retOut X0 hx Bd.returns rfl (Or.inl ⟨rfl, Or.inl rfl, _, rfl⟩) (hb hby d3_10) hr
    · show Q3 Z p0 p1  h0 _ s₁.heap _
      rw [e0]
      exact ⟨by rw [hv], rfl, rfl⟩
theorem ef_12 (m : MethodId) (x0 : Int64) (x1 : Int64) : entryFrame m #[(.long x0), (.long x1)] 4 = mkF m 0 #[.val (.long x0), .second, .val (.long x1), .second] [] := by first | (simp [entryFrame, mkF, argsToLocals, Value.category]; done) | rfl
theorem d12_0 : decode jdk_29_method_66_code 0 = .ok (.lload_n 0, 1) := by decide +kernel
theorem d12_1 : decode jdk_29_method_66_code 1 = .ok (.lload_n 2, 1) := by decide +kernel
theorem d12_2 : decode jdk_29_method_66_code 2 = .ok (.lcmp, 1) := by decide +kernel
theorem d12_3 : decode jdk_29_method_66_code 3 = .ok (.ifCond .lt 7, 3) := by decide +kernel
theorem d12_10 : decode jdk_29_method_66_code 10 = .ok (.lload_n 2, 1) := by decide +kernel
theorem d12_11 : decode jdk_29_method_66_code 11 = .ok (.lreturn, 1) := by decide +kernel
theorem d12_6 : decode jdk_29_method_66_code 6 = .ok (.lload_n 0, 1) := by decide +kernel
theorem d12_7 : decode jdk_29_method_66_code 7 = .ok (.goto 4, 3) := by decide +kernel
def f12 (q0 : Int64) (q1 : Int64) : Int64 := if q0 < q1 then q1
  else q0
def Q12 (Z : State) (q0 : Int64) (q1 : Int64)  (h0 : Heap) (v : Option Value) (h : Heap) (L : List Loc) : Prop := v = some (.long (f12 q0 q1)) ∧ L = [] ∧ h = h0
set_option maxRecDepth 65536 in
set_option maxHeartbeats 40000000 in
theorem rm12 (l : Launch) (Z : State) (a0 : Array Value) (hw : ∀ d ∈ tables_1, d.before a0 Z = true) (ws : List Jvm.Cond) (q0 : Int64) (q1 : Int64)  (h0 : Heap)  :
    MetFree l (⟨"java/lang/Math", "max", "(JJ)J"⟩ : MethodName) (head1 (Jvm.Cond.code (⟨"java/lang/Math", "max", "(JJ)J"⟩ : MethodName) jdk_29_method_66_code 4 (some .long) :: ws) ({ frames := 0, cells := 0, slots := 0, locals := 0 } : Room)) (fun a U => a = #[(.long q0), (.long q1)] ∧ Z.Warmed39 U.vm ∧ U.heap = h0) (fun _ _ _ _ _ => True) (fun _ U o U' => ∃ v L, o = .returned v ∧ Q12 Z q0 q1  h0 v U'.heap L ∧ FrameEnd U o U' L ({ frames := 0, cells := 0, slots := 0, locals := 0 } : Room).cells ({ frames := 0, cells := 0, slots := 0, locals := 0 } : Room).slots) := by
  refine MetFree.of_bodySF (Jvm.Free.JP.mathPlain rfl (by decide +kernel)) hisR ?_
  intro p e s m args below meth c s₁ Bd hml0 hP hK
  obtain ⟨rfl, hZ, hh⟩ := hP
  have hx := Bd.exec
  have hby := Bd.bytes
  have hml : c.maxLocals = 4 := hml0
  have hown : s.vm.findClass "java/lang/Math" = some m.cls := findClass_of_methodNamed Bd.named
  have hnm := (name_of_methodNamed Bd.named Bd.method).1
  have X0 : Stand p l e ({ frames := 0, cells := 0, slots := 0, locals := 0 } : Room) s m #[(.long q0), (.long q1)] below meth c s₁ [] 0 0 := Stand.of_body Bd
  have e0 : s₁.heap = h0 := by rw [← hh, Bd.state]; rfl
  have pre0 : ∀ t, Steps p.tables e below (s₁.setTop (mkF m 0 #[.val (.long q0), .second, .val (.long q1), .second] [])) t → Steps p.tables e below (s₁.setTop (entryFrame m #[(.long q0), (.long q1)] 4)) t := fun t k => castTop (ef_12 m q0 q1) k
  have K1 : ∀ t, Steps p.tables e below (s₁.setTop (mkF m 3 #[.val (.long q0), .second, .val (.long q1), .second] [(.int (lcmpW q0 q1))])) t → Steps p.tables e below (s₁.setTop (mkF m 0 #[.val (.long q0), .second, .val (.long q1), .second] [])) t := by
    intro t kt
    show Steps p.tables e below (s₁.setTop (mkF m 0 #[.val (.long q0), .second, .val (.long q1), .second] [])) _
    refine XS.lloadN X0.here hx rfl (hb hby d12_0) rfl ?_
    show Steps p.tables e below (s₁.setTop (mkF m 1 #[.val (.long q0), .second, .val (.long q1), .second] [(.long q0)])) _
    refine XS.lloadN X0.here hx rfl (hb hby d12_1) rfl ?_
    show Steps p.tables e below (s₁.setTop (mkF m 2 #[.val (.long q0), .second, .val (.long q1), .second] [(.long q1), (.long q0)])) _
    refine XS.lcmp X0.here hx rfl (hb hby d12_2) rfl ?_
    exact kt
  by_cases hc2 : q0 < q1
  · skip
    have K3 : ∀ t, Steps p.tables e below (s₁.setTop (mkF m 11 #[.val (.long q0), .second, .val (.long q1), .second] [(.long q1)])) t → Steps p.tables e below (s₁.setTop (mkF m 0 #[.val (.long q0), .second, .val (.long q1), .second] [])) t := by
      intro t kt
      refine K1 _ ?_
      show Steps p.tables e below (s₁.setTop (mkF m 3 #[.val (.long q0), .second, .val (.long q1), .second] [(.int (lcmpW q0 q1))])) _
      refine XS.ifYes X0.here hx rfl (pc0 := 3) (pc' := 10) rfl (hb hby d12_3) rfl ((if0 _ _).trans (tlt ((lw_lt _ _).mpr hc2)).1) (by decide) (by decide) ?_
      show Steps p.tables e below (s₁.setTop (mkF m 10 #[.val (.long q0), .second, .val (.long q1), .second] [])) _
      refine XS.lloadN X0.here hx rfl (hb hby d12_10) rfl ?_
      exact kt
    have hv : f12 q0 q1 = q1 := by simp only [f12, if_pos hc2]
    obtain ⟨fsQ, hr, hrun, hended, hW, hsame⟩ := X0.leave (v := some (.long q1)) (fun h => by rw [Bd.returns] at h; cases h)
    refine ⟨_, _, pre0 _ (K3 _ ?_), hrun, hended, _, _, rfl, ?_, ⟨_, rfl⟩, hW, hsame.mono (by decide) (by decide)⟩
    · show Steps p.tables e below (s₁.setTop (mkF m 11 #[.val (.long q0), .second, .val (.long q1), .second] [(.long q1)])) _
      exact retOut X0 hx Bd.returns rfl (Or.inr (Or.inl ⟨rfl, rfl, _, rfl⟩)) (hb hby d12_11) hr
    · show Q12 Z q0 q1  h0 _ s₁.heap _
      rw [e0]
      exact ⟨by rw [hv], rfl, rfl⟩
  · skip
    have K4 : ∀ t, Steps p.tables e below (s₁.setTop (mkF m 11 #[.val (.long q0), .second, .val (.long q1), .second] [(.long q0)])) t → Steps p.tables e below (s₁.setTop (mkF m 0 #[.val (.long q0), .second, .val (.long q1), .second] [])) t := by
      intro t kt
      refine K1 _ ?_
      show Steps p.tables e below (s₁.setTop (mkF m 3 #[.val (.long q0), .second, .val (.long q1), .second] [(.int (lcmpW q0 q1))])) _
      refine XS.ifNo X0.here hx rfl (hb hby d12_3) rfl ((if0 _ _).trans (flt (mt (lw_lt _ _).mp hc2)).1) ?_
      show Steps p.tables e below (s₁.setTop (mkF m 6 #[.val (.long q0), .second, .val (.long q1), .second] [])) _
      refine XS.lloadN X0.here hx rfl (hb hby d12_6) rfl ?_
      show Steps p.tables e below (s₁.setTop (mkF m 7 #[.val (.long q0), .second, .val (.long q1), .second] [(.long q0)])) _
      refine XS.goto X0.here hx rfl (pc0 := 7) (pc' := 11) rfl (hb hby d12_7) (by decide) (by decide) ?_
      exact kt
    have hv : f12 q0 q1 = q0 := by simp only [f12, if_neg hc2]
    obtain ⟨fsQ, hr, hrun, hended, hW, hsame⟩ := X0.leave (v := some (.long q0)) (fun h => by rw [Bd.returns] at h; cases h)
    refine ⟨_, _, pre0 _ (K4 _ ?_), hrun, hended, _, _, rfl, ?_, ⟨_, rfl⟩, hW, hsame.mono (by decide) (by decide)⟩
    · show Steps p.tables e below (s₁.setTop (mkF m 11 #[.val (.long q0), .second, .val (.long q1), .second] [(.long q0)])) _
      exact retOut X0 hx Bd.returns rfl (Or.inr (Or.inl ⟨rfl, rfl, _, rfl⟩)) (hb hby d12_11) hr
    · show Q12 Z q0 q1  h0 _ s₁.heap _
      rw [e0]
      exact ⟨by rw [hv], rfl, rfl⟩
theorem ef_13 (m : MethodId) (x0 : Int64) (x1 : Int64) : entryFrame m #[(.long x0), (.long x1)] 4 = mkF m 0 #[.val (.long x0), .second, .val (.long x1), .second] [] := by first | (simp [entryFrame, mkF, argsToLocals, Value.category]; done) | rfl
theorem d13_0 : decode jdk_29_method_70_code 0 = .ok (.lload_n 0, 1) := by decide +kernel
theorem d13_1 : decode jdk_29_method_70_code 1 = .ok (.lload_n 2, 1) := by decide +kernel
theorem d13_2 : decode jdk_29_method_70_code 2 = .ok (.lcmp, 1) := by decide +kernel
theorem d13_3 : decode jdk_29_method_70_code 3 = .ok (.ifCond .gt 7, 3) := by decide +kernel
theorem d13_10 : decode jdk_29_method_70_code 10 = .ok (.lload_n 2, 1) := by decide +kernel
theorem d13_11 : decode jdk_29_method_70_code 11 = .ok (.lreturn, 1) := by decide +kernel
theorem d13_6 : decode jdk_29_method_70_code 6 = .ok (.lload_n 0, 1) := by decide +kernel
theorem d13_7 : decode jdk_29_method_70_code 7 = .ok (.goto 4, 3) := by decide +kernel
def f13 (q0 : Int64) (q1 : Int64) : Int64 := if q1 < q0 then q1
  else q0
def Q13 (Z : State) (q0 : Int64) (q1 : Int64)  (h0 : Heap) (v : Option Value) (h : Heap) (L : List Loc) : Prop := v = some (.long (f13 q0 q1)) ∧ L = [] ∧ h = h0
set_option maxRecDepth 65536 in
set_option maxHeartbeats 40000000 in
theorem rm13 (l : Launch) (Z : State) (a0 : Array Value) (hw : ∀ d ∈ tables_1, d.before a0 Z = true) (ws : List Jvm.Cond) (q0 : Int64) (q1 : Int64)  (h0 : Heap)  :
    MetFree l (⟨"java/lang/Math", "min", "(JJ)J"⟩ : MethodName) (head1 (Jvm.Cond.code (⟨"java/lang/Math", "min", "(JJ)J"⟩ : MethodName) jdk_29_method_70_code 4 (some .long) :: ws) ({ frames := 0, cells := 0, slots := 0, locals := 0 } : Room)) (fun a U => a = #[(.long q0), (.long q1)] ∧ Z.Warmed39 U.vm ∧ U.heap = h0) (fun _ _ _ _ _ => True) (fun _ U o U' => ∃ v L, o = .returned v ∧ Q13 Z q0 q1  h0 v U'.heap L ∧ FrameEnd U o U' L ({ frames := 0, cells := 0, slots := 0, locals := 0 } : Room).cells ({ frames := 0, cells := 0, slots := 0, locals := 0 } : Room).slots) := by
  refine MetFree.of_bodySF (Jvm.Free.JP.mathPlain rfl (by decide +kernel)) hisR ?_
  intro p e s m args below meth c s₁ Bd hml0 hP hK
  obtain ⟨rfl, hZ, hh⟩ := hP
  have hx := Bd.exec
  have hby := Bd.bytes
  have hml : c.maxLocals = 4 := hml0
  have hown : s.vm.findClass "java/lang/Math" = some m.cls := findClass_of_methodNamed Bd.named
  have hnm := (name_of_methodNamed Bd.named Bd.method).1
  have X0 : Stand p l e ({ frames := 0, cells := 0, slots := 0, locals := 0 } : Room) s m #[(.long q0), (.long q1)] below meth c s₁ [] 0 0 := Stand.of_body Bd
  have e0 : s₁.heap = h0 := by rw [← hh, Bd.state]; rfl
  have pre0 : ∀ t, Steps p.tables e below (s₁.setTop (mkF m 0 #[.val (.long q0), .second, .val (.long q1), .second] [])) t → Steps p.tables e below (s₁.setTop (entryFrame m #[(.long q0), (.long q1)] 4)) t := fun t k => castTop (ef_13 m q0 q1) k
  have K1 : ∀ t, Steps p.tables e below (s₁.setTop (mkF m 3 #[.val (.long q0), .second, .val (.long q1), .second] [(.int (lcmpW q0 q1))])) t → Steps p.tables e below (s₁.setTop (mkF m 0 #[.val (.long q0), .second, .val (.long q1), .second] [])) t := by
    intro t kt
    show Steps p.tables e below (s₁.setTop (mkF m 0 #[.val (.long q0), .second, .val (.long q1), .second] [])) _
    refine XS.lloadN X0.here hx rfl (hb hby d13_0) rfl ?_
    show Steps p.tables e below (s₁.setTop (mkF m 1 #[.val (.long q0), .second, .val (.long q1), .second] [(.long q0)])) _
    refine XS.lloadN X0.here hx rfl (hb hby d13_1) rfl ?_
    show Steps p.tables e below (s₁.setTop (mkF m 2 #[.val (.long q0), .second, .val (.long q1), .second] [(.long q1), (.long q0)])) _
    refine XS.lcmp X0.here hx rfl (hb hby d13_2) rfl ?_
    exact kt
  by_cases hc2 : q1 < q0
  · skip
    have K3 : ∀ t, Steps p.tables e below (s₁.setTop (mkF m 11 #[.val (.long q0), .second, .val (.long q1), .second] [(.long q1)])) t → Steps p.tables e below (s₁.setTop (mkF m 0 #[.val (.long q0), .second, .val (.long q1), .second] [])) t := by
      intro t kt
      refine K1 _ ?_
      show Steps p.tables e below (s₁.setTop (mkF m 3 #[.val (.long q0), .second, .val (.long q1), .second] [(.int (lcmpW q0 q1))])) _
      refine XS.ifYes X0.here hx rfl (pc0 := 3) (pc' := 10) rfl (hb hby d13_3) rfl ((if0 _ _).trans (tlt ((lw_gt _ _).mpr hc2)).2.2.1) (by decide) (by decide) ?_
      show Steps p.tables e below (s₁.setTop (mkF m 10 #[.val (.long q0), .second, .val (.long q1), .second] [])) _
      refine XS.lloadN X0.here hx rfl (hb hby d13_10) rfl ?_
      exact kt
    have hv : f13 q0 q1 = q1 := by simp only [f13, if_pos hc2]
    obtain ⟨fsQ, hr, hrun, hended, hW, hsame⟩ := X0.leave (v := some (.long q1)) (fun h => by rw [Bd.returns] at h; cases h)
    refine ⟨_, _, pre0 _ (K3 _ ?_), hrun, hended, _, _, rfl, ?_, ⟨_, rfl⟩, hW, hsame.mono (by decide) (by decide)⟩
    · show Steps p.tables e below (s₁.setTop (mkF m 11 #[.val (.long q0), .second, .val (.long q1), .second] [(.long q1)])) _
      exact retOut X0 hx Bd.returns rfl (Or.inr (Or.inl ⟨rfl, rfl, _, rfl⟩)) (hb hby d13_11) hr
    · show Q13 Z q0 q1  h0 _ s₁.heap _
      rw [e0]
      exact ⟨by rw [hv], rfl, rfl⟩
  · skip
    have K4 : ∀ t, Steps p.tables e below (s₁.setTop (mkF m 11 #[.val (.long q0), .second, .val (.long q1), .second] [(.long q0)])) t → Steps p.tables e below (s₁.setTop (mkF m 0 #[.val (.long q0), .second, .val (.long q1), .second] [])) t := by
      intro t kt
      refine K1 _ ?_
      show Steps p.tables e below (s₁.setTop (mkF m 3 #[.val (.long q0), .second, .val (.long q1), .second] [(.int (lcmpW q0 q1))])) _
      refine XS.ifNo X0.here hx rfl (hb hby d13_3) rfl ((if0 _ _).trans (flt (mt (lw_gt _ _).mp hc2)).2.2.1) ?_
      show Steps p.tables e below (s₁.setTop (mkF m 6 #[.val (.long q0), .second, .val (.long q1), .second] [])) _
      refine XS.lloadN X0.here hx rfl (hb hby d13_6) rfl ?_
      show Steps p.tables e below (s₁.setTop (mkF m 7 #[.val (.long q0), .second, .val (.long q1), .second] [(.long q0)])) _
      refine XS.goto X0.here hx rfl (pc0 := 7) (pc' := 11) rfl (hb hby d13_7) (by decide) (by decide) ?_
      exact kt
    have hv : f13 q0 q1 = q0 := by simp only [f13, if_neg hc2]
    obtain ⟨fsQ, hr, hrun, hended, hW, hsame⟩ := X0.leave (v := some (.long q0)) (fun h => by rw [Bd.returns] at h; cases h)
    refine ⟨_, _, pre0 _ (K4 _ ?_), hrun, hended, _, _, rfl, ?_, ⟨_, rfl⟩, hW, hsame.mono (by decide) (by decide)⟩
    · show Steps p.tables e below (s₁.setTop (mkF m 11 #[.val (.long q0), .second, .val (.long q1), .second] [(.long q0)])) _
      exact retOut X0 hx Bd.returns rfl (Or.inr (Or.inl ⟨rfl, rfl, _, rfl⟩)) (hb hby d13_11) hr
    · show Q13 Z q0 q1  h0 _ s₁.heap _
      rw [e0]
      exact ⟨by rw [hv], rfl, rfl⟩
theorem ef_11 (m : MethodId) (x0 : Int32) (x1 : Int32) : entryFrame m #[(.int x0), (.int x1), .null] 3 = mkF m 0 #[.val (.int x0), .val (.int x1), .val .null] [] := by first | (simp [entryFrame, mkF, argsToLocals, Value.category]; done) | rfl
theorem pn_0 : plainName "jdk/internal/util/Preconditions" = true := by first | (simp [plainName, overriddenIn]; done) | decide +kernel
theorem d11_0 : decode jdk_41_method_11_code 0 = .ok (.iload_n 0, 1) := by decide +kernel
theorem d11_1 : decode jdk_41_method_11_code 1 = .ok (.ifCond .lt 8, 3) := by decide +kernel
theorem d11_4 : decode jdk_41_method_11_code 4 = .ok (.iload_n 0, 1) := by decide +kernel
theorem d11_5 : decode jdk_41_method_11_code 5 = .ok (.iload_n 1, 1) := by decide +kernel
theorem d11_6 : decode jdk_41_method_11_code 6 = .ok (.if_icmp .lt 10, 3) := by decide +kernel
theorem d11_16 : decode jdk_41_method_11_code 16 = .ok (.iload_n 0, 1) := by decide +kernel
theorem d11_17 : decode jdk_41_method_11_code 17 = .ok (.ireturn, 1) := by decide +kernel
def f11 (p0 : Int32) (p1 : Int32) : Int32 := p0
def Q11 (Z : State) (p0 : Int32) (p1 : Int32)  (h0 : Heap) (v : Option Value) (h : Heap) (L : List Loc) : Prop := v = some (.int (f11 p0 p1)) ∧ L = [] ∧ h = h0
set_option maxRecDepth 65536 in
set_option maxHeartbeats 40000000 in
theorem rm11 (l : Launch) (Z : State) (a0 : Array Value) (hw : ∀ d ∈ tables_1, d.before a0 Z = true) (ws : List Jvm.Cond) (p0 : Int32) (p1 : Int32)  (h0 : Heap) (hi0 : ¬ p0 < (0 : Int32)) (hi1 : p0 < p1) :
    MetFree l (⟨"jdk/internal/util/Preconditions", "checkIndex", "(IILjava/util/function/BiFunction;)I"⟩ : MethodName) (head1 (Jvm.Cond.code (⟨"jdk/internal/util/Preconditions", "checkIndex", "(IILjava/util/function/BiFunction;)I"⟩ : MethodName) jdk_41_method_11_code 3 (some .int) :: ws) ({ frames := 0, cells := 0, slots := 0, locals := 0 } : Room)) (fun a U => a = #[(.int p0), (.int p1), .null] ∧ Z.Warmed39 U.vm ∧ U.heap = h0) (fun _ _ _ _ _ => True) (fun _ U o U' => ∃ v L, o = .returned v ∧ Q11 Z p0 p1  h0 v U'.heap L ∧ FrameEnd U o U' L ({ frames := 0, cells := 0, slots := 0, locals := 0 } : Room).cells ({ frames := 0, cells := 0, slots := 0, locals := 0 } : Room).slots) := by
  refine MetFree.of_bodySF (plainFor_of_name pn_0) hisR ?_
  intro p e s m args below meth c s₁ Bd hml0 hP hK
  obtain ⟨rfl, hZ, hh⟩ := hP
  have hx := Bd.exec
  have hby := Bd.bytes
  have hml : c.maxLocals = 3 := hml0
  have hown : s.vm.findClass "jdk/internal/util/Preconditions" = some m.cls := findClass_of_methodNamed Bd.named
  have hnm := (name_of_methodNamed Bd.named Bd.method).1
  have X0 : Stand p l e ({ frames := 0, cells := 0, slots := 0, locals := 0 } : Room) s m #[(.int p0), (.int p1), .null] below meth c s₁ [] 0 0 := Stand.of_body Bd
  have e0 : s₁.heap = h0 := by rw [← hh, Bd.state]; rfl
  have pre0 : ∀ t, Steps p.tables e below (s₁.setTop (mkF m 0 #[.val (.int p0), .val (.int p1), .val .null] [])) t → Steps p.tables e below (s₁.setTop (entryFrame m #[(.int p0), (.int p1), .null] 3)) t := fun t k => castTop (ef_11 m p0 p1) k
  have K1 : ∀ t, Steps p.tables e below (s₁.setTop (mkF m 17 #[.val (.int p0), .val (.int p1), .val .null] [(.int p0)])) t → Steps p.tables e below (s₁.setTop (mkF m 0 #[.val (.int p0), .val (.int p1), .val .null] [])) t := by
    intro t kt
    show Steps p.tables e below (s₁.setTop (mkF m 0 #[.val (.int p0), .val (.int p1), .val .null] [])) _
    refine XS.iloadN X0.here hx rfl (hb hby d11_0) rfl ?_
    show Steps p.tables e below (s₁.setTop (mkF m 1 #[.val (.int p0), .val (.int p1), .val .null] [(.int p0)])) _
    refine XS.ifNo X0.here hx rfl (hb hby d11_1) rfl ((if0 _ _).trans (flt (show ¬ (p0 < (0 : Int32)) from hi0)).1) ?_
    show Steps p.tables e below (s₁.setTop (mkF m 4 #[.val (.int p0), .val (.int p1), .val .null] [])) _
    refine XS.iloadN X0.here hx rfl (hb hby d11_4) rfl ?_
    show Steps p.tables e below (s₁.setTop (mkF m 5 #[.val (.int p0), .val (.int p1), .val .null] [(.int p0)])) _
    refine XS.iloadN X0.here hx rfl (hb hby d11_5) rfl ?_
    show Steps p.tables e below (s₁.setTop (mkF m 6 #[.val (.int p0), .val (.int p1), .val .null] [(.int p1), (.int p0)])) _
    refine XS.icmpYes X0.here hx rfl (pc0 := 6) (pc' := 16) rfl (hb hby d11_6) rfl (tlt (show p0 < p1 from hi1)).1 (by decide) (by decide) ?_
    show Steps p.tables e below (s₁.setTop (mkF m 16 #[.val (.int p0), .val (.int p1), .val .null] [])) _
    refine XS.iloadN X0.here hx rfl (hb hby d11_16) rfl ?_
    exact kt
  have hv : f11 p0 p1 = p0 := rfl
  obtain ⟨fsQ, hr, hrun, hended, hW, hsame⟩ := X0.leave (v := some (.int p0)) (fun h => by rw [Bd.returns] at h; cases h)
  refine ⟨_, _, pre0 _ (K1 _ ?_), hrun, hended, _, _, rfl, ?_, ⟨_, rfl⟩, hW, hsame.mono (by decide) (by decide)⟩
  · show Steps p.tables e below (s₁.setTop (mkF m 17 #[.val (.int p0), .val (.int p1), .val .null] [(.int p0)])) _
    exact retOut X0 hx Bd.returns rfl (Or.inl ⟨rfl, Or.inl rfl, _, rfl⟩) (hb hby d11_17) hr
  · show Q11 Z p0 p1  h0 _ s₁.heap _
    rw [e0]
    exact ⟨by rw [hv], rfl, rfl⟩
theorem ef_10 (m : MethodId) (x0 : Int32) (x1 : Int32) : entryFrame m #[(.int x0), (.int x1)] 2 = mkF m 0 #[.val (.int x0), .val (.int x1)] [] := by first | (simp [entryFrame, mkF, argsToLocals, Value.category]; done) | rfl
theorem pn_1 : plainName "java/util/Objects" = true := by first | (simp [plainName, overriddenIn]; done) | decide +kernel
theorem d10_0 : decode jdk_31_method_17_code 0 = .ok (.iload_n 0, 1) := by decide +kernel
theorem d10_1 : decode jdk_31_method_17_code 1 = .ok (.iload_n 1, 1) := by decide +kernel
theorem d10_2 : decode jdk_31_method_17_code 2 = .ok (.aconst_null, 1) := by decide +kernel
theorem d10_3 : decode jdk_31_method_17_code 3 = .ok (.invokestatic 105, 3) := by decide +kernel
theorem pd_0 : parseMethodDescriptor "(IILjava/util/function/BiFunction;)I" = some ⟨[.int, .int, (.object "java/util/function/BiFunction")], some .int⟩ := by decide +kernel
theorem d10_6 : decode jdk_31_method_17_code 6 = .ok (.ireturn, 1) := by decide +kernel
def f10 (p0 : Int32) (p1 : Int32) : Int32 := (f11 p0 p1)
def Q10 (Z : State) (p0 : Int32) (p1 : Int32)  (h0 : Heap) (v : Option Value) (h : Heap) (L : List Loc) : Prop := v = some (.int (f10 p0 p1)) ∧ L = [] ∧ h = h0
set_option maxRecDepth 65536 in
set_option maxHeartbeats 40000000 in
theorem rm10 (l : Launch) (Z : State) (a0 : Array Value) (hw : ∀ d ∈ tables_1, d.before a0 Z = true) (ws : List Jvm.Cond) (p0 : Int32) (p1 : Int32)  (h0 : Heap) (hi0 : ¬ p0 < (0 : Int32)) (hi1 : p0 < p1) :
    MetFree l (⟨"java/util/Objects", "checkIndex", "(II)I"⟩ : MethodName) (head1 (Jvm.Cond.code (⟨"java/util/Objects", "checkIndex", "(II)I"⟩ : MethodName) jdk_31_method_17_code 2 (some .int) :: ws) ({ frames := 1, cells := 0, slots := 0, locals := 14 } : Room)) (fun a U => a = #[(.int p0), (.int p1)] ∧ Z.Warmed39 U.vm ∧ U.heap = h0) (fun _ _ _ _ _ => True) (fun _ U o U' => ∃ v L, o = .returned v ∧ Q10 Z p0 p1  h0 v U'.heap L ∧ FrameEnd U o U' L ({ frames := 1, cells := 0, slots := 0, locals := 14 } : Room).cells ({ frames := 1, cells := 0, slots := 0, locals := 14 } : Room).slots) := by
  refine MetFree.of_bodySF (plainFor_of_name pn_1) hisR ?_
  intro p e s m args below meth c s₁ Bd hml0 hP hK
  obtain ⟨rfl, hZ, hh⟩ := hP
  have hx := Bd.exec
  have hby := Bd.bytes
  have hml : c.maxLocals = 2 := hml0
  have hown : s.vm.findClass "java/util/Objects" = some m.cls := findClass_of_methodNamed Bd.named
  have hnm := (name_of_methodNamed Bd.named Bd.method).1
  have X0 : Stand p l e ({ frames := 1, cells := 0, slots := 0, locals := 14 } : Room) s m #[(.int p0), (.int p1)] below meth c s₁ [] 0 0 := Stand.of_body Bd
  have e0 : s₁.heap = h0 := by rw [← hh, Bd.state]; rfl
  have pre0 : ∀ t, Steps p.tables e below (s₁.setTop (mkF m 0 #[.val (.int p0), .val (.int p1)] [])) t → Steps p.tables e below (s₁.setTop (entryFrame m #[(.int p0), (.int p1)] 2)) t := fun t k => castTop (ef_10 m p0 p1) k
  obtain ⟨_, _, ⟨T1, L1, k1, n1⟩, -, X1, ⟨Lc1, hQ1, l1, y1, z1⟩, st1⟩ := Jvm.LawKit.callS X0 hx (y := (⟨"jdk/internal/util/Preconditions", "checkIndex", "(IILjava/util/function/BiFunction;)I"⟩ : MethodName)) hown (mvT hZ (hw _ (List.mem_of_getElem? (i := 58) rfl))) (mvT hZ (hw _ (List.mem_of_getElem? (i := 59) rfl))) (mvT hZ (hw _ (List.mem_of_getElem? (i := 60) rfl))) (mvT hZ (hw _ (List.mem_of_getElem? (i := 61) rfl))) (by decide) (backOf (W := 0) (rm11 l Z a0 hw [] p0 p1  h0 hi0 hi1) hZ (hw _ (List.mem_of_getElem? (i := 61) rfl)) (hw _ (List.mem_of_getElem? (i := 60) rfl)) (by decide) (by decide)) (g := (mkF m 3 #[.val (.int p0), .val (.int p1)] [.null, (.int p1), (.int p0)])) rfl (by rw [hml]; rfl) (argsL := [(.int p0), (.int p1), .null]) (rest := []) (lenOf pd_0 rfl) rfl (by show 2 * 0 + _ ≤ _; exact Nat.le_of_eq rfl) (hb hby d10_3) (fun _ _ => ⟨rfl, e0, (by decide : 0 + 0 ≤ _), (by decide : 0 + 0 ≤ _)⟩)
  dsimp only [Pt.U, Pt.locs, Pt.cells, Pt.slots] at X1 l1 y1 z1 st1 hQ1
  subst l1 y1 z1
  obtain ⟨rfl, rfl, e1⟩ := hQ1
  try rw [List.append_nil] at X1
  have K2 : ∀ t, Steps p.tables e below (T1.setTop (mkF m 6 #[.val (.int p0), .val (.int p1)] [(.int (f11 p0 p1))])) t → Steps p.tables e below (s₁.setTop (mkF m 0 #[.val (.int p0), .val (.int p1)] [])) t := by
    intro t kt
    show Steps p.tables e below (s₁.setTop (mkF m 0 #[.val (.int p0), .val (.int p1)] [])) _
    refine XS.iloadN X0.here hx rfl (hb hby d10_0) rfl ?_
    show Steps p.tables e below (s₁.setTop (mkF m 1 #[.val (.int p0), .val (.int p1)] [(.int p0)])) _
    refine XS.iloadN X0.here hx rfl (hb hby d10_1) rfl ?_
    show Steps p.tables e below (s₁.setTop (mkF m 2 #[.val (.int p0), .val (.int p1)] [(.int p1), (.int p0)])) _
    refine XS.aconstNull X0.here hx rfl (hb hby d10_2) ?_
    show Steps p.tables e below (s₁.setTop (mkF m 3 #[.val (.int p0), .val (.int p1)] [.null, (.int p1), (.int p0)])) _
    refine st1 _ ?_
    exact kt
  have hv : f10 p0 p1 = (f11 p0 p1) := rfl
  obtain ⟨fsQ, hr, hrun, hended, hW, hsame⟩ := X1.leave (v := some (.int (f11 p0 p1))) (fun h => by rw [Bd.returns] at h; cases h)
  refine ⟨_, _, pre0 _ (K2 _ ?_), hrun, hended, _, _, rfl, ?_, ⟨_, rfl⟩, hW, hsame.mono (by decide) (by decide)⟩
  · show Steps p.tables e below (T1.setTop (mkF m 6 #[.val (.int p0), .val (.int p1)] [(.int (f11 p0 p1))])) _
    exact retOut X1 hx Bd.returns rfl (Or.inl ⟨rfl, Or.inl rfl, _, rfl⟩) (hb hby d10_6) hr
  · show Q10 Z p0 p1  h0 _ T1.heap _
    rw [e1]
    exact ⟨by rw [hv], rfl, rfl⟩
theorem own_min {p : Int32} {n k : Nat} (hp : p.toInt = (k : Int)) (hn : n ≤ 1000) (h : n < k) : (f3 (Int32.ofNat n) p).toInt = (n : Int) := by
  unfold f3
  rw [if_neg (by rw [Int32.lt_iff_toInt_lt, hp, own_tn hn]; omega), own_tn hn]
theorem own_min2 {p : Int32} {k : Nat} (hp : p.toInt = (k : Int)) : (f3 (256 : Int32) p).toInt = ((min 256 k : Nat) : Int) := by
  unfold f3
  have e : (256 : Int32).toInt = 256 := rfl
  split
  · rename_i h; rw [Int32.lt_iff_toInt_lt, hp, e] at h; rw [hp]; omega
  · rename_i h; rw [Int32.lt_iff_toInt_lt, hp, e] at h; rw [e]; omega
theorem own_new {lv sv p : Int32} {lim sz cap len : Nat} (h1 : lv.toInt = (lim : Int)) (h2 : sv.toInt = (sz : Int)) (h3 : p.toInt = (len : Int)) (hl : lim ≤ 511) (hc : cap ≤ lim) (hcc : cap = lim ∨ cap = 256) (hs : sz ≤ cap) (hlen : len ≤ 300) (hno : ¬ (lv - sv) < p) (hbig : (Int32.ofNat cap) < (sv + p)) :
    (f13 lv.toInt64 (f12 (sv + p).toInt64 ((2 : Int64) * (Int32.ofNat cap).toInt64))).toInt32.toInt = (lim : Int) ∧ cap = 256 ∧ cap < lim := by
  have a1 : (lv - sv).toInt = lv.toInt - sv.toInt := own_sub32 (by omega) (by omega)
  have a2 : (sv + p).toInt = sv.toInt + p.toInt := own_add32 (by omega) (by omega)
  have a3 := own_tn (show cap ≤ 1000 by omega)
  rw [Int32.lt_iff_toInt_lt, a1] at hno
  rw [Int32.lt_iff_toInt_lt, a2, a3] at hbig
  have b1 := c_i2l lv
  have b2 := c_i2l (sv + p)
  have b3 := c_i2l (Int32.ofNat cap)
  have b4 := c_lmul (2 : Int64) (Int32.ofNat cap).toInt64
  have b5 := rng64 ((2 : Int64) * (Int32.ofNat cap).toInt64)
  rw [b3, a3, show (2 : Int64).toInt = 2 from rfl] at b4
  have b6 : ((2 : Int64) * (Int32.ofNat cap).toInt64).toInt = 2 * cap := by omega
  have hcap : cap = 256 ∧ cap < lim := by omega
  refine ⟨?_, hcap.1, hcap.2⟩
  have e1 : f12 (sv + p).toInt64 ((2 : Int64) * (Int32.ofNat cap).toInt64) = (2 : Int64) * (Int32.ofNat cap).toInt64 ∨ f12 (sv + p).toInt64 ((2 : Int64) * (Int32.ofNat cap).toInt64) = (sv + p).toInt64 := by
    unfold f12; split
    · exact Or.inl rfl
    · exact Or.inr rfl
  have e2 : (lim : Int) ≤ (f12 (sv + p).toInt64 ((2 : Int64) * (Int32.ofNat cap).toInt64)).toInt := by
    unfold f12
    split
    · rw [b6]; omega
    · rename_i z; rw [Int64.lt_iff_toInt_lt, b2, b6] at z; rw [b2]; omega
  have e3 : f13 lv.toInt64 (f12 (sv + p).toInt64 ((2 : Int64) * (Int32.ofNat cap).toInt64)) = lv.toInt64 ∨ (f13 lv.toInt64 (f12 (sv + p).toInt64 ((2 : Int64) * (Int32.ofNat cap).toInt64))).toInt = (lim : Int) := by
    unfold f13
    split
    · rename_i z; rw [Int64.lt_iff_toInt_lt, b1] at z; exact Or.inr (by omega)
    · exact Or.inl rfl
  have e4 : (f13 lv.toInt64 (f12 (sv + p).toInt64 ((2 : Int64) * (Int32.ofNat cap).toInt64))).toInt = (lim : Int) := by
    rcases e3 with z | z
    · rw [z, b1, h1]
    · exact z
  have e5 := c_l2i (f13 lv.toInt64 (f12 (sv + p).toInt64 ((2 : Int64) * (Int32.ofNat cap).toInt64)))
  have e6 := rng32 (f13 lv.toInt64 (f12 (sv + p).toInt64 ((2 : Int64) * (Int32.ofNat cap).toInt64))).toInt32
  omega
theorem own_no {lv sv p : Int32} {lim sz len : Nat} (h1 : lv.toInt = (lim : Int)) (h2 : sv.toInt = (sz : Int)) (h3 : p.toInt = (len : Int)) (hl : lim ≤ 511) (hs : sz ≤ lim) (hlen : len ≤ 300) : (lv - sv) < p ↔ lim < sz + len := by
  rw [Int32.lt_iff_toInt_lt, own_sub32 (by omega) (by omega)]; omega
theorem own_fits {sv p : Int32} {sz cap len : Nat} (h2 : sv.toInt = (sz : Int)) (h3 : p.toInt = (len : Int)) (hc : cap ≤ 511) (hs : sz ≤ cap) (hlen : len ≤ 300) (h : ¬ (Int32.ofNat cap) < (sv + p)) : sz + len ≤ cap := by
  rw [Int32.lt_iff_toInt_lt, own_tn (by omega), own_add32 (by omega) (by omega)] at h; omega
theorem ef_14 (m : MethodId) (x0 : Addr) (x1 : Int32) : entryFrame m #[(.ref x0), (.int x1)] 3 = mkF m 0 #[.val (.ref x0), .val (.int x1), .unset] [] := by first | (simp [entryFrame, mkF, argsToLocals, Value.category]; done) | rfl
theorem pn_2 : plainName "java/util/Arrays" = true := by first | (simp [plainName, overriddenIn]; done) | decide +kernel
theorem d14_0 : decode jdk_65_method_121_code 0 = .ok (.iload_n 1, 1) := by decide +kernel
theorem d14_1 : decode jdk_65_method_121_code 1 = .ok (.aload_n 0, 1) := by decide +kernel
theorem d14_2 : decode jdk_65_method_121_code 2 = .ok (.arraylength, 1) := by decide +kernel
theorem d14_3 : decode jdk_65_method_121_code 3 = .ok (.if_icmp .ne 11, 3) := by decide +kernel
theorem d14_14 : decode jdk_65_method_121_code 14 = .ok (.iload_n 1, 1) := by decide +kernel
theorem d14_15 : decode jdk_65_method_121_code 15 = .ok (.newarray .byte, 2) := by decide +kernel
theorem d14_17 : decode jdk_65_method_121_code 17 = .ok (.astore_n 2, 1) := by decide +kernel
theorem d14_18 : decode jdk_65_method_121_code 18 = .ok (.aload_n 0, 1) := by decide +kernel
theorem d14_19 : decode jdk_65_method_121_code 19 = .ok (.iconst 0, 1) := by decide +kernel
theorem d14_20 : decode jdk_65_method_121_code 20 = .ok (.aload_n 2, 1) := by decide +kernel
theorem d14_21 : decode jdk_65_method_121_code 21 = .ok (.iconst 0, 1) := by decide +kernel
theorem d14_22 : decode jdk_65_method_121_code 22 = .ok (.aload_n 0, 1) := by decide +kernel
theorem d14_23 : decode jdk_65_method_121_code 23 = .ok (.arraylength, 1) := by decide +kernel
theorem d14_24 : decode jdk_65_method_121_code 24 = .ok (.iload_n 1, 1) := by decide +kernel
theorem d14_25 : decode jdk_65_method_121_code 25 = .ok (.invokestatic 304, 3) := by decide +kernel
theorem pd_1 : parseMethodDescriptor "(II)I" = some ⟨[.int, .int], some .int⟩ := by decide +kernel
theorem d14_28 : decode jdk_65_method_121_code 28 = .ok (.invokestatic 150, 3) := by decide +kernel
theorem d14_31 : decode jdk_65_method_121_code 31 = .ok (.aload_n 2, 1) := by decide +kernel
theorem d14_32 : decode jdk_65_method_121_code 32 = .ok (.areturn, 1) := by decide +kernel
def Q14 (Z : State) (o0 : Addr) (p1 : Int32) (n : Nat) (f : Nat → Int32) (k : Nat) (h0 : Heap) (n0 : Nat) (v : Option Value) (h : Heap) (L : List Loc) : Prop := ∃ b g, v = some (.ref b) ∧ Fr n0 L ∧ Keep h0 h [] ∧ h0.size ≤ b ∧ Ia Z h b .byte k g ∧ ∀ j, j < n → g j = f j
set_option maxRecDepth 65536 in
set_option maxHeartbeats 40000000 in
theorem rm14 (l : Launch) (Z : State) (a0 : Array Value) (hw : ∀ d ∈ tables_1, d.before a0 Z = true) (ws : List Jvm.Cond) (o0 : Addr) (p1 : Int32) (n : Nat) (f : Nat → Int32) (k : Nat) (h0 : Heap) (n0 : Nat) (Z0 : n0 ≤ h0.size) (AA : Ia Z h0 o0 .byte n f) (hk : p1.toInt = (k : Int)) (hn1 : n ≤ 1000) (hnk : n < k) (hk5 : k ≤ 511) :
    MetFree l (⟨"java/util/Arrays", "copyOf", "([BI)[B"⟩ : MethodName) (head1 (Jvm.Cond.code (⟨"java/util/Arrays", "copyOf", "([BI)[B"⟩ : MethodName) jdk_65_method_121_code 3 (some (.array .byte)) :: ws) ({ frames := 1, cells := 1, slots := 511, locals := 18 } : Room)) (fun a U => a = #[(.ref o0), (.int p1)] ∧ Z.Warmed39 U.vm ∧ U.heap = h0) (fun _ _ _ _ _ => True) (fun _ U o U' => ∃ v L, o = .returned v ∧ Q14 Z o0 p1 n f k h0 n0 v U'.heap L ∧ FrameEnd U o U' L ({ frames := 1, cells := 1, slots := 511, locals := 18 } : Room).cells ({ frames := 1, cells := 1, slots := 511, locals := 18 } : Room).slots) := by
  refine MetFree.of_bodySF (plainFor_of_name pn_2) hisR ?_
  intro p e s m args below meth c s₁ Bd hml0 hP hK
  obtain ⟨rfl, hZ, hh⟩ := hP
  have hx := Bd.exec
  have hby := Bd.bytes
  have hml : c.maxLocals = 3 := hml0
  have hown : s.vm.findClass "java/util/Arrays" = some m.cls := findClass_of_methodNamed Bd.named
  have hnm := (name_of_methodNamed Bd.named Bd.method).1
  have X0 : Stand p l e ({ frames := 1, cells := 1, slots := 511, locals := 18 } : Room) s m #[(.ref o0), (.int p1)] below meth c s₁ [] 0 0 := Stand.of_body Bd
  have e0 : s₁.heap = h0 := by rw [← hh, Bd.state]; rfl
  have pre0 : ∀ t, Steps p.tables e below (s₁.setTop (mkF m 0 #[.val (.ref o0), .val (.int p1), .unset] [])) t → Steps p.tables e below (s₁.setTop (entryFrame m #[(.ref o0), (.int p1)] 3)) t := fun t k => castTop (ef_14 m o0 p1) k
  have N0 := Fr.nil n0
  have KP0 : Keep h0 h0 [] := Keep.refl _ _
  obtain ⟨T1, h1, X1, e1, E1, A1, st1⟩ := iaNew X0 hx hZ (hw _ (List.mem_of_getElem? (i := 1) rfl)) e0 (g := (mkF m 15 #[.val (.ref o0), .val (.int p1), .unset] [(.int p1)])) rfl (hb hby d14_15) rfl k hk 511 hk5 (by decide) (by decide) (by decide) rfl (by decide)
  obtain ⟨b1, g1⟩ : ∃ z, z = h0.size := ⟨_, rfl⟩
  rw [← g1] at A1 st1
  have ne2 : o0 ≠ b1 := Nat.ne_of_lt (Nat.lt_of_lt_of_le AA.lt (Nat.le_of_eq g1.symm))
  have gn1 : n0 ≤ b1 := Nat.le_trans Z0 (Nat.le_of_eq g1.symm)
  have sz1 : h0.size ≤ b1 := Nat.le_trans KP0.1 (Nat.le_of_eq g1.symm)
  have Z1 : n0 ≤ h1.size := Nat.le_trans Z0 E1.1
  have G3 : Ia Z h1 o0 .byte n f := AA.ext E1
  have KP1 : Keep h0 h1 [] := KP0.ext E1
  have G4 : Ia Z h1 b1 .byte k (fun _ => (0 : Int32)) := A1
  obtain ⟨_, _, ⟨T5, L5, k5, n5⟩, -, X5, ⟨Lc5, hQ5, l5, y5, z5⟩, st5⟩ := Jvm.LawKit.callS X1 hx (y := (⟨"java/lang/Math", "min", "(II)I"⟩ : MethodName)) hown (mvT hZ (hw _ (List.mem_of_getElem? (i := 73) rfl))) (mvT hZ (hw _ (List.mem_of_getElem? (i := 14) rfl))) (mvT hZ (hw _ (List.mem_of_getElem? (i := 15) rfl))) (mvT hZ (hw _ (List.mem_of_getElem? (i := 16) rfl))) (by decide) (backOf (W := 4) (rm3 l Z a0 hw [] (Int32.ofNat n) p1  h1 ) hZ (hw _ (List.mem_of_getElem? (i := 16) rfl)) (hw _ (List.mem_of_getElem? (i := 15) rfl)) (by decide) (by decide)) (g := (mkF m 25 #[.val (.ref o0), .val (.int p1), .val (.ref b1)] [(.int p1), (.int (Int32.ofNat n)), (.int (0 : Int32)), (.ref b1), (.int (0 : Int32)), (.ref o0)])) rfl (by rw [hml]; rfl) (argsL := [(.int (Int32.ofNat n)), (.int p1)]) (rest := [(.int (0 : Int32)), (.ref b1), (.int (0 : Int32)), (.ref o0)]) (lenOf pd_1 rfl) rfl (by show 2 * 0 + _ ≤ _; exact Nat.le_of_eq rfl) (hb hby d14_25) (fun _ _ => ⟨rfl, e1, (by decide : 1 + 0 ≤ _), (by decide : 511 + 0 ≤ _)⟩)
  dsimp only [Pt.U, Pt.locs, Pt.cells, Pt.slots] at X5 l5 y5 z5 st5 hQ5
  subst l5 y5 z5
  obtain ⟨rfl, rfl, e5⟩ := hQ5
  try rw [List.append_nil] at X5
  obtain ⟨T6, h6, L6, X6, e6, N6, K6, A6, st6⟩ := iaCopy X5 hx hZ hown (hw _ (List.mem_of_getElem? (i := 74) rfl)) (hw _ (List.mem_of_getElem? (i := 48) rfl)) (hw _ (List.mem_of_getElem? (i := 46) rfl)) (hw _ (List.mem_of_getElem? (i := 47) rfl)) e5 G3 G4 0 0 n rfl rfl (own_min hk hn1 hnk) (by omega) (by omega) N0 gn1 (g := (mkF m 28 #[.val (.ref o0), .val (.int p1), .val (.ref b1)] [(.int (f3 (Int32.ofNat n) p1)), (.int (0 : Int32)), (.ref b1), (.int (0 : Int32)), (.ref o0)])) rfl (by rw [hml]; rfl) rfl (hb hby d14_28) (by decide) (W := 0) (by show 2 * 0 + _ ≤ _; exact Nat.le_of_eq rfl) (by decide)
  have Z6 : n0 ≤ h6.size := Nat.le_trans Z1 K6.1
  have G7 : Ia Z h6 o0 .byte n f := G3.keep K6 (ninS ne2 nin0)
  have G8 : Ia Z h6 b1 .byte k (fun t => if 0 ≤ t ∧ t < 0 + n then f (0 + (t - 0)) else (fun _ => (0 : Int32)) t) := A6
  have KP6 : Keep h0 h6 [] := KP1.trans K6 (allS (Or.inr sz1) all0)
  have K9 : ∀ t, Steps p.tables e below (T6.setTop (mkF m 32 #[.val (.ref o0), .val (.int p1), .val (.ref b1)] [(.ref b1)])) t → Steps p.tables e below (s₁.setTop (mkF m 0 #[.val (.ref o0), .val (.int p1), .unset] [])) t := by
    intro t kt
    show Steps p.tables e below (s₁.setTop (mkF m 0 #[.val (.ref o0), .val (.int p1), .unset] [])) _
    refine XS.iloadN X0.here hx rfl (hb hby d14_0) rfl ?_
    show Steps p.tables e below (s₁.setTop (mkF m 1 #[.val (.ref o0), .val (.int p1), .unset] [(.int p1)])) _
    refine XS.aloadN X0.here hx rfl (hb hby d14_1) rfl rfl ?_
    show Steps p.tables e below (s₁.setTop (mkF m 2 #[.val (.ref o0), .val (.int p1), .unset] [(.ref o0), (.int p1)])) _
    refine iaLen X0 hx hZ e0 AA (g := (mkF m 2 #[.val (.ref o0), .val (.int p1), .unset] [(.ref o0), (.int p1)])) rfl rfl (hb hby d14_2) _ ?_
    show Steps p.tables e below (s₁.setTop (mkF m 3 #[.val (.ref o0), .val (.int p1), .unset] [(.int (Int32.ofNat n)), (.int p1)])) _
    refine XS.icmpYes X0.here hx rfl (pc0 := 3) (pc' := 14) rfl (hb hby d14_3) rfl (feq (show ¬ (p1 = (Int32.ofNat n)) from (fun z => by have q := congrArg Int32.toInt z; rw [hk, own_tn hn1] at q; omega))).2 (by decide) (by decide) ?_
    show Steps p.tables e below (s₁.setTop (mkF m 14 #[.val (.ref o0), .val (.int p1), .unset] [])) _
    refine XS.iloadN X0.here hx rfl (hb hby d14_14) rfl ?_
    show Steps p.tables e below (s₁.setTop (mkF m 15 #[.val (.ref o0), .val (.int p1), .unset] [(.int p1)])) _
    refine st1 _ ?_
    show Steps p.tables e below (T1.setTop (mkF m 17 #[.val (.ref o0), .val (.int p1), .unset] [(.ref b1)])) _
    refine XS.astoreN X1.here hx rfl (hb hby d14_17) rfl rfl (l' := #[.val (.ref o0), .val (.int p1), .val (.ref b1)]) rfl ?_
    show Steps p.tables e below (T1.setTop (mkF m 18 #[.val (.ref o0), .val (.int p1), .val (.ref b1)] [])) _
    refine XS.aloadN X1.here hx rfl (hb hby d14_18) rfl rfl ?_
    show Steps p.tables e below (T1.setTop (mkF m 19 #[.val (.ref o0), .val (.int p1), .val (.ref b1)] [(.ref o0)])) _
    refine XS.iconst X1.here hx rfl (hb hby d14_19) ?_
    show Steps p.tables e below (T1.setTop (mkF m 20 #[.val (.ref o0), .val (.int p1), .val (.ref b1)] [(.int (0 : Int32)), (.ref o0)])) _
    refine XS.aloadN X1.here hx rfl (hb hby d14_20) rfl rfl ?_
    show Steps p.tables e below (T1.setTop (mkF m 21 #[.val (.ref o0), .val (.int p1), .val (.ref b1)] [(.ref b1), (.int (0 : Int32)), (.ref o0)])) _
    refine XS.iconst X1.here hx rfl (hb hby d14_21) ?_
    show Steps p.tables e below (T1.setTop (mkF m 22 #[.val (.ref o0), .val (.int p1), .val (.ref b1)] [(.int (0 : Int32)), (.ref b1), (.int (0 : Int32)), (.ref o0)])) _
    refine XS.aloadN X1.here hx rfl (hb hby d14_22) rfl rfl ?_
    show Steps p.tables e below (T1.setTop (mkF m 23 #[.val (.ref o0), .val (.int p1), .val (.ref b1)] [(.ref o0), (.int (0 : Int32)), (.ref b1), (.int (0 : Int32)), (.ref o0)])) _
    refine iaLen X1 hx hZ e1 G3 (g := (mkF m 23 #[.val (.ref o0), .val (.int p1), .val (.ref b1)] [(.ref o0), (.int (0 : Int32)), (.ref b1), (.int (0 : Int32)), (.ref o0)])) rfl rfl (hb hby d14_23) _ ?_
    show Steps p.tables e below (T1.setTop (mkF m 24 #[.val (.ref o0), .val (.int p1), .val (.ref b1)] [(.int (Int32.ofNat n)), (.int (0 : Int32)), (.ref b1), (.int (0 : Int32)), (.ref o0)])) _
    refine XS.iloadN X1.here hx rfl (hb hby d14_24) rfl ?_
    show Steps p.tables e below (T1.setTop (mkF m 25 #[.val (.ref o0), .val (.int p1), .val (.ref b1)] [(.int p1), (.int (Int32.ofNat n)), (.int (0 : Int32)), (.ref b1), (.int (0 : Int32)), (.ref o0)])) _
    refine st5 _ ?_
    show Steps p.tables e below (T5.setTop (mkF m 28 #[.val (.ref o0), .val (.int p1), .val (.ref b1)] [(.int (f3 (Int32.ofNat n) p1)), (.int (0 : Int32)), (.ref b1), (.int (0 : Int32)), (.ref o0)])) _
    refine st6 _ ?_
    show Steps p.tables e below (T6.setTop (mkF m 31 #[.val (.ref o0), .val (.int p1), .val (.ref b1)] [])) _
    refine XS.aloadN X6.here hx rfl (hb hby d14_31) rfl rfl ?_
    exact kt
  obtain ⟨fsQ, hr, hrun, hended, hW, hsame⟩ := X6.leave (v := some (.ref b1)) (fun h => by rw [Bd.returns] at h; cases h)
  refine ⟨_, _, pre0 _ (K9 _ ?_), hrun, hended, _, _, rfl, ?_, ⟨_, rfl⟩, hW, hsame.mono (by decide) (by decide)⟩
  · show Steps p.tables e below (T6.setTop (mkF m 32 #[.val (.ref o0), .val (.int p1), .val (.ref b1)] [(.ref b1)])) _
    exact retOut X6 hx Bd.returns rfl (Or.inr (Or.inr (Or.inr (Or.inr ⟨rfl, rfl, rfl⟩)))) (hb hby d14_32) hr
  · show Q14 Z o0 p1 n f k h0 n0 _ T6.heap _
    rw [e6]
    exact ⟨_, _, rfl, N6, KP6, sz1, G8, fun j hj => by rw [if_pos ⟨Nat.zero_le _, by omega⟩, Nat.zero_add, Nat.sub_zero]⟩
theorem ef_5 (m : MethodId) (x0 : Addr) (x1 : Int32) : entryFrame m #[(.ref x0), (.int x1)] 5 = mkF m 0 #[.val (.ref x0), .val (.int x1), .unset, .unset, .unset] [] := by first | (simp [entryFrame, mkF, argsToLocals, Value.category]; done) | rfl
theorem pn_3 : plainName "com/example/benchwire/benchwire/protocols/BoundedBuffer" = true := by first | (simp [plainName, overriddenIn]; done) | decide +kernel
theorem d5_0 : decode prog_153_method_11_code 0 = .ok (.iload_n 1, 1) := by decide +kernel
theorem d5_1 : decode prog_153_method_11_code 1 = .ok (.aload_n 0, 1) := by decide +kernel
theorem d5_2 : decode prog_153_method_11_code 2 = .ok (.getfield 7, 3) := by decide +kernel
theorem d5_5 : decode prog_153_method_11_code 5 = .ok (.aload_n 0, 1) := by decide +kernel
theorem d5_6 : decode prog_153_method_11_code 6 = .ok (.getfield 27, 3) := by decide +kernel
theorem d5_9 : decode prog_153_method_11_code 9 = .ok (.isub, 1) := by decide +kernel
theorem d5_10 : decode prog_153_method_11_code 10 = .ok (.if_icmp .le 5, 3) := by decide +kernel
theorem d5_13 : decode prog_153_method_11_code 13 = .ok (.iconst 0, 1) := by decide +kernel
theorem d5_14 : decode prog_153_method_11_code 14 = .ok (.ireturn, 1) := by decide +kernel
theorem d5_15 : decode prog_153_method_11_code 15 = .ok (.aload_n 0, 1) := by decide +kernel
theorem d5_16 : decode prog_153_method_11_code 16 = .ok (.getfield 27, 3) := by decide +kernel
theorem d5_19 : decode prog_153_method_11_code 19 = .ok (.iload_n 1, 1) := by decide +kernel
theorem d5_20 : decode prog_153_method_11_code 20 = .ok (.iadd, 1) := by decide +kernel
theorem d5_21 : decode prog_153_method_11_code 21 = .ok (.istore_n 2, 1) := by decide +kernel
theorem d5_22 : decode prog_153_method_11_code 22 = .ok (.iload_n 2, 1) := by decide +kernel
theorem d5_23 : decode prog_153_method_11_code 23 = .ok (.aload_n 0, 1) := by decide +kernel
theorem d5_24 : decode prog_153_method_11_code 24 = .ok (.getfield 19, 3) := by decide +kernel
theorem d5_27 : decode prog_153_method_11_code 27 = .ok (.arraylength, 1) := by decide +kernel
theorem d5_28 : decode prog_153_method_11_code 28 = .ok (.if_icmp .le 40, 3) := by decide +kernel
theorem d5_31 : decode prog_153_method_11_code 31 = .ok (.ldc2_w 58, 3) := by decide +kernel
theorem d5_34 : decode prog_153_method_11_code 34 = .ok (.aload_n 0, 1) := by decide +kernel
theorem d5_35 : decode prog_153_method_11_code 35 = .ok (.getfield 19, 3) := by decide +kernel
theorem d5_38 : decode prog_153_method_11_code 38 = .ok (.arraylength, 1) := by decide +kernel
theorem d5_39 : decode prog_153_method_11_code 39 = .ok (.i2l, 1) := by decide +kernel
theorem d5_40 : decode prog_153_method_11_code 40 = .ok (.lmul, 1) := by decide +kernel
theorem d5_41 : decode prog_153_method_11_code 41 = .ok (.lstore_n 3, 1) := by decide +kernel
theorem d5_42 : decode prog_153_method_11_code 42 = .ok (.aload_n 0, 1) := by decide +kernel
theorem d5_43 : decode prog_153_method_11_code 43 = .ok (.aload_n 0, 1) := by decide +kernel
theorem d5_44 : decode prog_153_method_11_code 44 = .ok (.getfield 19, 3) := by decide +kernel
theorem d5_47 : decode prog_153_method_11_code 47 = .ok (.aload_n 0, 1) := by decide +kernel
theorem d5_48 : decode prog_153_method_11_code 48 = .ok (.getfield 7, 3) := by decide +kernel
theorem d5_51 : decode prog_153_method_11_code 51 = .ok (.i2l, 1) := by decide +kernel
theorem d5_52 : decode prog_153_method_11_code 52 = .ok (.iload_n 2, 1) := by decide +kernel
theorem d5_53 : decode prog_153_method_11_code 53 = .ok (.i2l, 1) := by decide +kernel
theorem d5_54 : decode prog_153_method_11_code 54 = .ok (.lload_n 3, 1) := by decide +kernel
theorem d5_55 : decode prog_153_method_11_code 55 = .ok (.invokestatic 60, 3) := by decide +kernel
theorem pd_2 : parseMethodDescriptor "(JJ)J" = some ⟨[.long, .long], some .long⟩ := by decide +kernel
theorem d5_58 : decode prog_153_method_11_code 58 = .ok (.invokestatic 64, 3) := by decide +kernel
theorem d5_61 : decode prog_153_method_11_code 61 = .ok (.l2i, 1) := by decide +kernel
theorem d5_62 : decode prog_153_method_11_code 62 = .ok (.invokestatic 41, 3) := by decide +kernel
theorem pd_3 : parseMethodDescriptor "([BI)[B" = some ⟨[(.array .byte), .int], some (.array .byte)⟩ := by decide +kernel
theorem d5_65 : decode prog_153_method_11_code 65 = .ok (.putfield 19, 3) := by decide +kernel
theorem d5_68 : decode prog_153_method_11_code 68 = .ok (.iconst 1, 1) := by decide +kernel
theorem d5_69 : decode prog_153_method_11_code 69 = .ok (.ireturn, 1) := by decide +kernel
def Q5 (Z : State) (o0 : Addr) (p1 : Int32) (x : Addr) (fs : Nat → Int32) (lim : Nat) (sz : Nat) (cap : Nat) (f : Nat → Int32) (len : Nat) (h0 : Heap) (n0 : Nat) (v : Option Value) (h : Heap) (L : List Loc) : Prop := ∃ r cap' f', v = some (.int r) ∧ Fr n0 L ∧ n0 ≤ h.size ∧ Bb Z h n0 o0 x fs lim sz cap' f' ∧ (∀ j, j < sz → f' j = f j) ∧ ((r = 0 ∧ lim < sz + len) ∨ (r = 1 ∧ sz + len ≤ cap'))
set_option maxRecDepth 65536 in
set_option maxHeartbeats 40000000 in
theorem rm5 (l : Launch) (Z : State) (a0 : Array Value) (hw : ∀ d ∈ tables_1, d.before a0 Z = true) (ws : List Jvm.Cond) (o0 : Addr) (p1 : Int32) (x : Addr) (fs : Nat → Int32) (lim : Nat) (sz : Nat) (cap : Nat) (f : Nat → Int32) (len : Nat) (h0 : Heap) (n0 : Nat) (Z0 : n0 ≤ h0.size) (B1 : Bb Z h0 n0 o0 x fs lim sz cap f) (hlen : p1.toInt = (len : Int)) (hle : len ≤ 300) :
    MetFree l (⟨"com/example/benchwire/benchwire/protocols/BoundedBuffer", "makeRoom", "(I)Z"⟩ : MethodName) (head1 (Jvm.Cond.code (⟨"com/example/benchwire/benchwire/protocols/BoundedBuffer", "makeRoom", "(I)Z"⟩ : MethodName) prog_153_method_11_code 5 (some .boolean) :: ws) ({ frames := 2, cells := 1, slots := 511, locals := 33 } : Room)) (fun a U => a = #[(.ref o0), (.int p1)] ∧ Z.Warmed39 U.vm ∧ U.heap = h0) (fun _ _ _ _ _ => True) (fun _ U o U' => ∃ v L, o = .returned v ∧ Q5 Z o0 p1 x fs lim sz cap f len h0 n0 v U'.heap L ∧ FrameEnd U o U' L ({ frames := 2, cells := 1, slots := 511, locals := 33 } : Room).cells ({ frames := 2, cells := 1, slots := 511, locals := 33 } : Room).slots) := by
  refine MetFree.of_bodySF (plainFor_of_name pn_3) hisR ?_
  intro p e s m args below meth c s₁ Bd hml0 hP hK
  obtain ⟨rfl, hZ, hh⟩ := hP
  have hx := Bd.exec
  have hby := Bd.bytes
  have hml : c.maxLocals = 5 := hml0
  have hown : s.vm.findClass "com/example/benchwire/benchwire/protocols/BoundedBuffer" = some m.cls := findClass_of_methodNamed Bd.named
  have hnm := (name_of_methodNamed Bd.named Bd.method).1
  have X0 : Stand p l e ({ frames := 2, cells := 1, slots := 511, locals := 33 } : Room) s m #[(.ref o0), (.int p1)] below meth c s₁ [] 0 0 := Stand.of_body Bd
  have e0 : s₁.heap = h0 := by rw [← hh, Bd.state]; rfl
  have pre0 : ∀ t, Steps p.tables e below (s₁.setTop (mkF m 0 #[.val (.ref o0), .val (.int p1), .unset, .unset, .unset] [])) t → Steps p.tables e below (s₁.setTop (entryFrame m #[(.ref o0), (.int p1)] 5)) t := fun t k => castTop (ef_5 m o0 p1) k
  obtain ⟨a, lv, sv, EO, FL, FB, FS, AA, AX, go, ga, x1, x2, x3, hlv, hsv, hl5, hsc, hcl, hcc⟩ := B1
  have N0 := Fr.nil n0
  obtain ⟨T1, X1, e1, st1⟩ := getF X0 hx hZ hown (host := "") (Or.inl (hw _ (List.mem_of_getElem? (i := 11) rfl))) Via.refl e0 FL (g := (mkF m 2 #[.val (.ref o0), .val (.int p1), .unset, .unset, .unset] [(.ref o0), (.int p1)])) rfl rfl (hb hby d5_2)
  obtain ⟨T2, X2, e2, st2⟩ := getF X1 hx hZ hown (host := "") (Or.inl (hw _ (List.mem_of_getElem? (i := 28) rfl))) Via.refl e1 FS (g := (mkF m 6 #[.val (.ref o0), .val (.int p1), .unset, .unset, .unset] [(.ref o0), (.int lv), (.int p1)])) rfl rfl (hb hby d5_6)
  have K3 : ∀ t, Steps p.tables e below (T2.setTop (mkF m 10 #[.val (.ref o0), .val (.int p1), .unset, .unset, .unset] [(.int (lv - sv)), (.int p1)])) t → Steps p.tables e below (s₁.setTop (mkF m 0 #[.val (.ref o0), .val (.int p1), .unset, .unset, .unset] [])) t := by
    intro t kt
    show Steps p.tables e below (s₁.setTop (mkF m 0 #[.val (.ref o0), .val (.int p1), .unset, .unset, .unset] [])) _
    refine XS.iloadN X0.here hx rfl (hb hby d5_0) rfl ?_
    show Steps p.tables e below (s₁.setTop (mkF m 1 #[.val (.ref o0), .val (.int p1), .unset, .unset, .unset] [(.int p1)])) _
    refine XS.aloadN X0.here hx rfl (hb hby d5_1) rfl rfl ?_
    show Steps p.tables e below (s₁.setTop (mkF m 2 #[.val (.ref o0), .val (.int p1), .unset, .unset, .unset] [(.ref o0), (.int p1)])) _
    refine st1 _ ?_
    show Steps p.tables e below (T1.setTop (mkF m 5 #[.val (.ref o0), .val (.int p1), .unset, .unset, .unset] [(.int lv), (.int p1)])) _
    refine XS.aloadN X1.here hx rfl (hb hby d5_5) rfl rfl ?_
    show Steps p.tables e below (T1.setTop (mkF m 6 #[.val (.ref o0), .val (.int p1), .unset, .unset, .unset] [(.ref o0), (.int lv), (.int p1)])) _
    refine st2 _ ?_
    show Steps p.tables e below (T2.setTop (mkF m 9 #[.val (.ref o0), .val (.int p1), .unset, .unset, .unset] [(.int sv), (.int lv), (.int p1)])) _
    refine XS.isub X2.here hx rfl (hb hby d5_9) rfl ?_
    exact kt
  by_cases hc4 : (lv - sv) < p1
  · skip
    have K5 : ∀ t, Steps p.tables e below (T2.setTop (mkF m 14 #[.val (.ref o0), .val (.int p1), .unset, .unset, .unset] [(.int (0 : Int32))])) t → Steps p.tables e below (s₁.setTop (mkF m 0 #[.val (.ref o0), .val (.int p1), .unset, .unset, .unset] [])) t := by
      intro t kt
      refine K3 _ ?_
      show Steps p.tables e below (T2.setTop (mkF m 10 #[.val (.ref o0), .val (.int p1), .unset, .unset, .unset] [(.int (lv - sv)), (.int p1)])) _
      refine XS.icmpNo X2.here hx rfl (hb hby d5_10) rfl (tlt hc4).2.2.2 ?_
      show Steps p.tables e below (T2.setTop (mkF m 13 #[.val (.ref o0), .val (.int p1), .unset, .unset, .unset] [])) _
      refine XS.iconst X2.here hx rfl (hb hby d5_13) ?_
      exact kt
    obtain ⟨fsQ, hr, hrun, hended, hW, hsame⟩ := X2.leave (v := some (.int (0 : Int32))) (fun h => by rw [Bd.returns] at h; cases h)
    refine ⟨_, _, pre0 _ (K5 _ ?_), hrun, hended, _, _, rfl, ?_, ⟨_, rfl⟩, hW, hsame.mono (by decide) (by decide)⟩
    · show Steps p.tables e below (T2.setTop (mkF m 14 #[.val (.ref o0), .val (.int p1), .unset, .unset, .unset] [(.int (0 : Int32))])) _
      exact retN X2 hx (t := .boolean) Bd.returns (by simp) (hb hby d5_14) hr
    · show Q5 Z o0 p1 x fs lim sz cap f len h0 n0 _ T2.heap _
      rw [e2]
      exact ⟨_, cap, f, rfl, N0, Z0, ⟨a, lv, sv, EO, FL, FB, FS, AA, AX, go, ga, x1, x2, x3, hlv, hsv, hl5, hsc, hcl, hcc⟩, fun j hj => rfl, Or.inl ⟨rfl, (own_no hlv hsv hlen hl5 (by omega) hle).mp hc4⟩⟩
  · skip
    obtain ⟨T6, X6, e6, st6⟩ := getF X2 hx hZ hown (host := "") (Or.inl (hw _ (List.mem_of_getElem? (i := 28) rfl))) Via.refl e2 FS (g := (mkF m 16 #[.val (.ref o0), .val (.int p1), .unset, .unset, .unset] [(.ref o0)])) rfl rfl (hb hby d5_16)
    obtain ⟨T7, X7, e7, st7⟩ := getF X6 hx hZ hown (host := "") (Or.inl (hw _ (List.mem_of_getElem? (i := 17) rfl))) Via.refl e6 FB (g := (mkF m 24 #[.val (.ref o0), .val (.int p1), .val (.int (sv + p1)), .unset, .unset] [(.ref o0), (.int (sv + p1))])) rfl rfl (hb hby d5_24)
    have K8 : ∀ t, Steps p.tables e below (T7.setTop (mkF m 28 #[.val (.ref o0), .val (.int p1), .val (.int (sv + p1)), .unset, .unset] [(.int (Int32.ofNat cap)), (.int (sv + p1))])) t → Steps p.tables e below (s₁.setTop (mkF m 0 #[.val (.ref o0), .val (.int p1), .unset, .unset, .unset] [])) t := by
      intro t kt
      refine K3 _ ?_
      show Steps p.tables e below (T2.setTop (mkF m 10 #[.val (.ref o0), .val (.int p1), .unset, .unset, .unset] [(.int (lv - sv)), (.int p1)])) _
      refine XS.icmpYes X2.here hx rfl (pc0 := 10) (pc' := 15) rfl (hb hby d5_10) rfl (flt hc4).2.2.2 (by decide) (by decide) ?_
      show Steps p.tables e below (T2.setTop (mkF m 15 #[.val (.ref o0), .val (.int p1), .unset, .unset, .unset] [])) _
      refine XS.aloadN X2.here hx rfl (hb hby d5_15) rfl rfl ?_
      show Steps p.tables e below (T2.setTop (mkF m 16 #[.val (.ref o0), .val (.int p1), .unset, .unset, .unset] [(.ref o0)])) _
      refine st6 _ ?_
      show Steps p.tables e below (T6.setTop (mkF m 19 #[.val (.ref o0), .val (.int p1), .unset, .unset, .unset] [(.int sv)])) _
      refine XS.iloadN X6.here hx rfl (hb hby d5_19) rfl ?_
      show Steps p.tables e below (T6.setTop (mkF m 20 #[.val (.ref o0), .val (.int p1), .unset, .unset, .unset] [(.int p1), (.int sv)])) _
      refine XS.iadd X6.here hx rfl (hb hby d5_20) rfl ?_
      show Steps p.tables e below (T6.setTop (mkF m 21 #[.val (.ref o0), .val (.int p1), .unset, .unset, .unset] [(.int (sv + p1))])) _
      refine XS.istoreN X6.here hx rfl (hb hby d5_21) rfl (l' := #[.val (.ref o0), .val (.int p1), .val (.int (sv + p1)), .unset, .unset]) rfl ?_
      show Steps p.tables e below (T6.setTop (mkF m 22 #[.val (.ref o0), .val (.int p1), .val (.int (sv + p1)), .unset, .unset] [])) _
      refine XS.iloadN X6.here hx rfl (hb hby d5_22) rfl ?_
      show Steps p.tables e below (T6.setTop (mkF m 23 #[.val (.ref o0), .val (.int p1), .val (.int (sv + p1)), .unset, .unset] [(.int (sv + p1))])) _
      refine XS.aloadN X6.here hx rfl (hb hby d5_23) rfl rfl ?_
      show Steps p.tables e below (T6.setTop (mkF m 24 #[.val (.ref o0), .val (.int p1), .val (.int (sv + p1)), .unset, .unset] [(.ref o0), (.int (sv + p1))])) _
      refine st7 _ ?_
      show Steps p.tables e below (T7.setTop (mkF m 27 #[.val (.ref o0), .val (.int p1), .val (.int (sv + p1)), .unset, .unset] [(.ref a), (.int (sv + p1))])) _
      refine iaLen X7 hx hZ e7 AA (g := (mkF m 27 #[.val (.ref o0), .val (.int p1), .val (.int (sv + p1)), .unset, .unset] [(.ref a), (.int (sv + p1))])) rfl rfl (hb hby d5_27) _ ?_
      exact kt
    by_cases hc9 : (Int32.ofNat cap) < (sv + p1)
    · skip
      obtain ⟨T10, X10, e10, st10⟩ := getF X7 hx hZ hown (host := "") (Or.inl (hw _ (List.mem_of_getElem? (i := 17) rfl))) Via.refl e7 FB (g := (mkF m 35 #[.val (.ref o0), .val (.int p1), .val (.int (sv + p1)), .unset, .unset] [(.ref o0), (.long (2 : Int64))])) rfl rfl (hb hby d5_35)
      obtain ⟨T11, X11, e11, st11⟩ := getF X10 hx hZ hown (host := "") (Or.inl (hw _ (List.mem_of_getElem? (i := 17) rfl))) Via.refl e10 FB (g := (mkF m 44 #[.val (.ref o0), .val (.int p1), .val (.int (sv + p1)), .val (.long ((2 : Int64) * ((Int32.ofNat cap).toInt64))), .second] [(.ref o0), (.ref o0)])) rfl rfl (hb hby d5_44)
      obtain ⟨T12, X12, e12, st12⟩ := getF X11 hx hZ hown (host := "") (Or.inl (hw _ (List.mem_of_getElem? (i := 11) rfl))) Via.refl e11 FL (g := (mkF m 48 #[.val (.ref o0), .val (.int p1), .val (.int (sv + p1)), .val (.long ((2 : Int64) * ((Int32.ofNat cap).toInt64))), .second] [(.ref o0), (.ref a), (.ref o0)])) rfl rfl (hb hby d5_48)
      obtain ⟨_, _, ⟨T13, L13, k13, n13⟩, -, X13, ⟨Lc13, hQ13, l13, y13, z13⟩, st13⟩ := Jvm.LawKit.callS X12 hx (y := (⟨"java/lang/Math", "max", "(JJ)J"⟩ : MethodName)) hown (mvT hZ (hw _ (List.mem_of_getElem? (i := 63) rfl))) (mvT hZ (hw _ (List.mem_of_getElem? (i := 64) rfl))) (mvT hZ (hw _ (List.mem_of_getElem? (i := 15) rfl))) (mvT hZ (hw _ (List.mem_of_getElem? (i := 65) rfl))) (by decide) (backOf (W := 4) (rm12 l Z a0 hw [] ((sv + p1).toInt64) ((2 : Int64) * ((Int32.ofNat cap).toInt64))  h0 ) hZ (hw _ (List.mem_of_getElem? (i := 65) rfl)) (hw _ (List.mem_of_getElem? (i := 15) rfl)) (by decide) (by decide)) (g := (mkF m 55 #[.val (.ref o0), .val (.int p1), .val (.int (sv + p1)), .val (.long ((2 : Int64) * ((Int32.ofNat cap).toInt64))), .second] [(.long ((2 : Int64) * ((Int32.ofNat cap).toInt64))), (.long ((sv + p1).toInt64)), (.long (lv.toInt64)), (.ref a), (.ref o0)])) rfl (by rw [hml]; rfl) (argsL := [(.long ((sv + p1).toInt64)), (.long ((2 : Int64) * ((Int32.ofNat cap).toInt64)))]) (rest := [(.long (lv.toInt64)), (.ref a), (.ref o0)]) (lenOf pd_2 rfl) rfl (by show 2 * 0 + _ ≤ _; exact Nat.le_of_eq rfl) (hb hby d5_55) (fun _ _ => ⟨rfl, e12, (by decide : 0 + 0 ≤ _), (by decide : 0 + 0 ≤ _)⟩)
      dsimp only [Pt.U, Pt.locs, Pt.cells, Pt.slots] at X13 l13 y13 z13 st13 hQ13
      subst l13 y13 z13
      obtain ⟨rfl, rfl, e13⟩ := hQ13
      try rw [List.append_nil] at X13
      obtain ⟨_, _, ⟨T14, L14, k14, n14⟩, -, X14, ⟨Lc14, hQ14, l14, y14, z14⟩, st14⟩ := Jvm.LawKit.callS X13 hx (y := (⟨"java/lang/Math", "min", "(JJ)J"⟩ : MethodName)) hown (mvT hZ (hw _ (List.mem_of_getElem? (i := 66) rfl))) (mvT hZ (hw _ (List.mem_of_getElem? (i := 67) rfl))) (mvT hZ (hw _ (List.mem_of_getElem? (i := 15) rfl))) (mvT hZ (hw _ (List.mem_of_getElem? (i := 68) rfl))) (by decide) (backOf (W := 2) (rm13 l Z a0 hw [] (lv.toInt64) (f12 ((sv + p1).toInt64) ((2 : Int64) * ((Int32.ofNat cap).toInt64)))  h0 ) hZ (hw _ (List.mem_of_getElem? (i := 68) rfl)) (hw _ (List.mem_of_getElem? (i := 15) rfl)) (by decide) (by decide)) (g := (mkF m 58 #[.val (.ref o0), .val (.int p1), .val (.int (sv + p1)), .val (.long ((2 : Int64) * ((Int32.ofNat cap).toInt64))), .second] [(.long (f12 ((sv + p1).toInt64) ((2 : Int64) * ((Int32.ofNat cap).toInt64)))), (.long (lv.toInt64)), (.ref a), (.ref o0)])) rfl (by rw [hml]; rfl) (argsL := [(.long (lv.toInt64)), (.long (f12 ((sv + p1).toInt64) ((2 : Int64) * ((Int32.ofNat cap).toInt64))))]) (rest := [(.ref a), (.ref o0)]) (lenOf pd_2 rfl) rfl (by show 2 * 0 + _ ≤ _; exact Nat.le_of_eq rfl) (hb hby d5_58) (fun _ _ => ⟨rfl, e13, (by decide : 0 + 0 ≤ _), (by decide : 0 + 0 ≤ _)⟩)
      dsimp only [Pt.U, Pt.locs, Pt.cells, Pt.slots] at X14 l14 y14 z14 st14 hQ14
      subst l14 y14 z14
      obtain ⟨rfl, rfl, e14⟩ := hQ14
      try rw [List.append_nil] at X14
      obtain ⟨_, _, ⟨T15, L15, k15, n15⟩, -, X15, ⟨Lc15, hQ15, l15, y15, z15⟩, st15⟩ := Jvm.LawKit.callS X14 hx (y := (⟨"java/util/Arrays", "copyOf", "([BI)[B"⟩ : MethodName)) hown (mvT hZ (hw _ (List.mem_of_getElem? (i := 69) rfl))) (mvT hZ (hw _ (List.mem_of_getElem? (i := 70) rfl))) (mvT hZ (hw _ (List.mem_of_getElem? (i := 71) rfl))) (mvT hZ (hw _ (List.mem_of_getElem? (i := 72) rfl))) (by decide) (backOf (W := 1) (rm14 l Z a0 hw [] a ((f13 (lv.toInt64) (f12 ((sv + p1).toInt64) ((2 : Int64) * ((Int32.ofNat cap).toInt64)))).toInt32) cap f lim h0 n0 Z0 AA (own_new hlv hsv hlen hl5 hcl hcc hsc hle hc4 hc9).1 (by omega) (own_new hlv hsv hlen hl5 hcl hcc hsc hle hc4 hc9).2.2 hl5) hZ (hw _ (List.mem_of_getElem? (i := 72) rfl)) (hw _ (List.mem_of_getElem? (i := 71) rfl)) (by decide) (by decide)) (g := (mkF m 62 #[.val (.ref o0), .val (.int p1), .val (.int (sv + p1)), .val (.long ((2 : Int64) * ((Int32.ofNat cap).toInt64))), .second] [(.int ((f13 (lv.toInt64) (f12 ((sv + p1).toInt64) ((2 : Int64) * ((Int32.ofNat cap).toInt64)))).toInt32)), (.ref a), (.ref o0)])) rfl (by rw [hml]; rfl) (argsL := [(.ref a), (.int ((f13 (lv.toInt64) (f12 ((sv + p1).toInt64) ((2 : Int64) * ((Int32.ofNat cap).toInt64)))).toInt32))]) (rest := [(.ref o0)]) (lenOf pd_3 rfl) rfl (by show 2 * 0 + _ ≤ _; exact Nat.le_of_eq rfl) (hb hby d5_62) (fun _ _ => ⟨rfl, e14, (by decide : 0 + 1 ≤ _), (by decide : 0 + 511 ≤ _)⟩)
      dsimp only [Pt.U, Pt.locs, Pt.cells, Pt.slots] at X15 l15 y15 z15 st15 hQ15
      subst l15 y15 z15
      obtain ⟨e15b, gf15, rfl, N15q, K15q, S15q, A15q, hgf15⟩ := hQ15
      have ne16 : a ≠ e15b := Nat.ne_of_lt (Nat.lt_of_lt_of_le AA.lt S15q)
      have ne17 : o0 ≠ e15b := Nat.ne_of_lt (Nat.lt_of_lt_of_le EO.lt S15q)
      have ne18 : x ≠ e15b := Nat.ne_of_lt (Nat.lt_of_lt_of_le AX.lt S15q)
      have g15x : n0 ≤ e15b := Nat.le_trans Z0 S15q
      have N15 := Fr.app N0 N15q
      have Z15 : n0 ≤ T15.heap.size := Nat.le_trans Z0 K15q.1
      have G19 : Exa Z T15.heap o0 "com/example/benchwire/benchwire/protocols/BoundedBuffer" := EO.keep K15q
      have G20 : Fld Z T15.heap o0 "com/example/benchwire/benchwire/protocols/BoundedBuffer" "limit" "I" (.int lv) := FL.keep K15q nin0
      have G21 : Fld Z T15.heap o0 "com/example/benchwire/benchwire/protocols/BoundedBuffer" "bytes" "[B" (.ref a) := FB.keep K15q nin0
      have G22 : Fld Z T15.heap o0 "com/example/benchwire/benchwire/protocols/BoundedBuffer" "size" "I" (.int sv) := FS.keep K15q nin0
      have G23 : Ia Z T15.heap a .byte cap f := AA.keep K15q nin0
      have G24 : Ia Z T15.heap x .byte 300 fs := AX.keep K15q nin0
      obtain ⟨T25, h25, X25, e25, W25, st25⟩ := putF X15 hx hZ hown (host := "") (Or.inl (hw _ (List.mem_of_getElem? (i := 17) rfl))) Via.refl rfl G21 G19 (Or.inl (hw _ (List.mem_of_getElem? (i := 18) rfl))) (hw _ (List.mem_of_getElem? (i := 3) rfl)) (ty := (.array .byte)) (by decide) rfl rfl (g := (mkF m 65 #[.val (.ref o0), .val (.int p1), .val (.int (sv + p1)), .val (.long ((2 : Int64) * ((Int32.ofNat cap).toInt64))), .second] [(.ref e15b), (.ref o0)])) rfl rfl (hb hby d5_65)
      have G26 : Exa Z h25 o0 "com/example/benchwire/benchwire/protocols/BoundedBuffer" := G19.wr W25
      have G27 : Fld Z h25 o0 "com/example/benchwire/benchwire/protocols/BoundedBuffer" "limit" "I" (.int lv) := G20.other W25 (Or.inr (slot_ne (Or.inr (hw _ (List.mem_of_getElem? (i := 12) rfl))) (Or.inl (hw _ (List.mem_of_getElem? (i := 18) rfl))) (by decide) (t := .int) (t' := (.array .byte)) (by decide) (by decide)))
      have G28 : Fld Z h25 o0 "com/example/benchwire/benchwire/protocols/BoundedBuffer" "bytes" "[B" (.ref e15b) := G21.same W25
      have G29 : Fld Z h25 o0 "com/example/benchwire/benchwire/protocols/BoundedBuffer" "size" "I" (.int sv) := G22.other W25 (Or.inr (slot_ne (Or.inl (hw _ (List.mem_of_getElem? (i := 29) rfl))) (Or.inl (hw _ (List.mem_of_getElem? (i := 18) rfl))) (by decide) (t := .int) (t' := (.array .byte)) (by decide) (by decide)))
      have G30 : Ia Z h25 a .byte cap f := G23.other W25 x1.symm
      have G31 : Ia Z h25 x .byte 300 fs := G24.other W25 x2.symm
      have G32 : Ia Z h25 e15b .byte lim gf15 := A15q.other W25 ne17.symm
      have Z25 : n0 ≤ h25.size := Nat.le_trans Z15 (Keep.of_wr W25).1
      have N25 := Fr.snoc X25 N15 go
      have K33 : ∀ t, Steps p.tables e below (T25.setTop (mkF m 69 #[.val (.ref o0), .val (.int p1), .val (.int (sv + p1)), .val (.long ((2 : Int64) * ((Int32.ofNat cap).toInt64))), .second] [(.int (1 : Int32))])) t → Steps p.tables e below (s₁.setTop (mkF m 0 #[.val (.ref o0), .val (.int p1), .unset, .unset, .unset] [])) t := by
        intro t kt
        refine K8 _ ?_
        show Steps p.tables e below (T7.setTop (mkF m 28 #[.val (.ref o0), .val (.int p1), .val (.int (sv + p1)), .unset, .unset] [(.int (Int32.ofNat cap)), (.int (sv + p1))])) _
        refine XS.icmpNo X7.here hx rfl (hb hby d5_28) rfl (tlt hc9).2.2.2 ?_
        show Steps p.tables e below (T7.setTop (mkF m 31 #[.val (.ref o0), .val (.int p1), .val (.int (sv + p1)), .unset, .unset] [])) _
        refine X7.ldc2Long hx hown (mvT hZ (hw _ (List.mem_of_getElem? (i := 62) rfl))) (g := (mkF m 31 #[.val (.ref o0), .val (.int p1), .val (.int (sv + p1)), .unset, .unset] [])) rfl (hb hby d5_31) _ ?_
        show Steps p.tables e below (T7.setTop (mkF m 34 #[.val (.ref o0), .val (.int p1), .val (.int (sv + p1)), .unset, .unset] [(.long (2 : Int64))])) _
        refine XS.aloadN X7.here hx rfl (hb hby d5_34) rfl rfl ?_
        show Steps p.tables e below (T7.setTop (mkF m 35 #[.val (.ref o0), .val (.int p1), .val (.int (sv + p1)), .unset, .unset] [(.ref o0), (.long (2 : Int64))])) _
        refine st10 _ ?_
        show Steps p.tables e below (T10.setTop (mkF m 38 #[.val (.ref o0), .val (.int p1), .val (.int (sv + p1)), .unset, .unset] [(.ref a), (.long (2 : Int64))])) _
        refine iaLen X10 hx hZ e10 AA (g := (mkF m 38 #[.val (.ref o0), .val (.int p1), .val (.int (sv + p1)), .unset, .unset] [(.ref a), (.long (2 : Int64))])) rfl rfl (hb hby d5_38) _ ?_
        show Steps p.tables e below (T10.setTop (mkF m 39 #[.val (.ref o0), .val (.int p1), .val (.int (sv + p1)), .unset, .unset] [(.int (Int32.ofNat cap)), (.long (2 : Int64))])) _
        refine XS.i2l X10.here hx rfl (hb hby d5_39) rfl ?_
        show Steps p.tables e below (T10.setTop (mkF m 40 #[.val (.ref o0), .val (.int p1), .val (.int (sv + p1)), .unset, .unset] [(.long ((Int32.ofNat cap).toInt64)), (.long (2 : Int64))])) _
        refine XS.lmul X10.here hx rfl (hb hby d5_40) rfl ?_
        show Steps p.tables e below (T10.setTop (mkF m 41 #[.val (.ref o0), .val (.int p1), .val (.int (sv + p1)), .unset, .unset] [(.long ((2 : Int64) * ((Int32.ofNat cap).toInt64)))])) _
        refine XS.lstoreN X10.here hx rfl (hb hby d5_41) rfl (l' := #[.val (.ref o0), .val (.int p1), .val (.int (sv + p1)), .val (.long ((2 : Int64) * ((Int32.ofNat cap).toInt64))), .second]) rfl ?_
        show Steps p.tables e below (T10.setTop (mkF m 42 #[.val (.ref o0), .val (.int p1), .val (.int (sv + p1)), .val (.long ((2 : Int64) * ((Int32.ofNat cap).toInt64))), .second] [])) _
        refine XS.aloadN X10.here hx rfl (hb hby d5_42) rfl rfl ?_
        show Steps p.tables e below (T10.setTop (mkF m 43 #[.val (.ref o0), .val (.int p1), .val (.int (sv + p1)), .val (.long ((2 : Int64) * ((Int32.ofNat cap).toInt64))), .second] [(.ref o0)])) _
        refine XS.aloadN X10.here hx rfl (hb hby d5_43) rfl rfl ?_
        show Steps p.tables e below (T10.setTop (mkF m 44 #[.val (.ref o0), .val (.int p1), .val (.int (sv + p1)), .val (.long ((2 : Int64) * ((Int32.ofNat cap).toInt64))), .second] [(.ref o0), (.ref o0)])) _
        refine st11 _ ?_
        show Steps p.tables e below (T11.setTop (mkF m 47 #[.val (.ref o0), .val (.int p1), .val (.int (sv + p1)), .val (.long ((2 : Int64) * ((Int32.ofNat cap).toInt64))), .second] [(.ref a), (.ref o0)])) _
        refine XS.aloadN X11.here hx rfl (hb hby d5_47) rfl rfl ?_
        show Steps p.tables e below (T11.setTop (mkF m 48 #[.val (.ref o0), .val (.int p1), .val (.int (sv + p1)), .val (.long ((2 : Int64) * ((Int32.ofNat cap).toInt64))), .second] [(.ref o0), (.ref a), (.ref o0)])) _
        refine st12 _ ?_
        show Steps p.tables e below (T12.setTop (mkF m 51 #[.val (.ref o0), .val (.int p1), .val (.int (sv + p1)), .val (.long ((2 : Int64) * ((Int32.ofNat cap).toInt64))), .second] [(.int lv), (.ref a), (.ref o0)])) _
        refine XS.i2l X12.here hx rfl (hb hby d5_51) rfl ?_
        show Steps p.tables e below (T12.setTop (mkF m 52 #[.val (.ref o0), .val (.int p1), .val (.int (sv + p1)), .val (.long ((2 : Int64) * ((Int32.ofNat cap).toInt64))), .second] [(.long (lv.toInt64)), (.ref a), (.ref o0)])) _
        refine XS.iloadN X12.here hx rfl (hb hby d5_52) rfl ?_
        show Steps p.tables e below (T12.setTop (mkF m 53 #[.val (.ref o0), .val (.int p1), .val (.int (sv + p1)), .val (.long ((2 : Int64) * ((Int32.ofNat cap).toInt64))), .second] [(.int (sv + p1)), (.long (lv.toInt64)), (.ref a), (.ref o0)])) _
        refine XS.i2l X12.here hx rfl (hb hby d5_53) rfl ?_
        show Steps p.tables e below (T12.setTop (mkF m 54 #[.val (.ref o0), .val (.int p1), .val (.int (sv + p1)), .val (.long ((2 : Int64) * ((Int32.ofNat cap).toInt64))), .second] [(.long ((sv + p1).toInt64)), (.long (lv.toInt64)), (.ref a), (.ref o0)])) _
        refine XS.lloadN X12.here hx rfl (hb hby d5_54) rfl ?_
        show Steps p.tables e below (T12.setTop (mkF m 55 #[.val (.ref o0), .val (.int p1), .val (.int (sv + p1)), .val (.long ((2 : Int64) * ((Int32.ofNat cap).toInt64))), .second] [(.long ((2 : Int64) * ((Int32.ofNat cap).toInt64))), (.long ((sv + p1).toInt64)), (.long (lv.toInt64)), (.ref a), (.ref o0)])) _
        refine st13 _ ?_
        show Steps p.tables e below (T13.setTop (mkF m 58 #[.val (.ref o0), .val (.int p1), .val (.int (sv + p1)), .val (.long ((2 : Int64) * ((Int32.ofNat cap).toInt64))), .second] [(.long (f12 ((sv + p1).toInt64) ((2 : Int64) * ((Int32.ofNat cap).toInt64)))), (.long (lv.toInt64)), (.ref a), (.ref o0)])) _
        refine st14 _ ?_
        show Steps p.tables e below (T14.setTop (mkF m 61 #[.val (.ref o0), .val (.int p1), .val (.int (sv + p1)), .val (.long ((2 : Int64) * ((Int32.ofNat cap).toInt64))), .second] [(.long (f13 (lv.toInt64) (f12 ((sv + p1).toInt64) ((2 : Int64) * ((Int32.ofNat cap).toInt64))))), (.ref a), (.ref o0)])) _
        refine XS.l2i X14.here hx rfl (hb hby d5_61) rfl ?_
        show Steps p.tables e below (T14.setTop (mkF m 62 #[.val (.ref o0), .val (.int p1), .val (.int (sv + p1)), .val (.long ((2 : Int64) * ((Int32.ofNat cap).toInt64))), .second] [(.int ((f13 (lv.toInt64) (f12 ((sv + p1).toInt64) ((2 : Int64) * ((Int32.ofNat cap).toInt64)))).toInt32)), (.ref a), (.ref o0)])) _
        refine st15 _ ?_
        show Steps p.tables e below (T15.setTop (mkF m 65 #[.val (.ref o0), .val (.int p1), .val (.int (sv + p1)), .val (.long ((2 : Int64) * ((Int32.ofNat cap).toInt64))), .second] [(.ref e15b), (.ref o0)])) _
        refine st25 _ ?_
        show Steps p.tables e below (T25.setTop (mkF m 68 #[.val (.ref o0), .val (.int p1), .val (.int (sv + p1)), .val (.long ((2 : Int64) * ((Int32.ofNat cap).toInt64))), .second] [])) _
        refine XS.iconst X25.here hx rfl (hb hby d5_68) ?_
        exact kt
      obtain ⟨fsQ, hr, hrun, hended, hW, hsame⟩ := X25.leave (v := some (.int (1 : Int32))) (fun h => by rw [Bd.returns] at h; cases h)
      refine ⟨_, _, pre0 _ (K33 _ ?_), hrun, hended, _, _, rfl, ?_, ⟨_, rfl⟩, hW, hsame.mono (by decide) (by decide)⟩
      · show Steps p.tables e below (T25.setTop (mkF m 69 #[.val (.ref o0), .val (.int p1), .val (.int (sv + p1)), .val (.long ((2 : Int64) * ((Int32.ofNat cap).toInt64))), .second] [(.int (1 : Int32))])) _
        exact retN X25 hx (t := .boolean) Bd.returns (by simp) (hb hby d5_69) hr
      · show Q5 Z o0 p1 x fs lim sz cap f len h0 n0 _ T25.heap _
        rw [e25]
        exact ⟨_, lim, gf15, rfl, N25, Z25, ⟨e15b, lv, sv, G26, G27, G28, G29, G32, G31, go, g15x, ne17, x2, ne18.symm, hlv, hsv, hl5, by omega, Nat.le_refl _, Or.inl rfl⟩, fun j hj => hgf15 j (by omega), Or.inr ⟨rfl, by have := mt (own_no hlv hsv hlen hl5 (by omega) hle).mpr hc4; omega⟩⟩
    · skip
      have K34 : ∀ t, Steps p.tables e below (T7.setTop (mkF m 69 #[.val (.ref o0), .val (.int p1), .val (.int (sv + p1)), .unset, .unset] [(.int (1 : Int32))])) t → Steps p.tables e below (s₁.setTop (mkF m 0 #[.val (.ref o0), .val (.int p1), .unset, .unset, .unset] [])) t := by
        intro t kt
        refine K8 _ ?_
        show Steps p.tables e below (T7.setTop (mkF m 28 #[.val (.ref o0), .val (.int p1), .val (.int (sv + p1)), .unset, .unset] [(.int (Int32.ofNat cap)), (.int (sv + p1))])) _
        refine XS.icmpYes X7.here hx rfl (pc0 := 28) (pc' := 68) rfl (hb hby d5_28) rfl (flt hc9).2.2.2 (by decide) (by decide) ?_
        show Steps p.tables e below (T7.setTop (mkF m 68 #[.val (.ref o0), .val (.int p1), .val (.int (sv + p1)), .unset, .unset] [])) _
        refine XS.iconst X7.here hx rfl (hb hby d5_68) ?_
        exact kt
      obtain ⟨fsQ, hr, hrun, hended, hW, hsame⟩ := X7.leave (v := some (.int (1 : Int32))) (fun h => by rw [Bd.returns] at h; cases h)
      refine ⟨_, _, pre0 _ (K34 _ ?_), hrun, hended, _, _, rfl, ?_, ⟨_, rfl⟩, hW, hsame.mono (by decide) (by decide)⟩
      · show Steps p.tables e below (T7.setTop (mkF m 69 #[.val (.ref o0), .val (.int p1), .val (.int (sv + p1)), .unset, .unset] [(.int (1 : Int32))])) _
        exact retN X7 hx (t := .boolean) Bd.returns (by simp) (hb hby d5_69) hr
      · show Q5 Z o0 p1 x fs lim sz cap f len h0 n0 _ T7.heap _
        rw [e7]
        exact ⟨_, cap, f, rfl, N0, Z0, ⟨a, lv, sv, EO, FL, FB, FS, AA, AX, go, ga, x1, x2, x3, hlv, hsv, hl5, hsc, hcl, hcc⟩, fun j hj => rfl, Or.inr ⟨rfl, own_fits hsv hlen (by omega) hsc hle hc9⟩⟩
theorem ef_4 (m : MethodId) (x0 : Addr) (x1 : Addr) (x2 : Int32) (x3 : Int32) : entryFrame m #[(.ref x0), (.ref x1), (.int x2), (.int x3)] 4 = mkF m 0 #[.val (.ref x0), .val (.ref x1), .val (.int x2), .val (.int x3)] [] := by first | (simp [entryFrame, mkF, argsToLocals, Value.category]; done) | rfl
theorem d4_0 : decode prog_153_method_3_code 0 = .ok (.aload_n 0, 1) := by decide +kernel
theorem d4_1 : decode prog_153_method_3_code 1 = .ok (.iload_n 3, 1) := by decide +kernel
theorem d4_2 : decode prog_153_method_3_code 2 = .ok (.invokevirtual 23, 3) := by decide +kernel
theorem pd_4 : parseMethodDescriptor "(I)Z" = some ⟨[.int], some .boolean⟩ := by decide +kernel
theorem d4_5 : decode prog_153_method_3_code 5 = .ok (.ifCond .ne 5, 3) := by decide +kernel
theorem d4_8 : decode prog_153_method_3_code 8 = .ok (.iconst 0, 1) := by decide +kernel
theorem d4_9 : decode prog_153_method_3_code 9 = .ok (.ireturn, 1) := by decide +kernel
theorem d4_10 : decode prog_153_method_3_code 10 = .ok (.aload_n 1, 1) := by decide +kernel
theorem d4_11 : decode prog_153_method_3_code 11 = .ok (.iload_n 2, 1) := by decide +kernel
theorem d4_12 : decode prog_153_method_3_code 12 = .ok (.aload_n 0, 1) := by decide +kernel
theorem d4_13 : decode prog_153_method_3_code 13 = .ok (.getfield 19, 3) := by decide +kernel
theorem d4_16 : decode prog_153_method_3_code 16 = .ok (.aload_n 0, 1) := by decide +kernel
theorem d4_17 : decode prog_153_method_3_code 17 = .ok (.getfield 27, 3) := by decide +kernel
theorem d4_20 : decode prog_153_method_3_code 20 = .ok (.iload_n 3, 1) := by decide +kernel
theorem d4_21 : decode prog_153_method_3_code 21 = .ok (.invokestatic 30, 3) := by decide +kernel
theorem d4_24 : decode prog_153_method_3_code 24 = .ok (.aload_n 0, 1) := by decide +kernel
theorem d4_25 : decode prog_153_method_3_code 25 = .ok (.dup, 1) := by decide +kernel
theorem d4_26 : decode prog_153_method_3_code 26 = .ok (.getfield 27, 3) := by decide +kernel
theorem d4_29 : decode prog_153_method_3_code 29 = .ok (.iload_n 3, 1) := by decide +kernel
theorem d4_30 : decode prog_153_method_3_code 30 = .ok (.iadd, 1) := by decide +kernel
theorem d4_31 : decode prog_153_method_3_code 31 = .ok (.putfield 27, 3) := by decide +kernel
theorem d4_34 : decode prog_153_method_3_code 34 = .ok (.iconst 1, 1) := by decide +kernel
theorem d4_35 : decode prog_153_method_3_code 35 = .ok (.ireturn, 1) := by decide +kernel
def Q4 (Z : State) (o0 : Addr) (x : Addr) (p2 : Int32) (p3 : Int32) (fs : Nat → Int32) (lim : Nat) (sz : Nat) (cap : Nat) (f : Nat → Int32) (len : Nat) (h0 : Heap) (n0 : Nat) (v : Option Value) (h : Heap) (L : List Loc) : Prop := ∃ r sz' cap' f', v = some (.int r) ∧ Fr n0 L ∧ n0 ≤ h.size ∧ Bb Z h n0 o0 x fs lim sz' cap' f' ∧ ((r = 0 ∧ lim < sz + len ∧ sz' = sz) ∨ (r = 1 ∧ sz + len ≤ lim ∧ sz' = sz + len ∧ (sz = 0 → ∀ j, j < len → f' j = fs j)))
set_option maxRecDepth 65536 in
set_option maxHeartbeats 40000000 in
theorem rm4 (l : Launch) (Z : State) (a0 : Array Value) (hw : ∀ d ∈ tables_1, d.before a0 Z = true) (ws : List Jvm.Cond) (o0 : Addr) (x : Addr) (p2 : Int32) (p3 : Int32) (fs : Nat → Int32) (lim : Nat) (sz : Nat) (cap : Nat) (f : Nat → Int32) (len : Nat) (h0 : Heap) (n0 : Nat) (Z0 : n0 ≤ h0.size) (B1 : Bb Z h0 n0 o0 x fs lim sz cap f) (hoff : p2.toInt = ((0 : Nat) : Int)) (hlen : p3.toInt = (len : Int)) (hle : len ≤ 300) :
    MetFree l (⟨"com/example/benchwire/benchwire/protocols/BoundedBuffer", "add", "([BII)Z"⟩ : MethodName) (head1 (Jvm.Cond.code (⟨"com/example/benchwire/benchwire/protocols/BoundedBuffer", "add", "([BII)Z"⟩ : MethodName) prog_153_method_3_code 4 (some .boolean) :: ws) ({ frames := 3, cells := 1, slots := 511, locals := 49 } : Room)) (fun a U => a = #[(.ref o0), (.ref x), (.int p2), (.int p3)] ∧ Z.Warmed39 U.vm ∧ U.heap = h0) (fun _ _ _ _ _ => True) (fun _ U o U' => ∃ v L, o = .returned v ∧ Q4 Z o0 x p2 p3 fs lim sz cap f len h0 n0 v U'.heap L ∧ FrameEnd U o U' L ({ frames := 3, cells := 1, slots := 511, locals := 49 } : Room).cells ({ frames := 3, cells := 1, slots := 511, locals := 49 } : Room).slots) := by
  refine MetFree.of_bodySF (plainFor_of_name pn_3) hisR ?_
  intro p e s m args below meth c s₁ Bd hml0 hP hK
  obtain ⟨rfl, hZ, hh⟩ := hP
  have hx := Bd.exec
  have hby := Bd.bytes
  have hml : c.maxLocals = 4 := hml0
  have hown : s.vm.findClass "com/example/benchwire/benchwire/protocols/BoundedBuffer" = some m.cls := findClass_of_methodNamed Bd.named
  have hnm := (name_of_methodNamed Bd.named Bd.method).1
  have X0 : Stand p l e ({ frames := 3, cells := 1, slots := 511, locals := 49 } : Room) s m #[(.ref o0), (.ref x), (.int p2), (.int p3)] below meth c s₁ [] 0 0 := Stand.of_body Bd
  have e0 : s₁.heap = h0 := by rw [← hh, Bd.state]; rfl
  have pre0 : ∀ t, Steps p.tables e below (s₁.setTop (mkF m 0 #[.val (.ref o0), .val (.ref x), .val (.int p2), .val (.int p3)] [])) t → Steps p.tables e below (s₁.setTop (entryFrame m #[(.ref o0), (.ref x), (.int p2), (.int p3)] 4)) t := fun t k => castTop (ef_4 m o0 x p2 p3) k
  have N0 := Fr.nil n0
  obtain ⟨cq1, q1, q1'⟩ := (own_bbE B1).cell
  obtain ⟨_, _, ⟨T1, L1, k1, n1⟩, -, X1, ⟨Lc1, hQ1, l1, y1, z1⟩, st1⟩ := X0.privateBack hx (y := (⟨"com/example/benchwire/benchwire/protocols/BoundedBuffer", "makeRoom", "(I)Z"⟩ : MethodName)) hown (mvT hZ (hw _ (List.mem_of_getElem? (i := 24) rfl))) (mvT hZ (hw _ (List.mem_of_getElem? (i := 25) rfl))) (own_sel hZ (hw _ (List.mem_of_getElem? (i := 3) rfl)) (hw _ (List.mem_of_getElem? (i := 26) rfl)) (hw _ (List.mem_of_getElem? (i := 25) rfl)) (by decide)) (Cond.privateMethod_at (mvP hZ (hw _ (List.mem_of_getElem? (i := 26) rfl)) (args := #[]))) (mvT hZ (hw _ (List.mem_of_getElem? (i := 27) rfl))) (by decide) (backOf (W := 0) (rm5 l Z a0 hw [] o0 p3 x fs lim sz cap f len h0 n0 Z0 B1 hlen hle) hZ (hw _ (List.mem_of_getElem? (i := 27) rfl)) (hw _ (List.mem_of_getElem? (i := 4) rfl)) (by decide) (by decide)) (g := (mkF m 2 #[.val (.ref o0), .val (.ref x), .val (.int p2), .val (.int p3)] [(.int p3), (.ref o0)])) rfl (by rw [hml]; rfl) (Steps.refl _) (a := o0) (by rw [e0]; exact q1) q1' (argsL := [(.int p3)]) (rest := []) (lenOf pd_4 rfl) rfl (by show 2 * 0 + _ ≤ _; exact Nat.le_of_eq rfl) (hb hby d4_2) (fun _ _ => ⟨rfl, e0, (by decide : 0 + 1 ≤ _), (by decide : 0 + 511 ≤ _)⟩)
  dsimp only [Pt.U, Pt.locs, Pt.cells, Pt.slots] at X1 l1 y1 z1 st1 hQ1
  subst l1 y1 z1
  obtain ⟨r1, cap1, f1, rfl, N1q, Z1q, B1q, hf1, hr1⟩ := hQ1
  have N1 := Fr.app N0 N1q
  have K2 : ∀ t, Steps p.tables e below (T1.setTop (mkF m 5 #[.val (.ref o0), .val (.ref x), .val (.int p2), .val (.int p3)] [(.int r1)])) t → Steps p.tables e below (s₁.setTop (mkF m 0 #[.val (.ref o0), .val (.ref x), .val (.int p2), .val (.int p3)] [])) t := by
    intro t kt
    show Steps p.tables e below (s₁.setTop (mkF m 0 #[.val (.ref o0), .val (.ref x), .val (.int p2), .val (.int p3)] [])) _
    refine XS.aloadN X0.here hx rfl (hb hby d4_0) rfl rfl ?_
    show Steps p.tables e below (s₁.setTop (mkF m 1 #[.val (.ref o0), .val (.ref x), .val (.int p2), .val (.int p3)] [(.ref o0)])) _
    refine XS.iloadN X0.here hx rfl (hb hby d4_1) rfl ?_
    show Steps p.tables e below (s₁.setTop (mkF m 2 #[.val (.ref o0), .val (.ref x), .val (.int p2), .val (.int p3)] [(.int p3), (.ref o0)])) _
    refine st1.trans ?_
    exact kt
  rcases hr1 with ⟨rfl, hno⟩ | ⟨rfl, hyes⟩
  · skip
    have K3 : ∀ t, Steps p.tables e below (T1.setTop (mkF m 9 #[.val (.ref o0), .val (.ref x), .val (.int p2), .val (.int p3)] [(.int (0 : Int32))])) t → Steps p.tables e below (s₁.setTop (mkF m 0 #[.val (.ref o0), .val (.ref x), .val (.int p2), .val (.int p3)] [])) t := by
      intro t kt
      refine K2 _ ?_
      show Steps p.tables e below (T1.setTop (mkF m 5 #[.val (.ref o0), .val (.ref x), .val (.int p2), .val (.int p3)] [(.int (0 : Int32))])) _
      refine XS.ifNo X1.here hx rfl (hb hby d4_5) rfl ((if0 _ _).trans (teq (rfl : (0 : Int32) = (0 : Int32))).2) ?_
      show Steps p.tables e below (T1.setTop (mkF m 8 #[.val (.ref o0), .val (.ref x), .val (.int p2), .val (.int p3)] [])) _
      refine XS.iconst X1.here hx rfl (hb hby d4_8) ?_
      exact kt
    obtain ⟨fsQ, hr, hrun, hended, hW, hsame⟩ := X1.leave (v := some (.int (0 : Int32))) (fun h => by rw [Bd.returns] at h; cases h)
    refine ⟨_, _, pre0 _ (K3 _ ?_), hrun, hended, _, _, rfl, ?_, ⟨_, rfl⟩, hW, hsame.mono (by decide) (by decide)⟩
    · show Steps p.tables e below (T1.setTop (mkF m 9 #[.val (.ref o0), .val (.ref x), .val (.int p2), .val (.int p3)] [(.int (0 : Int32))])) _
      exact retN X1 hx (t := .boolean) Bd.returns (by simp) (hb hby d4_9) hr
    · show Q4 Z o0 x p2 p3 fs lim sz cap f len h0 n0 _ T1.heap _
      exact ⟨_, sz, _, _, rfl, N1, Z1q, B1q, Or.inl ⟨rfl, hno, rfl⟩⟩
  · skip
    obtain ⟨a, lv, sv, EO, FL, FB, FS, AA, AX, go, ga, x1, x2, x3, hlv, hsv, hl5, hsc, hcl, hcc⟩ := B1q
    obtain ⟨T4, X4, e4, st4⟩ := getF X1 hx hZ hown (host := "") (Or.inl (hw _ (List.mem_of_getElem? (i := 17) rfl))) Via.refl rfl FB (g := (mkF m 13 #[.val (.ref o0), .val (.ref x), .val (.int p2), .val (.int p3)] [(.ref o0), (.int p2), (.ref x)])) rfl rfl (hb hby d4_13)
    obtain ⟨T5, X5, e5, st5⟩ := getF X4 hx hZ hown (host := "") (Or.inl (hw _ (List.mem_of_getElem? (i := 28) rfl))) Via.refl e4 FS (g := (mkF m 17 #[.val (.ref o0), .val (.ref x), .val (.int p2), .val (.int p3)] [(.ref o0), (.ref a), (.int p2), (.ref x)])) rfl rfl (hb hby d4_17)
    obtain ⟨T6, h6, L6, X6, e6, N6, K6, A6, st6⟩ := iaCopy X5 hx hZ hown (hw _ (List.mem_of_getElem? (i := 45) rfl)) (hw _ (List.mem_of_getElem? (i := 48) rfl)) (hw _ (List.mem_of_getElem? (i := 46) rfl)) (hw _ (List.mem_of_getElem? (i := 47) rfl)) e5 AX AA 0 sz len hoff hsv hlen (by omega) (by omega) N1 ga (g := (mkF m 21 #[.val (.ref o0), .val (.ref x), .val (.int p2), .val (.int p3)] [(.int p3), (.int sv), (.ref a), (.int p2), (.ref x)])) rfl (by rw [hml]; rfl) rfl (hb hby d4_21) (by decide) (W := 0) (by show 2 * 0 + _ ≤ _; exact Nat.le_of_eq rfl) (by decide)
    have Z6 : n0 ≤ h6.size := Nat.le_trans Z1q K6.1
    have G7 : Exa Z h6 o0 "com/example/benchwire/benchwire/protocols/BoundedBuffer" := EO.keep K6
    have G8 : Fld Z h6 o0 "com/example/benchwire/benchwire/protocols/BoundedBuffer" "limit" "I" (.int lv) := FL.keep K6 (ninS x1 nin0)
    have G9 : Fld Z h6 o0 "com/example/benchwire/benchwire/protocols/BoundedBuffer" "bytes" "[B" (.ref a) := FB.keep K6 (ninS x1 nin0)
    have G10 : Fld Z h6 o0 "com/example/benchwire/benchwire/protocols/BoundedBuffer" "size" "I" (.int sv) := FS.keep K6 (ninS x1 nin0)
    have G11 : Ia Z h6 x .byte 300 fs := AX.keep K6 (ninS x3.symm nin0)
    have G12 : Ia Z h6 a .byte cap1 (fun t => if sz ≤ t ∧ t < sz + len then fs (0 + (t - sz)) else f1 t) := A6
    obtain ⟨T13, X13, e13, st13⟩ := getF X6 hx hZ hown (host := "") (Or.inl (hw _ (List.mem_of_getElem? (i := 28) rfl))) Via.refl e6 G10 (g := (mkF m 26 #[.val (.ref o0), .val (.ref x), .val (.int p2), .val (.int p3)] [(.ref o0), (.ref o0)])) rfl rfl (hb hby d4_26)
    obtain ⟨T14, h14, X14, e14, W14, st14⟩ := putF X13 hx hZ hown (host := "") (Or.inl (hw _ (List.mem_of_getElem? (i := 28) rfl))) Via.refl e13 G10 G7 (Or.inl (hw _ (List.mem_of_getElem? (i := 29) rfl))) (hw _ (List.mem_of_getElem? (i := 3) rfl)) (ty := .int) (by decide) rfl rfl (g := (mkF m 31 #[.val (.ref o0), .val (.ref x), .val (.int p2), .val (.int p3)] [(.int (sv + p3)), (.ref o0)])) rfl rfl (hb hby d4_31)
    have G15 : Exa Z h14 o0 "com/example/benchwire/benchwire/protocols/BoundedBuffer" := G7.wr W14
    have G16 : Fld Z h14 o0 "com/example/benchwire/benchwire/protocols/BoundedBuffer" "limit" "I" (.int lv) := G8.other W14 (Or.inr (slot_ne (Or.inr (hw _ (List.mem_of_getElem? (i := 12) rfl))) (Or.inl (hw _ (List.mem_of_getElem? (i := 29) rfl))) (by decide) (t := .int) (t' := .int) (by decide) (by decide)))
    have G17 : Fld Z h14 o0 "com/example/benchwire/benchwire/protocols/BoundedBuffer" "bytes" "[B" (.ref a) := G9.other W14 (Or.inr (slot_ne (Or.inl (hw _ (List.mem_of_getElem? (i := 18) rfl))) (Or.inl (hw _ (List.mem_of_getElem? (i := 29) rfl))) (by decide) (t := (.array .byte)) (t' := .int) (by decide) (by decide)))
    have G18 : Fld Z h14 o0 "com/example/benchwire/benchwire/protocols/BoundedBuffer" "size" "I" (.int (sv + p3)) := G10.same W14
    have G19 : Ia Z h14 a .byte cap1 (fun t => if sz ≤ t ∧ t < sz + len then fs (0 + (t - sz)) else f1 t) := G12.other W14 x1.symm
    have G20 : Ia Z h14 x .byte 300 fs := G11.other W14 x2.symm
    have Z14 : n0 ≤ h14.size := Nat.le_trans Z6 (Keep.of_wr W14).1
    have N14 := Fr.snoc X14 N6 go
    have K21 : ∀ t, Steps p.tables e below (T14.setTop (mkF m 35 #[.val (.ref o0), .val (.ref x), .val (.int p2), .val (.int p3)] [(.int (1 : Int32))])) t → Steps p.tables e below (s₁.setTop (mkF m 0 #[.val (.ref o0), .val (.ref x), .val (.int p2), .val (.int p3)] [])) t := by
      intro t kt
      refine K2 _ ?_
      show Steps p.tables e below (T1.setTop (mkF m 5 #[.val (.ref o0), .val (.ref x), .val (.int p2), .val (.int p3)] [(.int (1 : Int32))])) _
      refine XS.ifYes X1.here hx rfl (pc0 := 5) (pc' := 10) rfl (hb hby d4_5) rfl ((if0 _ _).trans (feq (by decide : ¬ ((1 : Int32) = (0 : Int32)))).2) (by decide) (by decide) ?_
      show Steps p.tables e below (T1.setTop (mkF m 10 #[.val (.ref o0), .val (.ref x), .val (.int p2), .val (.int p3)] [])) _
      refine XS.aloadN X1.here hx rfl (hb hby d4_10) rfl rfl ?_
      show Steps p.tables e below (T1.setTop (mkF m 11 #[.val (.ref o0), .val (.ref x), .val (.int p2), .val (.int p3)] [(.ref x)])) _
      refine XS.iloadN X1.here hx rfl (hb hby d4_11) rfl ?_
      show Steps p.tables e below (T1.setTop (mkF m 12 #[.val (.ref o0), .val (.ref x), .val (.int p2), .val (.int p3)] [(.int p2), (.ref x)])) _
      refine XS.aloadN X1.here hx rfl (hb hby d4_12) rfl rfl ?_
      show Steps p.tables e below (T1.setTop (mkF m 13 #[.val (.ref o0), .val (.ref x), .val (.int p2), .val (.int p3)] [(.ref o0), (.int p2), (.ref x)])) _
      refine st4 _ ?_
      show Steps p.tables e below (T4.setTop (mkF m 16 #[.val (.ref o0), .val (.ref x), .val (.int p2), .val (.int p3)] [(.ref a), (.int p2), (.ref x)])) _
      refine XS.aloadN X4.here hx rfl (hb hby d4_16) rfl rfl ?_
      show Steps p.tables e below (T4.setTop (mkF m 17 #[.val (.ref o0), .val (.ref x), .val (.int p2), .val (.int p3)] [(.ref o0), (.ref a), (.int p2), (.ref x)])) _
      refine st5 _ ?_
      show Steps p.tables e below (T5.setTop (mkF m 20 #[.val (.ref o0), .val (.ref x), .val (.int p2), .val (.int p3)] [(.int sv), (.ref a), (.int p2), (.ref x)])) _
      refine XS.iloadN X5.here hx rfl (hb hby d4_20) rfl ?_
      show Steps p.tables e below (T5.setTop (mkF m 21 #[.val (.ref o0), .val (.ref x), .val (.int p2), .val (.int p3)] [(.int p3), (.int sv), (.ref a), (.int p2), (.ref x)])) _
      refine st6 _ ?_
      show Steps p.tables e below (T6.setTop (mkF m 24 #[.val (.ref o0), .val (.ref x), .val (.int p2), .val (.int p3)] [])) _
      refine XS.aloadN X6.here hx rfl (hb hby d4_24) rfl rfl ?_
      show Steps p.tables e below (T6.setTop (mkF m 25 #[.val (.ref o0), .val (.ref x), .val (.int p2), .val (.int p3)] [(.ref o0)])) _
      refine XS.dup X6.here hx rfl (hb hby d4_25) rfl rfl ?_
      show Steps p.tables e below (T6.setTop (mkF m 26 #[.val (.ref o0), .val (.ref x), .val (.int p2), .val (.int p3)] [(.ref o0), (.ref o0)])) _
      refine st13 _ ?_
      show Steps p.tables e below (T13.setTop (mkF m 29 #[.val (.ref o0), .val (.ref x), .val (.int p2), .val (.int p3)] [(.int sv), (.ref o0)])) _
      refine XS.iloadN X13.here hx rfl (hb hby d4_29) rfl ?_
      show Steps p.tables e below (T13.setTop (mkF m 30 #[.val (.ref o0), .val (.ref x), .val (.int p2), .val (.int p3)] [(.int p3), (.int sv), (.ref o0)])) _
      refine XS.iadd X13.here hx rfl (hb hby d4_30) rfl ?_
      show Steps p.tables e below (T13.setTop (mkF m 31 #[.val (.ref o0), .val (.ref x), .val (.int p2), .val (.int p3)] [(.int (sv + p3)), (.ref o0)])) _
      refine st14 _ ?_
      show Steps p.tables e below (T14.setTop (mkF m 34 #[.val (.ref o0), .val (.ref x), .val (.int p2), .val (.int p3)] [])) _
      refine XS.iconst X14.here hx rfl (hb hby d4_34) ?_
      exact kt
    obtain ⟨fsQ, hr, hrun, hended, hW, hsame⟩ := X14.leave (v := some (.int (1 : Int32))) (fun h => by rw [Bd.returns] at h; cases h)
    refine ⟨_, _, pre0 _ (K21 _ ?_), hrun, hended, _, _, rfl, ?_, ⟨_, rfl⟩, hW, hsame.mono (by decide) (by decide)⟩
    · show Steps p.tables e below (T14.setTop (mkF m 35 #[.val (.ref o0), .val (.ref x), .val (.int p2), .val (.int p3)] [(.int (1 : Int32))])) _
      exact retN X14 hx (t := .boolean) Bd.returns (by simp) (hb hby d4_35) hr
    · show Q4 Z o0 x p2 p3 fs lim sz cap f len h0 n0 _ T14.heap _
      rw [e14]
      exact ⟨_, sz + len, _, _, rfl, N14, Z14, ⟨a, lv, _, G15, G16, G17, G18, G19, G20, go, ga, x1, x2, x3, hlv, (by rw [own_add32 (by omega) (by omega), hsv, hlen]; rfl), hl5, by omega, hcl, hcc⟩, Or.inr ⟨rfl, by omega, rfl, fun z j hj => by rw [if_pos ⟨by omega, by omega⟩, z, Nat.zero_add, Nat.sub_zero]⟩⟩
theorem ef_8 (m : MethodId) (x0 : Addr) (x1 : Int32) : entryFrame m #[(.ref x0), (.int x1)] 2 = mkF m 0 #[.val (.ref x0), .val (.int x1)] [] := by first | (simp [entryFrame, mkF, argsToLocals, Value.category]; done) | rfl
theorem d8_0 : decode prog_153_method_2_code 0 = .ok (.aload_n 0, 1) := by decide +kernel
theorem d8_1 : decode prog_153_method_2_code 1 = .ok (.iconst 1, 1) := by decide +kernel
theorem d8_2 : decode prog_153_method_2_code 2 = .ok (.invokevirtual 23, 3) := by decide +kernel
theorem d8_5 : decode prog_153_method_2_code 5 = .ok (.ifCond .ne 5, 3) := by decide +kernel
theorem d8_8 : decode prog_153_method_2_code 8 = .ok (.iconst 0, 1) := by decide +kernel
theorem d8_9 : decode prog_153_method_2_code 9 = .ok (.ireturn, 1) := by decide +kernel
theorem d8_10 : decode prog_153_method_2_code 10 = .ok (.aload_n 0, 1) := by decide +kernel
theorem d8_11 : decode prog_153_method_2_code 11 = .ok (.getfield 19, 3) := by decide +kernel
theorem d8_14 : decode prog_153_method_2_code 14 = .ok (.aload_n 0, 1) := by decide +kernel
theorem d8_15 : decode prog_153_method_2_code 15 = .ok (.dup, 1) := by decide +kernel
theorem d8_16 : decode prog_153_method_2_code 16 = .ok (.getfield 27, 3) := by decide +kernel
theorem d8_19 : decode prog_153_method_2_code 19 = .ok (.dup_x1, 1) := by decide +kernel
theorem d8_20 : decode prog_153_method_2_code 20 = .ok (.iconst 1, 1) := by decide +kernel
theorem d8_21 : decode prog_153_method_2_code 21 = .ok (.iadd, 1) := by decide +kernel
theorem d8_22 : decode prog_153_method_2_code 22 = .ok (.putfield 27, 3) := by decide +kernel
theorem d8_25 : decode prog_153_method_2_code 25 = .ok (.iload_n 1, 1) := by decide +kernel
theorem d8_26 : decode prog_153_method_2_code 26 = .ok (.bastore, 1) := by decide +kernel
theorem d8_27 : decode prog_153_method_2_code 27 = .ok (.iconst 1, 1) := by decide +kernel
theorem d8_28 : decode prog_153_method_2_code 28 = .ok (.ireturn, 1) := by decide +kernel
def Q8 (Z : State) (o0 : Addr) (p1 : Int32) (x : Addr) (fs : Nat → Int32) (lim : Nat) (sz : Nat) (cap : Nat) (f : Nat → Int32) (h0 : Heap) (n0 : Nat) (v : Option Value) (h : Heap) (L : List Loc) : Prop := ∃ r sz' cap' f', v = some (.int r) ∧ Fr n0 L ∧ n0 ≤ h.size ∧ Bb Z h n0 o0 x fs lim sz' cap' f' ∧ ((r = 0 ∧ lim < sz + 1 ∧ sz' = sz) ∨ (r = 1 ∧ sz + 1 ≤ lim ∧ sz' = sz + 1))
set_option maxRecDepth 65536 in
set_option maxHeartbeats 40000000 in
theorem rm8 (l : Launch) (Z : State) (a0 : Array Value) (hw : ∀ d ∈ tables_1, d.before a0 Z = true) (ws : List Jvm.Cond) (o0 : Addr) (p1 : Int32) (x : Addr) (fs : Nat → Int32) (lim : Nat) (sz : Nat) (cap : Nat) (f : Nat → Int32) (h0 : Heap) (n0 : Nat) (Z0 : n0 ≤ h0.size) (B1 : Bb Z h0 n0 o0 x fs lim sz cap f) :
    MetFree l (⟨"com/example/benchwire/benchwire/protocols/BoundedBuffer", "add", "(B)Z"⟩ : MethodName) (head1 (Jvm.Cond.code (⟨"com/example/benchwire/benchwire/protocols/BoundedBuffer", "add", "(B)Z"⟩ : MethodName) prog_153_method_2_code 2 (some .boolean) :: ws) ({ frames := 3, cells := 1, slots := 511, locals := 49 } : Room)) (fun a U => a = #[(.ref o0), (.int p1)] ∧ Z.Warmed39 U.vm ∧ U.heap = h0) (fun _ _ _ _ _ => True) (fun _ U o U' => ∃ v L, o = .returned v ∧ Q8 Z o0 p1 x fs lim sz cap f h0 n0 v U'.heap L ∧ FrameEnd U o U' L ({ frames := 3, cells := 1, slots := 511, locals := 49 } : Room).cells ({ frames := 3, cells := 1, slots := 511, locals := 49 } : Room).slots) := by
  refine MetFree.of_bodySF (plainFor_of_name pn_3) hisR ?_
  intro p e s m args below meth c s₁ Bd hml0 hP hK
  obtain ⟨rfl, hZ, hh⟩ := hP
  have hx := Bd.exec
  have hby := Bd.bytes
  have hml : c.maxLocals = 2 := hml0
  have hown : s.vm.findClass "com/example/benchwire/benchwire/protocols/BoundedBuffer" = some m.cls := findClass_of_methodNamed Bd.named
  have hnm := (name_of_methodNamed Bd.named Bd.method).1
  have X0 : Stand p l e ({ frames := 3, cells := 1, slots := 511, locals := 49 } : Room) s m #[(.ref o0), (.int p1)] below meth c s₁ [] 0 0 := Stand.of_body Bd
  have e0 : s₁.heap = h0 := by rw [← hh, Bd.state]; rfl
  have pre0 : ∀ t, Steps p.tables e below (s₁.setTop (mkF m 0 #[.val (.ref o0), .val (.int p1)] [])) t → Steps p.tables e below (s₁.setTop (entryFrame m #[(.ref o0), (.int p1)] 2)) t := fun t k => castTop (ef_8 m o0 p1) k
  have N0 := Fr.nil n0
  obtain ⟨cq1, q1, q1'⟩ := (own_bbE B1).cell
  obtain ⟨_, _, ⟨T1, L1, k1, n1⟩, -, X1, ⟨Lc1, hQ1, l1, y1, z1⟩, st1⟩ := X0.privateBack hx (y := (⟨"com/example/benchwire/benchwire/protocols/BoundedBuffer", "makeRoom", "(I)Z"⟩ : MethodName)) hown (mvT hZ (hw _ (List.mem_of_getElem? (i := 24) rfl))) (mvT hZ (hw _ (List.mem_of_getElem? (i := 25) rfl))) (own_sel hZ (hw _ (List.mem_of_getElem? (i := 3) rfl)) (hw _ (List.mem_of_getElem? (i := 26) rfl)) (hw _ (List.mem_of_getElem? (i := 25) rfl)) (by decide)) (Cond.privateMethod_at (mvP hZ (hw _ (List.mem_of_getElem? (i := 26) rfl)) (args := #[]))) (mvT hZ (hw _ (List.mem_of_getElem? (i := 27) rfl))) (by decide) (backOf (W := 0) (rm5 l Z a0 hw [] o0 (1 : Int32) x fs lim sz cap f 1 h0 n0 Z0 B1 rfl (by decide)) hZ (hw _ (List.mem_of_getElem? (i := 27) rfl)) (hw _ (List.mem_of_getElem? (i := 4) rfl)) (by decide) (by decide)) (g := (mkF m 2 #[.val (.ref o0), .val (.int p1)] [(.int (1 : Int32)), (.ref o0)])) rfl (by rw [hml]; rfl) (Steps.refl _) (a := o0) (by rw [e0]; exact q1) q1' (argsL := [(.int (1 : Int32))]) (rest := []) (lenOf pd_4 rfl) rfl (by show 2 * 0 + _ ≤ _; exact Nat.le_of_eq rfl) (hb hby d8_2) (fun _ _ => ⟨rfl, e0, (by decide : 0 + 1 ≤ _), (by decide : 0 + 511 ≤ _)⟩)
  dsimp only [Pt.U, Pt.locs, Pt.cells, Pt.slots] at X1 l1 y1 z1 st1 hQ1
  subst l1 y1 z1
  obtain ⟨r1, cap1, f1, rfl, N1q, Z1q, B1q, hf1, hr1⟩ := hQ1
  have N1 := Fr.app N0 N1q
  have K2 : ∀ t, Steps p.tables e below (T1.setTop (mkF m 5 #[.val (.ref o0), .val (.int p1)] [(.int r1)])) t → Steps p.tables e below (s₁.setTop (mkF m 0 #[.val (.ref o0), .val (.int p1)] [])) t := by
    intro t kt
    show Steps p.tables e below (s₁.setTop (mkF m 0 #[.val (.ref o0), .val (.int p1)] [])) _
    refine XS.aloadN X0.here hx rfl (hb hby d8_0) rfl rfl ?_
    show Steps p.tables e below (s₁.setTop (mkF m 1 #[.val (.ref o0), .val (.int p1)] [(.ref o0)])) _
    refine XS.iconst X0.here hx rfl (hb hby d8_1) ?_
    show Steps p.tables e below (s₁.setTop (mkF m 2 #[.val (.ref o0), .val (.int p1)] [(.int (1 : Int32)), (.ref o0)])) _
    refine st1.trans ?_
    exact kt
  rcases hr1 with ⟨rfl, hno⟩ | ⟨rfl, hyes⟩
  · skip
    have K3 : ∀ t, Steps p.tables e below (T1.setTop (mkF m 9 #[.val (.ref o0), .val (.int p1)] [(.int (0 : Int32))])) t → Steps p.tables e below (s₁.setTop (mkF m 0 #[.val (.ref o0), .val (.int p1)] [])) t := by
      intro t kt
      refine K2 _ ?_
      show Steps p.tables e below (T1.setTop (mkF m 5 #[.val (.ref o0), .val (.int p1)] [(.int (0 : Int32))])) _
      refine XS.ifNo X1.here hx rfl (hb hby d8_5) rfl ((if0 _ _).trans (teq (rfl : (0 : Int32) = (0 : Int32))).2) ?_
      show Steps p.tables e below (T1.setTop (mkF m 8 #[.val (.ref o0), .val (.int p1)] [])) _
      refine XS.iconst X1.here hx rfl (hb hby d8_8) ?_
      exact kt
    obtain ⟨fsQ, hr, hrun, hended, hW, hsame⟩ := X1.leave (v := some (.int (0 : Int32))) (fun h => by rw [Bd.returns] at h; cases h)
    refine ⟨_, _, pre0 _ (K3 _ ?_), hrun, hended, _, _, rfl, ?_, ⟨_, rfl⟩, hW, hsame.mono (by decide) (by decide)⟩
    · show Steps p.tables e below (T1.setTop (mkF m 9 #[.val (.ref o0), .val (.int p1)] [(.int (0 : Int32))])) _
      exact retN X1 hx (t := .boolean) Bd.returns (by simp) (hb hby d8_9) hr
    · show Q8 Z o0 p1 x fs lim sz cap f h0 n0 _ T1.heap _
      exact ⟨_, sz, _, _, rfl, N1, Z1q, B1q, Or.inl ⟨rfl, hno, rfl⟩⟩
  · skip
    obtain ⟨a, lv, sv, EO, FL, FB, FS, AA, AX, go, ga, x1, x2, x3, hlv, hsv, hl5, hsc, hcl, hcc⟩ := B1q
    obtain ⟨T4, X4, e4, st4⟩ := getF X1 hx hZ hown (host := "") (Or.inl (hw _ (List.mem_of_getElem? (i := 17) rfl))) Via.refl rfl FB (g := (mkF m 11 #[.val (.ref o0), .val (.int p1)] [(.ref o0)])) rfl rfl (hb hby d8_11)
    obtain ⟨T5, X5, e5, st5⟩ := getF X4 hx hZ hown (host := "") (Or.inl (hw _ (List.mem_of_getElem? (i := 28) rfl))) Via.refl e4 FS (g := (mkF m 16 #[.val (.ref o0), .val (.int p1)] [(.ref o0), (.ref o0), (.ref a)])) rfl rfl (hb hby d8_16)
    obtain ⟨T6, h6, X6, e6, W6, st6⟩ := putF X5 hx hZ hown (host := "") (Or.inl (hw _ (List.mem_of_getElem? (i := 28) rfl))) Via.refl e5 FS EO (Or.inl (hw _ (List.mem_of_getElem? (i := 29) rfl))) (hw _ (List.mem_of_getElem? (i := 3) rfl)) (ty := .int) (by decide) rfl rfl (g := (mkF m 22 #[.val (.ref o0), .val (.int p1)] [(.int (sv + (1 : Int32))), (.ref o0), (.int sv), (.ref a)])) rfl rfl (hb hby d8_22)
    have G7 : Exa Z h6 o0 "com/example/benchwire/benchwire/protocols/BoundedBuffer" := EO.wr W6
    have G8 : Fld Z h6 o0 "com/example/benchwire/benchwire/protocols/BoundedBuffer" "limit" "I" (.int lv) := FL.other W6 (Or.inr (slot_ne (Or.inr (hw _ (List.mem_of_getElem? (i := 12) rfl))) (Or.inl (hw _ (List.mem_of_getElem? (i := 29) rfl))) (by decide) (t := .int) (t' := .int) (by decide) (by decide)))
    have G9 : Fld Z h6 o0 "com/example/benchwire/benchwire/protocols/BoundedBuffer" "bytes" "[B" (.ref a) := FB.other W6 (Or.inr (slot_ne (Or.inl (hw _ (List.mem_of_getElem? (i := 18) rfl))) (Or.inl (hw _ (List.mem_of_getElem? (i := 29) rfl))) (by decide) (t := (.array .byte)) (t' := .int) (by decide) (by decide)))
    have G10 : Fld Z h6 o0 "com/example/benchwire/benchwire/protocols/BoundedBuffer" "size" "I" (.int (sv + (1 : Int32))) := FS.same W6
    have G11 : Ia Z h6 a .byte cap1 f1 := AA.other W6 x1.symm
    have G12 : Ia Z h6 x .byte 300 fs := AX.other W6 x2.symm
    have Z6 : n0 ≤ h6.size := Nat.le_trans Z1q (Keep.of_wr W6).1
    have N6 := Fr.snoc X6 N1 go
    obtain ⟨T13, h13, X13, e13, W13, A13, st13⟩ := iaB X6 hx hZ e6 G11 (j := sv) sz hsv (by omega) (g := (mkF m 26 #[.val (.ref o0), .val (.int p1)] [(.int p1), (.int sv), (.ref a)])) rfl rfl (hb hby d8_26)
    have G14 : Exa Z h13 o0 "com/example/benchwire/benchwire/protocols/BoundedBuffer" := G7.wr W13
    have G15 : Fld Z h13 o0 "com/example/benchwire/benchwire/protocols/BoundedBuffer" "limit" "I" (.int lv) := G8.other W13 (Or.inl x1)
    have G16 : Fld Z h13 o0 "com/example/benchwire/benchwire/protocols/BoundedBuffer" "bytes" "[B" (.ref a) := G9.other W13 (Or.inl x1)
    have G17 : Fld Z h13 o0 "com/example/benchwire/benchwire/protocols/BoundedBuffer" "size" "I" (.int (sv + (1 : Int32))) := G10.other W13 (Or.inl x1)
    have G18 : Ia Z h13 a .byte cap1 (up f1 sz (nar .byte p1)) := A13
    have G19 : Ia Z h13 x .byte 300 fs := G12.other W13 x3.symm
    have Z13 : n0 ≤ h13.size := Nat.le_trans Z6 (Keep.of_wr W13).1
    have N13 := Fr.snoc X13 N6 ga
    have K20 : ∀ t, Steps p.tables e below (T13.setTop (mkF m 28 #[.val (.ref o0), .val (.int p1)] [(.int (1 : Int32))])) t → Steps p.tables e below (s₁.setTop (mkF m 0 #[.val (.ref o0), .val (.int p1)] [])) t := by
      intro t kt
      refine K2 _ ?_
      show Steps p.tables e below (T1.setTop (mkF m 5 #[.val (.ref o0), .val (.int p1)] [(.int (1 : Int32))])) _
      refine XS.ifYes X1.here hx rfl (pc0 := 5) (pc' := 10) rfl (hb hby d8_5) rfl ((if0 _ _).trans (feq (by decide : ¬ ((1 : Int32) = (0 : Int32)))).2) (by decide) (by decide) ?_
      show Steps p.tables e below (T1.setTop (mkF m 10 #[.val (.ref o0), .val (.int p1)] [])) _
      refine XS.aloadN X1.here hx rfl (hb hby d8_10) rfl rfl ?_
      show Steps p.tables e below (T1.setTop (mkF m 11 #[.val (.ref o0), .val (.int p1)] [(.ref o0)])) _
      refine st4 _ ?_
      show Steps p.tables e below (T4.setTop (mkF m 14 #[.val (.ref o0), .val (.int p1)] [(.ref a)])) _
      refine XS.aloadN X4.here hx rfl (hb hby d8_14) rfl rfl ?_
      show Steps p.tables e below (T4.setTop (mkF m 15 #[.val (.ref o0), .val (.int p1)] [(.ref o0), (.ref a)])) _
      refine XS.dup X4.here hx rfl (hb hby d8_15) rfl rfl ?_
      show Steps p.tables e below (T4.setTop (mkF m 16 #[.val (.ref o0), .val (.int p1)] [(.ref o0), (.ref o0), (.ref a)])) _
      refine st5 _ ?_
      show Steps p.tables e below (T5.setTop (mkF m 19 #[.val (.ref o0), .val (.int p1)] [(.int sv), (.ref o0), (.ref a)])) _
      refine XS.dupX1 X5.here hx rfl (hb hby d8_19) rfl rfl rfl ?_
      show Steps p.tables e below (T5.setTop (mkF m 20 #[.val (.ref o0), .val (.int p1)] [(.int sv), (.ref o0), (.int sv), (.ref a)])) _
      refine XS.iconst X5.here hx rfl (hb hby d8_20) ?_
      show Steps p.tables e below (T5.setTop (mkF m 21 #[.val (.ref o0), .val (.int p1)] [(.int (1 : Int32)), (.int sv), (.ref o0), (.int sv), (.ref a)])) _
      refine XS.iadd X5.here hx rfl (hb hby d8_21) rfl ?_
      show Steps p.tables e below (T5.setTop (mkF m 22 #[.val (.ref o0), .val (.int p1)] [(.int (sv + (1 : Int32))), (.ref o0), (.int sv), (.ref a)])) _
      refine st6 _ ?_
      show Steps p.tables e below (T6.setTop (mkF m 25 #[.val (.ref o0), .val (.int p1)] [(.int sv), (.ref a)])) _
      refine XS.iloadN X6.here hx rfl (hb hby d8_25) rfl ?_
      show Steps p.tables e below (T6.setTop (mkF m 26 #[.val (.ref o0), .val (.int p1)] [(.int p1), (.int sv), (.ref a)])) _
      refine st13 _ ?_
      show Steps p.tables e below (T13.setTop (mkF m 27 #[.val (.ref o0), .val (.int p1)] [])) _
      refine XS.iconst X13.here hx rfl (hb hby d8_27) ?_
      exact kt
    obtain ⟨fsQ, hr, hrun, hended, hW, hsame⟩ := X13.leave (v := some (.int (1 : Int32))) (fun h => by rw [Bd.returns] at h; cases h)
    refine ⟨_, _, pre0 _ (K20 _ ?_), hrun, hended, _, _, rfl, ?_, ⟨_, rfl⟩, hW, hsame.mono (by decide) (by decide)⟩
    · show Steps p.tables e below (T13.setTop (mkF m 28 #[.val (.ref o0), .val (.int p1)] [(.int (1 : Int32))])) _
      exact retN X13 hx (t := .boolean) Bd.returns (by simp) (hb hby d8_28) hr
    · show Q8 Z o0 p1 x fs lim sz cap f h0 n0 _ T13.heap _
      rw [e13]
      exact ⟨_, sz + 1, _, _, rfl, N13, Z13, ⟨a, lv, _, G14, G15, G16, G17, G18, G19, go, ga, x1, x2, x3, hlv, (by rw [own_add32 (by rw [hsv]; have : (1 : Int32).toInt = 1 := rfl; omega) (by rw [hsv]; have : (1 : Int32).toInt = 1 := rfl; omega), hsv]; rfl), hl5, by omega, hcl, hcc⟩, Or.inr ⟨rfl, by omega, rfl⟩⟩
theorem ef_6 (m : MethodId) (x0 : Addr) : entryFrame m #[(.ref x0)] 1 = mkF m 0 #[.val (.ref x0)] [] := by first | (simp [entryFrame, mkF, argsToLocals, Value.category]; done) | rfl
theorem d6_0 : decode prog_153_method_10_code 0 = .ok (.aload_n 0, 1) := by decide +kernel
theorem d6_1 : decode prog_153_method_10_code 1 = .ok (.iconst 0, 1) := by decide +kernel
theorem d6_2 : decode prog_153_method_10_code 2 = .ok (.putfield 27, 3) := by decide +kernel
theorem d6_5 : decode prog_153_method_10_code 5 = .ok (.aload_n 0, 1) := by decide +kernel
theorem d6_6 : decode prog_153_method_10_code 6 = .ok (.getfield 19, 3) := by decide +kernel
theorem d6_9 : decode prog_153_method_10_code 9 = .ok (.arraylength, 1) := by decide +kernel
theorem d6_10 : decode prog_153_method_10_code 10 = .ok (.sipush 256, 3) := by decide +kernel
theorem d6_13 : decode prog_153_method_10_code 13 = .ok (.if_icmp .le 12, 3) := by decide +kernel
theorem d6_16 : decode prog_153_method_10_code 16 = .ok (.aload_n 0, 1) := by decide +kernel
theorem d6_17 : decode prog_153_method_10_code 17 = .ok (.sipush 256, 3) := by decide +kernel
theorem d6_20 : decode prog_153_method_10_code 20 = .ok (.newarray .byte, 2) := by decide +kernel
theorem d6_22 : decode prog_153_method_10_code 22 = .ok (.putfield 19, 3) := by decide +kernel
theorem d6_25 : decode prog_153_method_10_code 25 = .ok (.return_, 1) := by decide +kernel
def Q6 (Z : State) (o0 : Addr) (x : Addr) (fs : Nat → Int32) (lim : Nat) (sz : Nat) (cap : Nat) (f : Nat → Int32) (h0 : Heap) (n0 : Nat) (v : Option Value) (h : Heap) (L : List Loc) : Prop := ∃ cap' f', v = none ∧ Fr n0 L ∧ n0 ≤ h.size ∧ Bb Z h n0 o0 x fs lim 0 cap' f'
set_option maxRecDepth 65536 in
set_option maxHeartbeats 40000000 in
theorem rm6 (l : Launch) (Z : State) (a0 : Array Value) (hw : ∀ d ∈ tables_1, d.before a0 Z = true) (ws : List Jvm.Cond) (o0 : Addr) (x : Addr) (fs : Nat → Int32) (lim : Nat) (sz : Nat) (cap : Nat) (f : Nat → Int32) (h0 : Heap) (n0 : Nat) (Z0 : n0 ≤ h0.size) (B1 : Bb Z h0 n0 o0 x fs lim sz cap f) :
    MetFree l (⟨"com/example/benchwire/benchwire/protocols/BoundedBuffer", "clear", "()V"⟩ : MethodName) (head1 (Jvm.Cond.code (⟨"com/example/benchwire/benchwire/protocols/BoundedBuffer", "clear", "()V"⟩ : MethodName) prog_153_method_10_code 1 none :: ws) ({ frames := 0, cells := 1, slots := 256, locals := 0 } : Room)) (fun a U => a = #[(.ref o0)] ∧ Z.Warmed39 U.vm ∧ U.heap = h0) (fun _ _ _ _ _ => True) (fun _ U o U' => ∃ v L, o = .returned v ∧ Q6 Z o0 x fs lim sz cap f h0 n0 v U'.heap L ∧ FrameEnd U o U' L ({ frames := 0, cells := 1, slots := 256, locals := 0 } : Room).cells ({ frames := 0, cells := 1, slots := 256, locals := 0 } : Room).slots) := by
  refine MetFree.of_bodySF (plainFor_of_name pn_3) hisR ?_
  intro p e s m args below meth c s₁ Bd hml0 hP hK
  obtain ⟨rfl, hZ, hh⟩ := hP
  have hx := Bd.exec
  have hby := Bd.bytes
  have hml : c.maxLocals = 1 := hml0
  have hown : s.vm.findClass "com/example/benchwire/benchwire/protocols/BoundedBuffer" = some m.cls := findClass_of_methodNamed Bd.named
  have hnm := (name_of_methodNamed Bd.named Bd.method).1
  have X0 : Stand p l e ({ frames := 0, cells := 1, slots := 256, locals := 0 } : Room) s m #[(.ref o0)] below meth c s₁ [] 0 0 := Stand.of_body Bd
  have e0 : s₁.heap = h0 := by rw [← hh, Bd.state]; rfl
  have pre0 : ∀ t, Steps p.tables e below (s₁.setTop (mkF m 0 #[.val (.ref o0)] [])) t → Steps p.tables e below (s₁.setTop (entryFrame m #[(.ref o0)] 1)) t := fun t k => castTop (ef_6 m o0) k
  obtain ⟨a, lv, sv, EO, FL, FB, FS, AA, AX, go, ga, x1, x2, x3, hlv, hsv, hl5, hsc, hcl, hcc⟩ := B1
  have N0 := Fr.nil n0
  obtain ⟨T1, h1, X1, e1, W1, st1⟩ := putF X0 hx hZ hown (host := "") (Or.inl (hw _ (List.mem_of_getElem? (i := 28) rfl))) Via.refl e0 FS EO (Or.inl (hw _ (List.mem_of_getElem? (i := 29) rfl))) (hw _ (List.mem_of_getElem? (i := 3) rfl)) (ty := .int) (by decide) rfl rfl (g := (mkF m 2 #[.val (.ref o0)] [(.int (0 : Int32)), (.ref o0)])) rfl rfl (hb hby d6_2)
  have G2 : Exa Z h1 o0 "com/example/benchwire/benchwire/protocols/BoundedBuffer" := EO.wr W1
  have G3 : Fld Z h1 o0 "com/example/benchwire/benchwire/protocols/BoundedBuffer" "limit" "I" (.int lv) := FL.other W1 (Or.inr (slot_ne (Or.inr (hw _ (List.mem_of_getElem? (i := 12) rfl))) (Or.inl (hw _ (List.mem_of_getElem? (i := 29) rfl))) (by decide) (t := .int) (t' := .int) (by decide) (by decide)))
  have G4 : Fld Z h1 o0 "com/example/benchwire/benchwire/protocols/BoundedBuffer" "bytes" "[B" (.ref a) := FB.other W1 (Or.inr (slot_ne (Or.inl (hw _ (List.mem_of_getElem? (i := 18) rfl))) (Or.inl (hw _ (List.mem_of_getElem? (i := 29) rfl))) (by decide) (t := (.array .byte)) (t' := .int) (by decide) (by decide)))
  have G5 : Fld Z h1 o0 "com/example/benchwire/benchwire/protocols/BoundedBuffer" "size" "I" (.int (0 : Int32)) := FS.same W1
  have G6 : Ia Z h1 a .byte cap f := AA.other W1 x1.symm
  have G7 : Ia Z h1 x .byte 300 fs := AX.other W1 x2.symm
  have Z1 : n0 ≤ h1.size := Nat.le_trans Z0 (Keep.of_wr W1).1
  have N1 := Fr.snoc X1 N0 go
  obtain ⟨T8, X8, e8, st8⟩ := getF X1 hx hZ hown (host := "") (Or.inl (hw _ (List.mem_of_getElem? (i := 17) rfl))) Via.refl e1 G4 (g := (mkF m 6 #[.val (.ref o0)] [(.ref o0)])) rfl rfl (hb hby d6_6)
  have K9 : ∀ t, Steps p.tables e below (T8.setTop (mkF m 13 #[.val (.ref o0)] [(.int (256 : Int32)), (.int (Int32.ofNat cap))])) t → Steps p.tables e below (s₁.setTop (mkF m 0 #[.val (.ref o0)] [])) t := by
    intro t kt
    show Steps p.tables e below (s₁.setTop (mkF m 0 #[.val (.ref o0)] [])) _
    refine XS.aloadN X0.here hx rfl (hb hby d6_0) rfl rfl ?_
    show Steps p.tables e below (s₁.setTop (mkF m 1 #[.val (.ref o0)] [(.ref o0)])) _
    refine XS.iconst X0.here hx rfl (hb hby d6_1) ?_
    show Steps p.tables e below (s₁.setTop (mkF m 2 #[.val (.ref o0)] [(.int (0 : Int32)), (.ref o0)])) _
    refine st1 _ ?_
    show Steps p.tables e below (T1.setTop (mkF m 5 #[.val (.ref o0)] [])) _
    refine XS.aloadN X1.here hx rfl (hb hby d6_5) rfl rfl ?_
    show Steps p.tables e below (T1.setTop (mkF m 6 #[.val (.ref o0)] [(.ref o0)])) _
    refine st8 _ ?_
    show Steps p.tables e below (T8.setTop (mkF m 9 #[.val (.ref o0)] [(.ref a)])) _
    refine iaLen X8 hx hZ e8 G6 (g := (mkF m 9 #[.val (.ref o0)] [(.ref a)])) rfl rfl (hb hby d6_9) _ ?_
    show Steps p.tables e below (T8.setTop (mkF m 10 #[.val (.ref o0)] [(.int (Int32.ofNat cap))])) _
    refine XS.sipush X8.here hx rfl (hb hby d6_10) ?_
    exact kt
  by_cases hc10 : (256 : Int32) < (Int32.ofNat cap)
  · skip
    obtain ⟨T11, h11, X11, e11, E11, A11, st11⟩ := iaNew X8 hx hZ (hw _ (List.mem_of_getElem? (i := 1) rfl)) e8 (g := (mkF m 20 #[.val (.ref o0)] [(.int (256 : Int32)), (.ref o0)])) rfl (hb hby d6_20) rfl 256 (by decide) 256 (Nat.le_refl _) (by decide) (by decide) (by decide) rfl (by decide)
    obtain ⟨b11, g11⟩ : ∃ z, z = h1.size := ⟨_, rfl⟩
    rw [← g11] at A11 st11
    have ne12 : a ≠ b11 := Nat.ne_of_lt (Nat.lt_of_lt_of_le G6.lt (Nat.le_of_eq g11.symm))
    have ne13 : o0 ≠ b11 := Nat.ne_of_lt (Nat.lt_of_lt_of_le G2.lt (Nat.le_of_eq g11.symm))
    have ne14 : x ≠ b11 := Nat.ne_of_lt (Nat.lt_of_lt_of_le G7.lt (Nat.le_of_eq g11.symm))
    have gn11 : n0 ≤ b11 := Nat.le_trans Z1 (Nat.le_of_eq g11.symm)
    have Z11 : n0 ≤ h11.size := Nat.le_trans Z1 E11.1
    have G15 : Exa Z h11 o0 "com/example/benchwire/benchwire/protocols/BoundedBuffer" := G2.ext E11
    have G16 : Fld Z h11 o0 "com/example/benchwire/benchwire/protocols/BoundedBuffer" "limit" "I" (.int lv) := G3.ext E11
    have G17 : Fld Z h11 o0 "com/example/benchwire/benchwire/protocols/BoundedBuffer" "bytes" "[B" (.ref a) := G4.ext E11
    have G18 : Fld Z h11 o0 "com/example/benchwire/benchwire/protocols/BoundedBuffer" "size" "I" (.int (0 : Int32)) := G5.ext E11
    have G19 : Ia Z h11 a .byte cap f := G6.ext E11
    have G20 : Ia Z h11 x .byte 300 fs := G7.ext E11
    have G21 : Ia Z h11 b11 .byte 256 (fun _ => (0 : Int32)) := A11
    obtain ⟨T22, h22, X22, e22, W22, st22⟩ := putF X11 hx hZ hown (host := "") (Or.inl (hw _ (List.mem_of_getElem? (i := 17) rfl))) Via.refl e11 G17 G15 (Or.inl (hw _ (List.mem_of_getElem? (i := 18) rfl))) (hw _ (List.mem_of_getElem? (i := 3) rfl)) (ty := (.array .byte)) (by decide) rfl rfl (g := (mkF m 22 #[.val (.ref o0)] [(.ref b11), (.ref o0)])) rfl rfl (hb hby d6_22)
    have G23 : Exa Z h22 o0 "com/example/benchwire/benchwire/protocols/BoundedBuffer" := G15.wr W22
    have G24 : Fld Z h22 o0 "com/example/benchwire/benchwire/protocols/BoundedBuffer" "limit" "I" (.int lv) := G16.other W22 (Or.inr (slot_ne (Or.inr (hw _ (List.mem_of_getElem? (i := 12) rfl))) (Or.inl (hw _ (List.mem_of_getElem? (i := 18) rfl))) (by decide) (t := .int) (t' := (.array .byte)) (by decide) (by decide)))
    have G25 : Fld Z h22 o0 "com/example/benchwire/benchwire/protocols/BoundedBuffer" "bytes" "[B" (.ref b11) := G17.same W22
    have G26 : Fld Z h22 o0 "com/example/benchwire/benchwire/protocols/BoundedBuffer" "size" "I" (.int (0 : Int32)) := G18.other W22 (Or.inr (slot_ne (Or.inl (hw _ (List.mem_of_getElem? (i := 29) rfl))) (Or.inl (hw _ (List.mem_of_getElem? (i := 18) rfl))) (by decide) (t := .int) (t' := (.array .byte)) (by decide) (by decide)))
    have G27 : Ia Z h22 a .byte cap f := G19.other W22 x1.symm
    have G28 : Ia Z h22 x .byte 300 fs := G20.other W22 x2.symm
    have G29 : Ia Z h22 b11 .byte 256 (fun _ => (0 : Int32)) := G21.other W22 ne13.symm
    have Z22 : n0 ≤ h22.size := Nat.le_trans Z11 (Keep.of_wr W22).1
    have N22 := Fr.snoc X22 N1 go
    have K30 : ∀ t, Steps p.tables e below (T22.setTop (mkF m 25 #[.val (.ref o0)] [])) t → Steps p.tables e below (s₁.setTop (mkF m 0 #[.val (.ref o0)] [])) t := by
      intro t kt
      refine K9 _ ?_
      show Steps p.tables e below (T8.setTop (mkF m 13 #[.val (.ref o0)] [(.int (256 : Int32)), (.int (Int32.ofNat cap))])) _
      refine XS.icmpNo X8.here hx rfl (hb hby d6_13) rfl (tlt hc10).2.2.2 ?_
      show Steps p.tables e below (T8.setTop (mkF m 16 #[.val (.ref o0)] [])) _
      refine XS.aloadN X8.here hx rfl (hb hby d6_16) rfl rfl ?_
      show Steps p.tables e below (T8.setTop (mkF m 17 #[.val (.ref o0)] [(.ref o0)])) _
      refine XS.sipush X8.here hx rfl (hb hby d6_17) ?_
      show Steps p.tables e below (T8.setTop (mkF m 20 #[.val (.ref o0)] [(.int (256 : Int32)), (.ref o0)])) _
      refine st11 _ ?_
      show Steps p.tables e below (T11.setTop (mkF m 22 #[.val (.ref o0)] [(.ref b11), (.ref o0)])) _
      refine st22 _ ?_
      exact kt
    obtain ⟨fsQ, hr, hrun, hended, hW, hsame⟩ := X22.leave (v := none) (fun _ => rfl)
    refine ⟨_, _, pre0 _ (K30 _ ?_), hrun, hended, _, _, rfl, ?_, ⟨_, rfl⟩, hW, hsame.mono (by decide) (by decide)⟩
    · show Steps p.tables e below (T22.setTop (mkF m 25 #[.val (.ref o0)] [])) _
      exact X22.returnOut hx Bd.returns (hb hby d6_25) hr
    · show Q6 Z o0 x fs lim sz cap f h0 n0 _ T22.heap _
      rw [e22]
      exact ⟨256, _, rfl, N22, Z22, ⟨b11, lv, (0 : Int32), G23, G24, G25, G26, G29, G28, go, gn11, ne13, x2, ne14.symm, hlv, rfl, hl5, by omega, by have := hc10; rw [Int32.lt_iff_toInt_lt, own_tn (by omega), show (256 : Int32).toInt = 256 from rfl] at this; omega, Or.inr rfl⟩⟩
  · skip
    have K31 : ∀ t, Steps p.tables e below (T8.setTop (mkF m 25 #[.val (.ref o0)] [])) t → Steps p.tables e below (s₁.setTop (mkF m 0 #[.val (.ref o0)] [])) t := by
      intro t kt
      refine K9 _ ?_
      show Steps p.tables e below (T8.setTop (mkF m 13 #[.val (.ref o0)] [(.int (256 : Int32)), (.int (Int32.ofNat cap))])) _
      refine XS.icmpYes X8.here hx rfl (pc0 := 13) (pc' := 25) rfl (hb hby d6_13) rfl (flt hc10).2.2.2 (by decide) (by decide) ?_
      exact kt
    obtain ⟨fsQ, hr, hrun, hended, hW, hsame⟩ := X8.leave (v := none) (fun _ => rfl)
    refine ⟨_, _, pre0 _ (K31 _ ?_), hrun, hended, _, _, rfl, ?_, ⟨_, rfl⟩, hW, hsame.mono (by decide) (by decide)⟩
    · show Steps p.tables e below (T8.setTop (mkF m 25 #[.val (.ref o0)] [])) _
      exact X8.returnOut hx Bd.returns (hb hby d6_25) hr
    · show Q6 Z o0 x fs lim sz cap f h0 n0 _ T8.heap _
      rw [e8]
      exact ⟨cap, f, rfl, N1, Z1, ⟨a, lv, (0 : Int32), G2, G3, G4, G5, G6, G7, go, ga, x1, x2, x3, hlv, rfl, hl5, by omega, hcl, hcc⟩⟩
theorem ef_7 (m : MethodId) (x0 : Addr) : entryFrame m #[(.ref x0)] 1 = mkF m 0 #[.val (.ref x0)] [] := by first | (simp [entryFrame, mkF, argsToLocals, Value.category]; done) | rfl
theorem d7_0 : decode prog_153_method_4_code 0 = .ok (.aload_n 0, 1) := by decide +kernel
theorem d7_1 : decode prog_153_method_4_code 1 = .ok (.getfield 27, 3) := by decide +kernel
theorem d7_4 : decode prog_153_method_4_code 4 = .ok (.ireturn, 1) := by decide +kernel
def Q7 (Z : State) (o0 : Addr) (x : Addr) (fs : Nat → Int32) (lim : Nat) (sz : Nat) (cap : Nat) (f : Nat → Int32) (h0 : Heap) (n0 : Nat) (v : Option Value) (h : Heap) (L : List Loc) : Prop := ∃ r, v = some (.int r) ∧ r.toInt = (sz : Int) ∧ L = [] ∧ h = h0
set_option maxRecDepth 65536 in
set_option maxHeartbeats 40000000 in
theorem rm7 (l : Launch) (Z : State) (a0 : Array Value) (hw : ∀ d ∈ tables_1, d.before a0 Z = true) (ws : List Jvm.Cond) (o0 : Addr) (x : Addr) (fs : Nat → Int32) (lim : Nat) (sz : Nat) (cap : Nat) (f : Nat → Int32) (h0 : Heap) (n0 : Nat) (Z0 : n0 ≤ h0.size) (B1 : Bb Z h0 n0 o0 x fs lim sz cap f) :
    MetFree l (⟨"com/example/benchwire/benchwire/protocols/BoundedBuffer", "size", "()I"⟩ : MethodName) (head1 (Jvm.Cond.code (⟨"com/example/benchwire/benchwire/protocols/BoundedBuffer", "size", "()I"⟩ : MethodName) prog_153_method_4_code 1 (some .int) :: ws) ({ frames := 0, cells := 0, slots := 0, locals := 0 } : Room)) (fun a U => a = #[(.ref o0)] ∧ Z.Warmed39 U.vm ∧ U.heap = h0) (fun _ _ _ _ _ => True) (fun _ U o U' => ∃ v L, o = .returned v ∧ Q7 Z o0 x fs lim sz cap f h0 n0 v U'.heap L ∧ FrameEnd U o U' L ({ frames := 0, cells := 0, slots := 0, locals := 0 } : Room).cells ({ frames := 0, cells := 0, slots := 0, locals := 0 } : Room).slots) := by
  refine MetFree.of_bodySF (plainFor_of_name pn_3) hisR ?_
  intro p e s m args below meth c s₁ Bd hml0 hP hK
  obtain ⟨rfl, hZ, hh⟩ := hP
  have hx := Bd.exec
  have hby := Bd.bytes
  have hml : c.maxLocals = 1 := hml0
  have hown : s.vm.findClass "com/example/benchwire/benchwire/protocols/BoundedBuffer" = some m.cls := findClass_of_methodNamed Bd.named
  have hnm := (name_of_methodNamed Bd.named Bd.method).1
  have X0 : Stand p l e ({ frames := 0, cells := 0, slots := 0, locals := 0 } : Room) s m #[(.ref o0)] below meth c s₁ [] 0 0 := Stand.of_body Bd
  have e0 : s₁.heap = h0 := by rw [← hh, Bd.state]; rfl
  have pre0 : ∀ t, Steps p.tables e below (s₁.setTop (mkF m 0 #[.val (.ref o0)] [])) t → Steps p.tables e below (s₁.setTop (entryFrame m #[(.ref o0)] 1)) t := fun t k => castTop (ef_7 m o0) k
  obtain ⟨a, lv, sv, EO, FL, FB, FS, AA, AX, go, ga, x1, x2, x3, hlv, hsv, hl5, hsc, hcl, hcc⟩ := B1
  have N0 := Fr.nil n0
  obtain ⟨T1, X1, e1, st1⟩ := getF X0 hx hZ hown (host := "") (Or.inl (hw _ (List.mem_of_getElem? (i := 28) rfl))) Via.refl e0 FS (g := (mkF m 1 #[.val (.ref o0)] [(.ref o0)])) rfl rfl (hb hby d7_1)
  have K2 : ∀ t, Steps p.tables e below (T1.setTop (mkF m 4 #[.val (.ref o0)] [(.int sv)])) t → Steps p.tables e below (s₁.setTop (mkF m 0 #[.val (.ref o0)] [])) t := by
    intro t kt
    show Steps p.tables e below (s₁.setTop (mkF m 0 #[.val (.ref o0)] [])) _
    refine XS.aloadN X0.here hx rfl (hb hby d7_0) rfl rfl ?_
    show Steps p.tables e below (s₁.setTop (mkF m 1 #[.val (.ref o0)] [(.ref o0)])) _
    refine st1 _ ?_
    exact kt
  obtain ⟨fsQ, hr, hrun, hended, hW, hsame⟩ := X1.leave (v := some (.int sv)) (fun h => by rw [Bd.returns] at h; cases h)
  refine ⟨_, _, pre0 _ (K2 _ ?_), hrun, hended, _, _, rfl, ?_, ⟨_, rfl⟩, hW, hsame.mono (by decide) (by decide)⟩
  · show Steps p.tables e below (T1.setTop (mkF m 4 #[.val (.ref o0)] [(.int sv)])) _
    exact retOut X1 hx Bd.returns rfl (Or.inl ⟨rfl, Or.inl rfl, _, rfl⟩) (hb hby d7_4) hr
  · show Q7 Z o0 x fs lim sz cap f h0 n0 _ T1.heap _
    rw [e1]
    exact ⟨_, rfl, hsv, rfl, rfl⟩
theorem ef_9 (m : MethodId) (x0 : Addr) (x1 : Int32) : entryFrame m #[(.ref x0), (.int x1)] 2 = mkF m 0 #[.val (.ref x0), .val (.int x1)] [] := by first | (simp [entryFrame, mkF, argsToLocals, Value.category]; done) | rfl
theorem d9_0 : decode prog_153_method_5_code 0 = .ok (.iload_n 1, 1) := by decide +kernel
theorem d9_1 : decode prog_153_method_5_code 1 = .ok (.aload_n 0, 1) := by decide +kernel
theorem d9_2 : decode prog_153_method_5_code 2 = .ok (.getfield 27, 3) := by decide +kernel
theorem d9_5 : decode prog_153_method_5_code 5 = .ok (.invokestatic 36, 3) := by decide +kernel
theorem d9_8 : decode prog_153_method_5_code 8 = .ok (.pop, 1) := by decide +kernel
theorem d9_9 : decode prog_153_method_5_code 9 = .ok (.aload_n 0, 1) := by decide +kernel
theorem d9_10 : decode prog_153_method_5_code 10 = .ok (.getfield 19, 3) := by decide +kernel
theorem d9_13 : decode prog_153_method_5_code 13 = .ok (.iload_n 1, 1) := by decide +kernel
theorem d9_14 : decode prog_153_method_5_code 14 = .ok (.baload, 1) := by decide +kernel
theorem d9_15 : decode prog_153_method_5_code 15 = .ok (.ireturn, 1) := by decide +kernel
def Q9 (Z : State) (o0 : Addr) (p1 : Int32) (x : Addr) (fs : Nat → Int32) (lim : Nat) (sz : Nat) (cap : Nat) (f : Nat → Int32) (i : Nat) (h0 : Heap) (n0 : Nat) (v : Option Value) (h : Heap) (L : List Loc) : Prop := v = some (.int (nar .byte (f i))) ∧ L = [] ∧ h = h0
set_option maxRecDepth 65536 in
set_option maxHeartbeats 40000000 in
theorem rm9 (l : Launch) (Z : State) (a0 : Array Value) (hw : ∀ d ∈ tables_1, d.before a0 Z = true) (ws : List Jvm.Cond) (o0 : Addr) (p1 : Int32) (x : Addr) (fs : Nat → Int32) (lim : Nat) (sz : Nat) (cap : Nat) (f : Nat → Int32) (i : Nat) (h0 : Heap) (n0 : Nat) (Z0 : n0 ≤ h0.size) (B1 : Bb Z h0 n0 o0 x fs lim sz cap f) (hi : p1.toInt = (i : Int)) (his : i < sz) :
    MetFree l (⟨"com/example/benchwire/benchwire/protocols/BoundedBuffer", "get", "(I)B"⟩ : MethodName) (head1 (Jvm.Cond.code (⟨"com/example/benchwire/benchwire/protocols/BoundedBuffer", "get", "(I)B"⟩ : MethodName) prog_153_method_5_code 2 (some .byte) :: ws) ({ frames := 2, cells := 0, slots := 0, locals := 27 } : Room)) (fun a U => a = #[(.ref o0), (.int p1)] ∧ Z.Warmed39 U.vm ∧ U.heap = h0) (fun _ _ _ _ _ => True) (fun _ U o U' => ∃ v L, o = .returned v ∧ Q9 Z o0 p1 x fs lim sz cap f i h0 n0 v U'.heap L ∧ FrameEnd U o U' L ({ frames := 2, cells := 0, slots := 0, locals := 27 } : Room).cells ({ frames := 2, cells := 0, slots := 0, locals := 27 } : Room).slots) := by
  refine MetFree.of_bodySF (plainFor_of_name pn_3) hisR ?_
  intro p e s m args below meth c s₁ Bd hml0 hP hK
  obtain ⟨rfl, hZ, hh⟩ := hP
  have hx := Bd.exec
  have hby := Bd.bytes
  have hml : c.maxLocals = 2 := hml0
  have hown : s.vm.findClass "com/example/benchwire/benchwire/protocols/BoundedBuffer" = some m.cls := findClass_of_methodNamed Bd.named
  have hnm := (name_of_methodNamed Bd.named Bd.method).1
  have X0 : Stand p l e ({ frames := 2, cells := 0, slots := 0, locals := 27 } : Room) s m #[(.ref o0), (.int p1)] below meth c s₁ [] 0 0 := Stand.of_body Bd
  have e0 : s₁.heap = h0 := by rw [← hh, Bd.state]; rfl
  have pre0 : ∀ t, Steps p.tables e below (s₁.setTop (mkF m 0 #[.val (.ref o0), .val (.int p1)] [])) t → Steps p.tables e below (s₁.setTop (entryFrame m #[(.ref o0), (.int p1)] 2)) t := fun t k => castTop (ef_9 m o0 p1) k
  obtain ⟨a, lv, sv, EO, FL, FB, FS, AA, AX, go, ga, x1, x2, x3, hlv, hsv, hl5, hsc, hcl, hcc⟩ := B1
  have hi0 : ¬ p1 < (0 : Int32) := by rw [Int32.lt_iff_toInt_lt, hi, show (0 : Int32).toInt = 0 from rfl]; omega
  have hi1 : p1 < sv := by rw [Int32.lt_iff_toInt_lt, hi, hsv]; omega
  have N0 := Fr.nil n0
  obtain ⟨T1, X1, e1, st1⟩ := getF X0 hx hZ hown (host := "") (Or.inl (hw _ (List.mem_of_getElem? (i := 28) rfl))) Via.refl e0 FS (g := (mkF m 2 #[.val (.ref o0), .val (.int p1)] [(.ref o0), (.int p1)])) rfl rfl (hb hby d9_2)
  obtain ⟨_, _, ⟨T2, L2, k2, n2⟩, -, X2, ⟨Lc2, hQ2, l2, y2, z2⟩, st2⟩ := Jvm.LawKit.callS X1 hx (y := (⟨"java/util/Objects", "checkIndex", "(II)I"⟩ : MethodName)) hown (mvT hZ (hw _ (List.mem_of_getElem? (i := 54) rfl))) (mvT hZ (hw _ (List.mem_of_getElem? (i := 55) rfl))) (mvT hZ (hw _ (List.mem_of_getElem? (i := 56) rfl))) (mvT hZ (hw _ (List.mem_of_getElem? (i := 57) rfl))) (by decide) (backOf (W := 0) (rm10 l Z a0 hw [] p1 sv  h0 hi0 hi1) hZ (hw _ (List.mem_of_getElem? (i := 57) rfl)) (hw _ (List.mem_of_getElem? (i := 56) rfl)) (by decide) (by decide)) (g := (mkF m 5 #[.val (.ref o0), .val (.int p1)] [(.int sv), (.int p1)])) rfl (by rw [hml]; rfl) (argsL := [(.int p1), (.int sv)]) (rest := []) (lenOf pd_1 rfl) rfl (by show 2 * 0 + _ ≤ _; exact Nat.le_of_eq rfl) (hb hby d9_5) (fun _ _ => ⟨rfl, e1, (by decide : 0 + 0 ≤ _), (by decide : 0 + 0 ≤ _)⟩)
  dsimp only [Pt.U, Pt.locs, Pt.cells, Pt.slots] at X2 l2 y2 z2 st2 hQ2
  subst l2 y2 z2
  obtain ⟨rfl, rfl, e2⟩ := hQ2
  try rw [List.append_nil] at X2
  obtain ⟨T3, X3, e3, st3⟩ := getF X2 hx hZ hown (host := "") (Or.inl (hw _ (List.mem_of_getElem? (i := 17) rfl))) Via.refl e2 FB (g := (mkF m 10 #[.val (.ref o0), .val (.int p1)] [(.ref o0)])) rfl rfl (hb hby d9_10)
  have K4 : ∀ t, Steps p.tables e below (T3.setTop (mkF m 15 #[.val (.ref o0), .val (.int p1)] [(.int (f i))])) t → Steps p.tables e below (s₁.setTop (mkF m 0 #[.val (.ref o0), .val (.int p1)] [])) t := by
    intro t kt
    show Steps p.tables e below (s₁.setTop (mkF m 0 #[.val (.ref o0), .val (.int p1)] [])) _
    refine XS.iloadN X0.here hx rfl (hb hby d9_0) rfl ?_
    show Steps p.tables e below (s₁.setTop (mkF m 1 #[.val (.ref o0), .val (.int p1)] [(.int p1)])) _
    refine XS.aloadN X0.here hx rfl (hb hby d9_1) rfl rfl ?_
    show Steps p.tables e below (s₁.setTop (mkF m 2 #[.val (.ref o0), .val (.int p1)] [(.ref o0), (.int p1)])) _
    refine st1 _ ?_
    show Steps p.tables e below (T1.setTop (mkF m 5 #[.val (.ref o0), .val (.int p1)] [(.int sv), (.int p1)])) _
    refine st2 _ ?_
    show Steps p.tables e below (T2.setTop (mkF m 8 #[.val (.ref o0), .val (.int p1)] [(.int (f10 p1 sv))])) _
    refine XS.pop X2.here hx rfl (hb hby d9_8) rfl rfl ?_
    show Steps p.tables e below (T2.setTop (mkF m 9 #[.val (.ref o0), .val (.int p1)] [])) _
    refine XS.aloadN X2.here hx rfl (hb hby d9_9) rfl rfl ?_
    show Steps p.tables e below (T2.setTop (mkF m 10 #[.val (.ref o0), .val (.int p1)] [(.ref o0)])) _
    refine st3 _ ?_
    show Steps p.tables e below (T3.setTop (mkF m 13 #[.val (.ref o0), .val (.int p1)] [(.ref a)])) _
    refine XS.iloadN X3.here hx rfl (hb hby d9_13) rfl ?_
    show Steps p.tables e below (T3.setTop (mkF m 14 #[.val (.ref o0), .val (.int p1)] [(.int p1), (.ref a)])) _
    refine iaLB X3 hx hZ e3 AA (j := p1) i hi (by omega) (g := (mkF m 14 #[.val (.ref o0), .val (.int p1)] [(.int p1), (.ref a)])) rfl rfl (hb hby d9_14) _ ?_
    exact kt
  obtain ⟨fsQ, hr, hrun, hended, hW, hsame⟩ := X3.leave (v := some (.int (nar .byte (f i)))) (fun h => by rw [Bd.returns] at h; cases h)
  refine ⟨_, _, pre0 _ (K4 _ ?_), hrun, hended, _, _, rfl, ?_, ⟨_, rfl⟩, hW, hsame.mono (by decide) (by decide)⟩
  · show Steps p.tables e below (T3.setTop (mkF m 15 #[.val (.ref o0), .val (.int p1)] [(.int (f i))])) _
    exact retN X3 hx (t := .byte) Bd.returns (by simp) (hb hby d9_15) hr
  · show Q9 Z o0 p1 x fs lim sz cap f i h0 n0 _ T3.heap _
    rw [e3]
    exact ⟨rfl, rfl, rfl⟩
theorem ef_1 (m : MethodId) (x0 : Addr) (x1 : Int32) : entryFrame m #[(.ref x0), (.int x1)] 2 = mkF m 0 #[.val (.ref x0), .val (.int x1)] [] := by first | (simp [entryFrame, mkF, argsToLocals, Value.category]; done) | rfl
theorem d1_0 : decode prog_153_method_1_code 0 = .ok (.aload_n 0, 1) := by decide +kernel
theorem d1_1 : decode prog_153_method_1_code 1 = .ok (.invokespecial 1, 3) := by decide +kernel
theorem d1_4 : decode prog_153_method_1_code 4 = .ok (.aload_n 0, 1) := by decide +kernel
theorem d1_5 : decode prog_153_method_1_code 5 = .ok (.iload_n 1, 1) := by decide +kernel
theorem d1_6 : decode prog_153_method_1_code 6 = .ok (.putfield 7, 3) := by decide +kernel
theorem d1_9 : decode prog_153_method_1_code 9 = .ok (.aload_n 0, 1) := by decide +kernel
theorem d1_10 : decode prog_153_method_1_code 10 = .ok (.sipush 256, 3) := by decide +kernel
theorem d1_13 : decode prog_153_method_1_code 13 = .ok (.iload_n 1, 1) := by decide +kernel
theorem d1_14 : decode prog_153_method_1_code 14 = .ok (.invokestatic 13, 3) := by decide +kernel
theorem d1_17 : decode prog_153_method_1_code 17 = .ok (.newarray .byte, 2) := by decide +kernel
theorem d1_19 : decode prog_153_method_1_code 19 = .ok (.putfield 19, 3) := by decide +kernel
theorem d1_22 : decode prog_153_method_1_code 22 = .ok (.return_, 1) := by decide +kernel
def Q1 (Z : State) (o0 : Addr) (p1 : Int32) (v1 : Value) (v2 : Value) (x : Addr) (fs : Nat → Int32) (lim : Nat) (h0 : Heap) (n0 : Nat) (v : Option Value) (h : Heap) (L : List Loc) : Prop := v = none ∧ Fr n0 L ∧ n0 ≤ h.size ∧ Bb Z h n0 o0 x fs lim 0 (min 256 lim) (fun _ => (0 : Int32))
set_option maxRecDepth 65536 in
set_option maxHeartbeats 40000000 in
theorem rm1 (l : Launch) (Z : State) (a0 : Array Value) (hw : ∀ d ∈ tables_1, d.before a0 Z = true) (ws : List Jvm.Cond) (o0 : Addr) (p1 : Int32) (v1 : Value) (v2 : Value) (x : Addr) (fs : Nat → Int32) (lim : Nat) (h0 : Heap) (n0 : Nat) (Z0 : n0 ≤ h0.size) (FL : Fld Z h0 o0 "com/example/benchwire/benchwire/protocols/BoundedBuffer" "limit" "I" v1) (FB : Fld Z h0 o0 "com/example/benchwire/benchwire/protocols/BoundedBuffer" "bytes" "[B" v2) (FS : Fld Z h0 o0 "com/example/benchwire/benchwire/protocols/BoundedBuffer" "size" "I" (.int (0 : Int32))) (EO : Exa Z h0 o0 "com/example/benchwire/benchwire/protocols/BoundedBuffer") (go : n0 ≤ o0) (AX : Ia Z h0 x .byte 300 fs) (x2 : o0 ≠ x) (hlv : p1.toInt = (lim : Int)) (hl5 : lim ≤ 511) :
    MetFree l (⟨"com/example/benchwire/benchwire/protocols/BoundedBuffer", "<init>", "(I)V"⟩ : MethodName) (head1 (Jvm.Cond.code (⟨"com/example/benchwire/benchwire/protocols/BoundedBuffer", "<init>", "(I)V"⟩ : MethodName) prog_153_method_1_code 2 none :: ws) ({ frames := 1, cells := 1, slots := 256, locals := 14 } : Room)) (fun a U => a = #[(.ref o0), (.int p1)] ∧ Z.Warmed39 U.vm ∧ U.heap = h0) (fun _ _ _ _ _ => True) (fun _ U o U' => ∃ v L, o = .returned v ∧ Q1 Z o0 p1 v1 v2 x fs lim h0 n0 v U'.heap L ∧ FrameEnd U o U' L ({ frames := 1, cells := 1, slots := 256, locals := 14 } : Room).cells ({ frames := 1, cells := 1, slots := 256, locals := 14 } : Room).slots) := by
  refine MetFree.of_bodySF (plainFor_of_name pn_3) hisR ?_
  intro p e s m args below meth c s₁ Bd hml0 hP hK
  obtain ⟨rfl, hZ, hh⟩ := hP
  have hx := Bd.exec
  have hby := Bd.bytes
  have hml : c.maxLocals = 2 := hml0
  have hown : s.vm.findClass "com/example/benchwire/benchwire/protocols/BoundedBuffer" = some m.cls := findClass_of_methodNamed Bd.named
  have hnm := (name_of_methodNamed Bd.named Bd.method).1
  have X0 : Stand p l e ({ frames := 1, cells := 1, slots := 256, locals := 14 } : Room) s m #[(.ref o0), (.int p1)] below meth c s₁ [] 0 0 := Stand.of_body Bd
  have e0 : s₁.heap = h0 := by rw [← hh, Bd.state]; rfl
  have pre0 : ∀ t, Steps p.tables e below (s₁.setTop (mkF m 0 #[.val (.ref o0), .val (.int p1)] [])) t → Steps p.tables e below (s₁.setTop (entryFrame m #[(.ref o0), (.int p1)] 2)) t := fun t k => castTop (ef_1 m o0 p1) k
  have N0 := Fr.nil n0
  obtain ⟨T1, X1, e1, st1⟩ := initO X0 hx hZ hown (hw _ (List.mem_of_getElem? (i := 8) rfl)) (hw _ (List.mem_of_getElem? (i := 9) rfl)) (hw _ (List.mem_of_getElem? (i := 10) rfl)) e0 (g := (mkF m 1 #[.val (.ref o0), .val (.int p1)] [(.ref o0)])) rfl (by rw [hml]; rfl) rfl (hb hby d1_1) (by decide) (W := 0) (by show 2 * 0 + _ ≤ _; exact Nat.le_of_eq rfl) (by decide)
  obtain ⟨T2, h2, X2, e2, W2, st2⟩ := putF X1 hx hZ hown (host := "") (Or.inl (hw _ (List.mem_of_getElem? (i := 11) rfl))) Via.refl e1 FL EO (Or.inr ⟨(hw _ (List.mem_of_getElem? (i := 12) rfl)), rfl, hnm⟩) (hw _ (List.mem_of_getElem? (i := 3) rfl)) (ty := .int) (by decide) rfl rfl (g := (mkF m 6 #[.val (.ref o0), .val (.int p1)] [(.int p1), (.ref o0)])) rfl rfl (hb hby d1_6)
  have G3 : Exa Z h2 o0 "com/example/benchwire/benchwire/protocols/BoundedBuffer" := EO.wr W2
  have G4 : Fld Z h2 o0 "com/example/benchwire/benchwire/protocols/BoundedBuffer" "limit" "I" (.int p1) := FL.same W2
  have G5 : Fld Z h2 o0 "com/example/benchwire/benchwire/protocols/BoundedBuffer" "bytes" "[B" v2 := FB.other W2 (Or.inr (slot_ne (Or.inl (hw _ (List.mem_of_getElem? (i := 18) rfl))) (Or.inr (hw _ (List.mem_of_getElem? (i := 12) rfl))) (by decide) (t := (.array .byte)) (t' := .int) (by decide) (by decide)))
  have G6 : Fld Z h2 o0 "com/example/benchwire/benchwire/protocols/BoundedBuffer" "size" "I" (.int (0 : Int32)) := FS.other W2 (Or.inr (slot_ne (Or.inl (hw _ (List.mem_of_getElem? (i := 29) rfl))) (Or.inr (hw _ (List.mem_of_getElem? (i := 12) rfl))) (by decide) (t := .int) (t' := .int) (by decide) (by decide)))
  have G7 : Ia Z h2 x .byte 300 fs := AX.other W2 x2.symm
  have Z2 : n0 ≤ h2.size := Nat.le_trans Z0 (Keep.of_wr W2).1
  have N2 := Fr.snoc X2 N0 go
  obtain ⟨_, _, ⟨T8, L8, k8, n8⟩, -, X8, ⟨Lc8, hQ8, l8, y8, z8⟩, st8⟩ := Jvm.LawKit.callS X2 hx (y := (⟨"java/lang/Math", "min", "(II)I"⟩ : MethodName)) hown (mvT hZ (hw _ (List.mem_of_getElem? (i := 13) rfl))) (mvT hZ (hw _ (List.mem_of_getElem? (i := 14) rfl))) (mvT hZ (hw _ (List.mem_of_getElem? (i := 15) rfl))) (mvT hZ (hw _ (List.mem_of_getElem? (i := 16) rfl))) (by decide) (backOf (W := 1) (rm3 l Z a0 hw [] (256 : Int32) p1  h2 ) hZ (hw _ (List.mem_of_getElem? (i := 16) rfl)) (hw _ (List.mem_of_getElem? (i := 15) rfl)) (by decide) (by decide)) (g := (mkF m 14 #[.val (.ref o0), .val (.int p1)] [(.int p1), (.int (256 : Int32)), (.ref o0)])) rfl (by rw [hml]; rfl) (argsL := [(.int (256 : Int32)), (.int p1)]) (rest := [(.ref o0)]) (lenOf pd_1 rfl) rfl (by show 2 * 0 + _ ≤ _; exact Nat.le_of_eq rfl) (hb hby d1_14) (fun _ _ => ⟨rfl, e2, (by decide : 0 + 0 ≤ _), (by decide : 0 + 0 ≤ _)⟩)
  dsimp only [Pt.U, Pt.locs, Pt.cells, Pt.slots] at X8 l8 y8 z8 st8 hQ8
  subst l8 y8 z8
  obtain ⟨rfl, rfl, e8⟩ := hQ8
  try rw [List.append_nil] at X8
  obtain ⟨T9, h9, X9, e9, E9, A9, st9⟩ := iaNew X8 hx hZ (hw _ (List.mem_of_getElem? (i := 1) rfl)) e8 (g := (mkF m 17 #[.val (.ref o0), .val (.int p1)] [(.int (f3 (256 : Int32) p1)), (.ref o0)])) rfl (hb hby d1_17) rfl ((min 256 lim)) (own_min2 hlv) 256 (Nat.min_le_left _ _) (by decide) (by decide) (by decide) rfl (by decide)
  obtain ⟨b9, g9⟩ : ∃ z, z = h2.size := ⟨_, rfl⟩
  rw [← g9] at A9 st9
  have ne10 : o0 ≠ b9 := Nat.ne_of_lt (Nat.lt_of_lt_of_le G3.lt (Nat.le_of_eq g9.symm))
  have ne11 : x ≠ b9 := Nat.ne_of_lt (Nat.lt_of_lt_of_le G7.lt (Nat.le_of_eq g9.symm))
  have gn9 : n0 ≤ b9 := Nat.le_trans Z2 (Nat.le_of_eq g9.symm)
  have Z9 : n0 ≤ h9.size := Nat.le_trans Z2 E9.1
  have G12 : Exa Z h9 o0 "com/example/benchwire/benchwire/protocols/BoundedBuffer" := G3.ext E9
  have G13 : Fld Z h9 o0 "com/example/benchwire/benchwire/protocols/BoundedBuffer" "limit" "I" (.int p1) := G4.ext E9
  have G14 : Fld Z h9 o0 "com/example/benchwire/benchwire/protocols/BoundedBuffer" "bytes" "[B" v2 := G5.ext E9
  have G15 : Fld Z h9 o0 "com/example/benchwire/benchwire/protocols/BoundedBuffer" "size" "I" (.int (0 : Int32)) := G6.ext E9
  have G16 : Ia Z h9 x .byte 300 fs := G7.ext E9
  have G17 : Ia Z h9 b9 .byte (min 256 lim) (fun _ => (0 : Int32)) := A9
  obtain ⟨T18, h18, X18, e18, W18, st18⟩ := putF X9 hx hZ hown (host := "") (Or.inl (hw _ (List.mem_of_getElem? (i := 17) rfl))) Via.refl e9 G14 G12 (Or.inl (hw _ (List.mem_of_getElem? (i := 18) rfl))) (hw _ (List.mem_of_getElem? (i := 3) rfl)) (ty := (.array .byte)) (by decide) rfl rfl (g := (mkF m 19 #[.val (.ref o0), .val (.int p1)] [(.ref b9), (.ref o0)])) rfl rfl (hb hby d1_19)
  have G19 : Exa Z h18 o0 "com/example/benchwire/benchwire/protocols/BoundedBuffer" := G12.wr W18
  have G20 : Fld Z h18 o0 "com/example/benchwire/benchwire/protocols/BoundedBuffer" "limit" "I" (.int p1) := G13.other W18 (Or.inr (slot_ne (Or.inr (hw _ (List.mem_of_getElem? (i := 12) rfl))) (Or.inl (hw _ (List.mem_of_getElem? (i := 18) rfl))) (by decide) (t := .int) (t' := (.array .byte)) (by decide) (by decide)))
  have G21 : Fld Z h18 o0 "com/example/benchwire/benchwire/protocols/BoundedBuffer" "bytes" "[B" (.ref b9) := G14.same W18
  have G22 : Fld Z h18 o0 "com/example/benchwire/benchwire/protocols/BoundedBuffer" "size" "I" (.int (0 : Int32)) := G15.other W18 (Or.inr (slot_ne (Or.inl (hw _ (List.mem_of_getElem? (i := 29) rfl))) (Or.inl (hw _ (List.mem_of_getElem? (i := 18) rfl))) (by decide) (t := .int) (t' := (.array .byte)) (by decide) (by decide)))
  have G23 : Ia Z h18 x .byte 300 fs := G16.other W18 x2.symm
  have G24 : Ia Z h18 b9 .byte (min 256 lim) (fun _ => (0 : Int32)) := G17.other W18 ne10.symm
  have Z18 : n0 ≤ h18.size := Nat.le_trans Z9 (Keep.of_wr W18).1
  have N18 := Fr.snoc X18 N2 go
  have K25 : ∀ t, Steps p.tables e below (T18.setTop (mkF m 22 #[.val (.ref o0), .val (.int p1)] [])) t → Steps p.tables e below (s₁.setTop (mkF m 0 #[.val (.ref o0), .val (.int p1)] [])) t := by
    intro t kt
    show Steps p.tables e below (s₁.setTop (mkF m 0 #[.val (.ref o0), .val (.int p1)] [])) _
    refine XS.aloadN X0.here hx rfl (hb hby d1_0) rfl rfl ?_
    show Steps p.tables e below (s₁.setTop (mkF m 1 #[.val (.ref o0), .val (.int p1)] [(.ref o0)])) _
    refine st1 _ ?_
    show Steps p.tables e below (T1.setTop (mkF m 4 #[.val (.ref o0), .val (.int p1)] [])) _
    refine XS.aloadN X1.here hx rfl (hb hby d1_4) rfl rfl ?_
    show Steps p.tables e below (T1.setTop (mkF m 5 #[.val (.ref o0), .val (.int p1)] [(.ref o0)])) _
    refine XS.iloadN X1.here hx rfl (hb hby d1_5) rfl ?_
    show Steps p.tables e below (T1.setTop (mkF m 6 #[.val (.ref o0), .val (.int p1)] [(.int p1), (.ref o0)])) _
    refine st2 _ ?_
    show Steps p.tables e below (T2.setTop (mkF m 9 #[.val (.ref o0), .val (.int p1)] [])) _
    refine XS.aloadN X2.here hx rfl (hb hby d1_9) rfl rfl ?_
    show Steps p.tables e below (T2.setTop (mkF m 10 #[.val (.ref o0), .val (.int p1)] [(.ref o0)])) _
    refine XS.sipush X2.here hx rfl (hb hby d1_10) ?_
    show Steps p.tables e below (T2.setTop (mkF m 13 #[.val (.ref o0), .val (.int p1)] [(.int (256 : Int32)), (.ref o0)])) _
    refine XS.iloadN X2.here hx rfl (hb hby d1_13) rfl ?_
    show Steps p.tables e below (T2.setTop (mkF m 14 #[.val (.ref o0), .val (.int p1)] [(.int p1), (.int (256 : Int32)), (.ref o0)])) _
    refine st8 _ ?_
    show Steps p.tables e below (T8.setTop (mkF m 17 #[.val (.ref o0), .val (.int p1)] [(.int (f3 (256 : Int32) p1)), (.ref o0)])) _
    refine st9 _ ?_
    show Steps p.tables e below (T9.setTop (mkF m 19 #[.val (.ref o0), .val (.int p1)] [(.ref b9), (.ref o0)])) _
    refine st18 _ ?_
    exact kt
  obtain ⟨fsQ, hr, hrun, hended, hW, hsame⟩ := X18.leave (v := none) (fun _ => rfl)
  refine ⟨_, _, pre0 _ (K25 _ ?_), hrun, hended, _, _, rfl, ?_, ⟨_, rfl⟩, hW, hsame.mono (by decide) (by decide)⟩
  · show Steps p.tables e below (T18.setTop (mkF m 22 #[.val (.ref o0), .val (.int p1)] [])) _
    exact X18.returnOut hx Bd.returns (hb hby d1_22) hr
  · show Q1 Z o0 p1 v1 v2 x fs lim h0 n0 _ T18.heap _
    rw [e18]
    exact ⟨rfl, N18, Z18, b9, p1, (0 : Int32), G19, G20, G21, G22, G24, G23, go, gn9, ne10, x2, ne11.symm, hlv, rfl, hl5, Nat.zero_le _, by omega, by omega⟩
theorem ef_0 (m : MethodId) (x0 : Int32) (x1 : Int32) (x2 : Int32) (x3 : Int32) (x4 : Int32) : entryFrame m #[(.int x0), (.int x1), (.int x2), (.int x3), (.int x4)] maxLocals = mkF m 0 #[.val (.int x0), .val (.int x1), .val (.int x2), .val (.int x3), .val (.int x4), .unset, .unset, .unset, .unset, .unset, .unset, .unset, .unset, .unset] [] := by first | (simp [entryFrame, mkF, argsToLocals, Value.category, maxLocals]; done) | rfl
theorem pn_4 : plainName "com/example/benchwire/benchwire/protocols/BoundedBufferClearPinLaw" = true := by first | (simp [plainName, overriddenIn]; done) | decide +kernel
def gl (p0 : Int32) : Int32 := (p0 &&& (511 : Int32))
def gf (p1 : Int32) : Int32 := ((p1 &&& (2147483647 : Int32)) % (301 : Int32))
def gs (p2 : Int32) : Int32 := ((p2 &&& (2147483647 : Int32)) % (301 : Int32))
theorem pd_5 : parseMethodDescriptor "(I)V" = some ⟨[.int], none⟩ := by decide +kernel
theorem pd_6 : parseMethodDescriptor "([BII)Z" = some ⟨[(.array .byte), .int, .int], some .boolean⟩ := by decide +kernel
theorem pd_7 : parseMethodDescriptor "()V" = some ⟨[], none⟩ := by decide +kernel
theorem pd_8 : parseMethodDescriptor "()I" = some ⟨[], some .int⟩ := by decide +kernel
theorem pd_9 : parseMethodDescriptor "(B)Z" = some ⟨[.byte], some .boolean⟩ := by decide +kernel
theorem pd_10 : parseMethodDescriptor "(I)B" = some ⟨[.int], some .byte⟩ := by decide +kernel
theorem own_lim (p : Int32) : ∃ lim : Nat, (gl p).toInt = (lim : Int) ∧ lim ≤ 511 := by
  have h1 : (p &&& (511 : Int32)).toInt = p.toInt % (2 ^ 9 : Nat) := c_mask p _ 9 (by decide) (by decide)
  refine ⟨(gl p).toInt.toNat, ?_, ?_⟩ <;> (unfold gl; omega)
theorem own_len (p : Int32) : ∃ n : Nat, (gf p).toInt = (n : Int) ∧ n ≤ 300 := by
  have h1 : (p &&& (2147483647 : Int32)).toInt = p.toInt % (2 ^ 31 : Nat) := c_mask p _ 31 (by decide) (by decide)
  have h2 : (gf p).toInt = (p &&& (2147483647 : Int32)).toInt % 301 := (c_irem (p &&& (2147483647 : Int32)) 301 301 rfl).1 (by omega)
  exact ⟨(gf p).toInt.toNat, by omega, by omega⟩
theorem own_lt {x y : Int32} {a b : Nat} (hx : x.toInt = (a : Int)) (hy : y.toInt = (b : Int)) (h : a < b) : x < y := by rw [Int32.lt_iff_toInt_lt, hx, hy]; omega
theorem own_nlt {x y : Int32} {a b : Nat} (hx : x.toInt = (a : Int)) (hy : y.toInt = (b : Int)) (h : b ≤ a) : ¬ x < y := by rw [Int32.lt_iff_toInt_lt, hx, hy]; omega
theorem own_nn (x : Int32) : nar .byte (nar .byte (x.toInt8.toInt32)) = x.toInt8.toInt32 := by
  rw [own_narb (fits_nar_byte _)]
  have : fits .byte (.int (x.toInt8.toInt32)) = true := fits_nar_byte x
  exact own_narb this
theorem own_lenS (p : Int32) : ∃ n : Nat, (gs p).toInt = (n : Int) ∧ n ≤ 300 := own_len p

theorem own_ge2 {y : Int32} {n : Nat} (h : ¬ y < (2 : Int32)) (hy : y.toInt = (n : Int)) : 2 ≤ n := by
  rw [Int32.lt_iff_toInt_lt, hy, show (2 : Int32).toInt = 2 from rfl] at h
  omega
def Q0 (Z : State) (p0 : Int32) (p1 : Int32) (p2 : Int32) (p3 : Int32) (p4 : Int32)  (h0 : Heap) (n0 : Nat) (v : Option Value) (h : Heap) (L : List Loc) : Prop := v = some (.int 1) ∧ Fr n0 L
set_option maxRecDepth 65536 in
set_option maxHeartbeats 40000000 in
theorem rm0 (l : Launch) (Z : State) (a0 : Array Value) (hw : ∀ d ∈ tables_1, d.before a0 Z = true) (ws : List Jvm.Cond) (p0 : Int32) (p1 : Int32) (p2 : Int32) (p3 : Int32) (p4 : Int32)  (h0 : Heap) (n0 : Nat) (Z0 : n0 ≤ h0.size)  :
    MetFree l x (head1 (Jvm.Cond.code x code maxLocals ret :: ws) room_1) (fun a U => a = #[(.int p0), (.int p1), (.int p2), (.int p3), (.int p4)] ∧ Z.Warmed39 U.vm ∧ U.heap = h0) (fun _ _ _ _ _ => True) (fun _ U o U' => ∃ v L, o = .returned v ∧ Q0 Z p0 p1 p2 p3 p4  h0 n0 v U'.heap L ∧ FrameEnd U o U' L room_1.cells room_1.slots) := by
  refine MetFree.of_bodySF (plainFor_of_name pn_4) hisR ?_
  intro p e s m args below meth c s₁ Bd hml0 hP hK
  obtain ⟨rfl, hZ, hh⟩ := hP
  have hx := Bd.exec
  have hby := Bd.bytes
  have hml : c.maxLocals = 14 := hml0
  have hown : s.vm.findClass "com/example/benchwire/benchwire/protocols/BoundedBufferClearPinLaw" = some m.cls := findClass_of_methodNamed Bd.named
  have hnm := (name_of_methodNamed Bd.named Bd.method).1
  have X0 : Stand p l e room_1 s m #[(.int p0), (.int p1), (.int p2), (.int p3), (.int p4)] below meth c s₁ [] 0 0 := Stand.of_body Bd
  have e0 : s₁.heap = h0 := by rw [← hh, Bd.state]; rfl
  have pre0 : ∀ t, Steps p.tables e below (s₁.setTop (mkF m 0 #[.val (.int p0), .val (.int p1), .val (.int p2), .val (.int p3), .val (.int p4), .unset, .unset, .unset, .unset, .unset, .unset, .unset, .unset, .unset] [])) t → Steps p.tables e below (s₁.setTop (entryFrame m #[(.int p0), (.int p1), (.int p2), (.int p3), (.int p4)] maxLocals)) t := fun t k => castTop (ef_0 m p0 p1 p2 p3 p4) k
  have N0 := Fr.nil n0
  obtain ⟨lim, hlm, hl5⟩ := own_lim p0
  obtain ⟨lenF, hlF, hlF3⟩ := own_len p1
  obtain ⟨lenS, hlS, hlS3⟩ := own_lenS p2
  obtain ⟨T1, h1, X1, e1, E1, A1, st1⟩ := iaNew X0 hx hZ (hw _ (List.mem_of_getElem? (i := 1) rfl)) e0 (g := (mkF m 30 #[.val (.int p0), .val (.int p1), .val (.int p2), .val (.int p3), .val (.int p4), .val (.int (gl p0)), .val (.int (gf p1)), .val (.int (gs p2)), .unset, .unset, .unset, .unset, .unset, .unset] [(.int (300 : Int32))])) rfl (hb hby at_30) rfl 300 (by decide) 300 (Nat.le_refl _) (by decide) (by decide) (by decide) rfl (by decide)
  obtain ⟨b1, g1⟩ : ∃ z, z = h0.size := ⟨_, rfl⟩
  rw [← g1] at A1 st1
  have gn1 : n0 ≤ b1 := Nat.le_trans Z0 (Nat.le_of_eq g1.symm)
  have Z1 : n0 ≤ h1.size := Nat.le_trans Z0 E1.1
  have G2 : Ia Z h1 b1 .byte 300 (fun _ => (0 : Int32)) := A1
  obtain ⟨T3, h3, X3, e3, W3, A3, st3⟩ := iaB X1 hx hZ e1 G2 (j := (0 : Int32)) 0 (by decide) (by decide) (g := (mkF m 39 #[.val (.int p0), .val (.int p1), .val (.int p2), .val (.int p3), .val (.int p4), .val (.int (gl p0)), .val (.int (gf p1)), .val (.int (gs p2)), .val (.ref b1), .unset, .unset, .unset, .unset, .unset] [(.int (p3.toInt8.toInt32)), (.int (0 : Int32)), (.ref b1)])) rfl rfl (hb hby at_39)
  have G4 : Ia Z h3 b1 .byte 300 (up (fun _ => (0 : Int32)) 0 (nar .byte (p3.toInt8.toInt32))) := A3
  have Z3 : n0 ≤ h3.size := Nat.le_trans Z1 (Keep.of_wr W3).1
  have N3 := Fr.snoc X3 N0 gn1
  obtain ⟨T5, h5, X5, e5, W5, A5, st5⟩ := iaB X3 hx hZ e3 G4 (j := (1 : Int32)) 1 (by decide) (by decide) (g := (mkF m 46 #[.val (.int p0), .val (.int p1), .val (.int p2), .val (.int p3), .val (.int p4), .val (.int (gl p0)), .val (.int (gf p1)), .val (.int (gs p2)), .val (.ref b1), .unset, .unset, .unset, .unset, .unset] [(.int (p4.toInt8.toInt32)), (.int (1 : Int32)), (.ref b1)])) rfl rfl (hb hby at_46)
  have G6 : Ia Z h5 b1 .byte 300 (up (up (fun _ => (0 : Int32)) 0 (nar .byte (p3.toInt8.toInt32))) 1 (nar .byte (p4.toInt8.toInt32))) := A5
  have Z5 : n0 ≤ h5.size := Nat.le_trans Z3 (Keep.of_wr W5).1
  have N5 := Fr.snoc X5 N3 gn1
  obtain ⟨fs, hfs⟩ : ∃ f : Nat → Int32, f = (up (up (fun _ => (0 : Int32)) 0 (nar .byte (p3.toInt8.toInt32))) 1 (nar .byte (p4.toInt8.toInt32))) := ⟨_, rfl⟩
  have G7 : Ia Z h5 b1 .byte 300 fs := by rw [hfs]; exact G6
  have fs0 : fs 0 = nar .byte (p3.toInt8.toInt32) := by rw [hfs]; rfl
  have fs1 : fs 1 = nar .byte (p4.toInt8.toInt32) := by rw [hfs]; rfl
  obtain ⟨T8, h8, X8, e8, E8, A8, D8, -, st8⟩ := newO X5 hx hZ hown (hw _ (List.mem_of_getElem? (i := 2) rfl)) (hw _ (List.mem_of_getElem? (i := 3) rfl)) (hw _ (List.mem_of_getElem? (i := 4) rfl)) e5 (g := (mkF m 47 #[.val (.int p0), .val (.int p1), .val (.int p2), .val (.int p3), .val (.int p4), .val (.int (gl p0)), .val (.int (gf p1)), .val (.int (gs p2)), .val (.ref b1), .unset, .unset, .unset, .unset, .unset] [])) rfl (hb hby at_47) (by decide) (by decide)
  obtain ⟨b8, g8⟩ : ∃ z, z = h5.size := ⟨_, rfl⟩
  rw [← g8] at A8 D8 st8
  have ne9 : b1 ≠ b8 := Nat.ne_of_lt (Nat.lt_of_lt_of_le G7.lt (Nat.le_of_eq g8.symm))
  have gn8 : n0 ≤ b8 := Nat.le_trans Z5 (Nat.le_of_eq g8.symm)
  have Z8 : n0 ≤ h8.size := Nat.le_trans Z5 E8.1
  have G10 : Ia Z h8 b1 .byte 300 fs := G7.ext E8
  have F8_limit : Fld Z h8 b8 "com/example/benchwire/benchwire/protocols/BoundedBuffer" "limit" "I" (.int (0 : Int32)) := D8 (Or.inr (hw _ (List.mem_of_getElem? (i := 12) rfl))) (ty := .int) (by decide)
  have F8_bytes : Fld Z h8 b8 "com/example/benchwire/benchwire/protocols/BoundedBuffer" "bytes" "[B" .null := D8 (Or.inl (hw _ (List.mem_of_getElem? (i := 18) rfl))) (ty := (.array .byte)) (by decide)
  have F8_size : Fld Z h8 b8 "com/example/benchwire/benchwire/protocols/BoundedBuffer" "size" "I" (.int (0 : Int32)) := D8 (Or.inl (hw _ (List.mem_of_getElem? (i := 29) rfl))) (ty := .int) (by decide)
  obtain ⟨_, _, ⟨T11, L11, k11, n11⟩, -, X11, ⟨Lc11, hQ11, l11, y11, z11⟩, st11⟩ := X8.specialBack hx (y := (⟨"com/example/benchwire/benchwire/protocols/BoundedBuffer", "<init>", "(I)V"⟩ : MethodName)) rfl hown (mvT hZ (hw _ (List.mem_of_getElem? (i := 5) rfl))) (mvT hZ (hw _ (List.mem_of_getElem? (i := 6) rfl))) (mvT hZ (hw _ (List.mem_of_getElem? (i := 7) rfl))) (by decide) (backOf (W := 1) (rm1 l Z a0 hw [] b8 (gl p0) (.int (0 : Int32)) .null b1 fs lim h8 n0 Z8 F8_limit F8_bytes F8_size A8 gn8 G10 ne9.symm hlm hl5) hZ (hw _ (List.mem_of_getElem? (i := 7) rfl)) (hw _ (List.mem_of_getElem? (i := 4) rfl)) (by decide) (by decide)) (g := (mkF m 53 #[.val (.int p0), .val (.int p1), .val (.int p2), .val (.int p3), .val (.int p4), .val (.int (gl p0)), .val (.int (gf p1)), .val (.int (gs p2)), .val (.ref b1), .unset, .unset, .unset, .unset, .unset] [(.int (gl p0)), (.ref b8), (.ref b8)])) rfl (by rw [hml]; rfl) (Steps.refl _) (a := b8) (argsL := [(.int (gl p0))]) (rest := [(.ref b8)]) (lenOf pd_5 rfl) rfl (by show 2 * 0 + _ ≤ _; exact Nat.le_of_eq rfl) (hb hby at_53) (fun _ _ => ⟨rfl, e8, (by decide : 2 + 1 ≤ _), (by decide : 303 + 256 ≤ _)⟩)
  dsimp only [Pt.U, Pt.locs, Pt.cells, Pt.slots] at X11 l11 y11 z11 st11 hQ11
  subst l11 y11 z11
  obtain ⟨rfl, N11q, Z11q, B11q⟩ := hQ11
  have N11 := Fr.app N5 N11q
  obtain ⟨cq12, kq12, q12a, q12b, q12c⟩ := isOf hZ rfl (own_bbE B11q)
  obtain ⟨_, _, ⟨T12, L12, k12, n12⟩, -, X12, ⟨Lc12, hQ12, l12, y12, z12⟩, st12⟩ := X11.virtualBack hx (y := (⟨"com/example/benchwire/benchwire/protocols/BoundedBuffer", "add", "([BII)Z"⟩ : MethodName)) (z := (⟨"com/example/benchwire/benchwire/protocols/BoundedBuffer", "add", "([BII)Z"⟩ : MethodName)) hown (mvT hZ (hw _ (List.mem_of_getElem? (i := 19) rfl))) (mvT hZ (hw _ (List.mem_of_getElem? (i := 20) rfl))) (notFace_of_selects (args := #[]) (mvT hZ (hw _ (List.mem_of_getElem? (i := 22) rfl)))) (mvT hZ (hw _ (List.mem_of_getElem? (i := 22) rfl))) (mvT hZ (hw _ (List.mem_of_getElem? (i := 21) rfl))) (by decide) (backOf (W := 0) (rm4 l Z a0 hw [] b8 b1 (0 : Int32) (gf p1) fs lim 0 (min 256 lim) (fun _ => (0 : Int32)) lenF T11.heap n0 Z11q B11q (by decide) hlF hlF3) hZ (hw _ (List.mem_of_getElem? (i := 23) rfl)) (hw _ (List.mem_of_getElem? (i := 4) rfl)) (by decide) (by decide)) q12a q12c (g := (mkF m 65 #[.val (.int p0), .val (.int p1), .val (.int p2), .val (.int p3), .val (.int p4), .val (.int (gl p0)), .val (.int (gf p1)), .val (.int (gs p2)), .val (.ref b1), .val (.ref b8), .unset, .unset, .unset, .unset] [(.int (gf p1)), (.int (0 : Int32)), (.ref b1), (.ref b8)])) rfl (by rw [hml]; rfl) (Steps.refl _) (argsL := [(.ref b1), (.int (0 : Int32)), (.int (gf p1))]) (rest := []) (lenOf pd_6 rfl) rfl (by show 2 * 0 + _ ≤ _; exact Nat.le_of_eq rfl) (hb hby at_65) (fun _ _ => ⟨rfl, rfl, (by decide : 3 + 1 ≤ _), (by decide : 559 + 511 ≤ _)⟩)
  dsimp only [Pt.U, Pt.locs, Pt.cells, Pt.slots] at X12 l12 y12 z12 st12 hQ12
  subst l12 y12 z12
  obtain ⟨r12, sz12, cap12, f12, rfl, N12q, Z12q, B12q, hr12⟩ := hQ12
  have N12 := Fr.app N11 N12q
  have K13 : ∀ t, Steps p.tables e below (T12.setTop (mkF m 68 #[.val (.int p0), .val (.int p1), .val (.int p2), .val (.int p3), .val (.int p4), .val (.int (gl p0)), .val (.int (gf p1)), .val (.int (gs p2)), .val (.ref b1), .val (.ref b8), .unset, .unset, .unset, .unset] [(.int r12)])) t → Steps p.tables e below (s₁.setTop (mkF m 0 #[.val (.int p0), .val (.int p1), .val (.int p2), .val (.int p3), .val (.int p4), .unset, .unset, .unset, .unset, .unset, .unset, .unset, .unset, .unset] [])) t := by
    intro t kt
    show Steps p.tables e below (s₁.setTop (mkF m 0 #[.val (.int p0), .val (.int p1), .val (.int p2), .val (.int p3), .val (.int p4), .unset, .unset, .unset, .unset, .unset, .unset, .unset, .unset, .unset] [])) _
    refine XS.iloadN X0.here hx rfl (hb hby at_0) rfl ?_
    show Steps p.tables e below (s₁.setTop (mkF m 1 #[.val (.int p0), .val (.int p1), .val (.int p2), .val (.int p3), .val (.int p4), .unset, .unset, .unset, .unset, .unset, .unset, .unset, .unset, .unset] [(.int p0)])) _
    refine XS.sipush X0.here hx rfl (hb hby at_1) ?_
    show Steps p.tables e below (s₁.setTop (mkF m 4 #[.val (.int p0), .val (.int p1), .val (.int p2), .val (.int p3), .val (.int p4), .unset, .unset, .unset, .unset, .unset, .unset, .unset, .unset, .unset] [(.int (511 : Int32)), (.int p0)])) _
    refine XS.iand X0.here hx rfl (hb hby at_4) rfl ?_
    show Steps p.tables e below (s₁.setTop (mkF m 5 #[.val (.int p0), .val (.int p1), .val (.int p2), .val (.int p3), .val (.int p4), .unset, .unset, .unset, .unset, .unset, .unset, .unset, .unset, .unset] [(.int (p0 &&& (511 : Int32)))])) _
    refine XS.istore X0.here hx rfl (hb hby at_5) rfl (l' := #[.val (.int p0), .val (.int p1), .val (.int p2), .val (.int p3), .val (.int p4), .val (.int (gl p0)), .unset, .unset, .unset, .unset, .unset, .unset, .unset, .unset]) rfl ?_
    show Steps p.tables e below (s₁.setTop (mkF m 7 #[.val (.int p0), .val (.int p1), .val (.int p2), .val (.int p3), .val (.int p4), .val (.int (gl p0)), .unset, .unset, .unset, .unset, .unset, .unset, .unset, .unset] [])) _
    refine XS.iloadN X0.here hx rfl (hb hby at_7) rfl ?_
    show Steps p.tables e below (s₁.setTop (mkF m 8 #[.val (.int p0), .val (.int p1), .val (.int p2), .val (.int p3), .val (.int p4), .val (.int (gl p0)), .unset, .unset, .unset, .unset, .unset, .unset, .unset, .unset] [(.int p1)])) _
    refine X0.ldcInt hx hown (mvT hZ (hw _ (List.mem_of_getElem? (i := 0) rfl))) (g := (mkF m 8 #[.val (.int p0), .val (.int p1), .val (.int p2), .val (.int p3), .val (.int p4), .val (.int (gl p0)), .unset, .unset, .unset, .unset, .unset, .unset, .unset, .unset] [(.int p1)])) rfl (hb hby at_8) _ ?_
    show Steps p.tables e below (s₁.setTop (mkF m 10 #[.val (.int p0), .val (.int p1), .val (.int p2), .val (.int p3), .val (.int p4), .val (.int (gl p0)), .unset, .unset, .unset, .unset, .unset, .unset, .unset, .unset] [(.int (2147483647 : Int32)), (.int p1)])) _
    refine XS.iand X0.here hx rfl (hb hby at_10) rfl ?_
    show Steps p.tables e below (s₁.setTop (mkF m 11 #[.val (.int p0), .val (.int p1), .val (.int p2), .val (.int p3), .val (.int p4), .val (.int (gl p0)), .unset, .unset, .unset, .unset, .unset, .unset, .unset, .unset] [(.int (p1 &&& (2147483647 : Int32)))])) _
    refine XS.sipush X0.here hx rfl (hb hby at_11) ?_
    show Steps p.tables e below (s₁.setTop (mkF m 14 #[.val (.int p0), .val (.int p1), .val (.int p2), .val (.int p3), .val (.int p4), .val (.int (gl p0)), .unset, .unset, .unset, .unset, .unset, .unset, .unset, .unset] [(.int (301 : Int32)), (.int (p1 &&& (2147483647 : Int32)))])) _
    refine iremM X0 hx rfl (hb hby at_14) rfl (by decide) ?_
    show Steps p.tables e below (s₁.setTop (mkF m 15 #[.val (.int p0), .val (.int p1), .val (.int p2), .val (.int p3), .val (.int p4), .val (.int (gl p0)), .unset, .unset, .unset, .unset, .unset, .unset, .unset, .unset] [(.int ((p1 &&& (2147483647 : Int32)) % (301 : Int32)))])) _
    refine XS.istore X0.here hx rfl (hb hby at_15) rfl (l' := #[.val (.int p0), .val (.int p1), .val (.int p2), .val (.int p3), .val (.int p4), .val (.int (gl p0)), .val (.int (gf p1)), .unset, .unset, .unset, .unset, .unset, .unset, .unset]) rfl ?_
    show Steps p.tables e below (s₁.setTop (mkF m 17 #[.val (.int p0), .val (.int p1), .val (.int p2), .val (.int p3), .val (.int p4), .val (.int (gl p0)), .val (.int (gf p1)), .unset, .unset, .unset, .unset, .unset, .unset, .unset] [])) _
    refine XS.iloadN X0.here hx rfl (hb hby at_17) rfl ?_
    show Steps p.tables e below (s₁.setTop (mkF m 18 #[.val (.int p0), .val (.int p1), .val (.int p2), .val (.int p3), .val (.int p4), .val (.int (gl p0)), .val (.int (gf p1)), .unset, .unset, .unset, .unset, .unset, .unset, .unset] [(.int p2)])) _
    refine X0.ldcInt hx hown (mvT hZ (hw _ (List.mem_of_getElem? (i := 0) rfl))) (g := (mkF m 18 #[.val (.int p0), .val (.int p1), .val (.int p2), .val (.int p3), .val (.int p4), .val (.int (gl p0)), .val (.int (gf p1)), .unset, .unset, .unset, .unset, .unset, .unset, .unset] [(.int p2)])) rfl (hb hby at_18) _ ?_
    show Steps p.tables e below (s₁.setTop (mkF m 20 #[.val (.int p0), .val (.int p1), .val (.int p2), .val (.int p3), .val (.int p4), .val (.int (gl p0)), .val (.int (gf p1)), .unset, .unset, .unset, .unset, .unset, .unset, .unset] [(.int (2147483647 : Int32)), (.int p2)])) _
    refine XS.iand X0.here hx rfl (hb hby at_20) rfl ?_
    show Steps p.tables e below (s₁.setTop (mkF m 21 #[.val (.int p0), .val (.int p1), .val (.int p2), .val (.int p3), .val (.int p4), .val (.int (gl p0)), .val (.int (gf p1)), .unset, .unset, .unset, .unset, .unset, .unset, .unset] [(.int (p2 &&& (2147483647 : Int32)))])) _
    refine XS.sipush X0.here hx rfl (hb hby at_21) ?_
    show Steps p.tables e below (s₁.setTop (mkF m 24 #[.val (.int p0), .val (.int p1), .val (.int p2), .val (.int p3), .val (.int p4), .val (.int (gl p0)), .val (.int (gf p1)), .unset, .unset, .unset, .unset, .unset, .unset, .unset] [(.int (301 : Int32)), (.int (p2 &&& (2147483647 : Int32)))])) _
    refine iremM X0 hx rfl (hb hby at_24) rfl (by decide) ?_
    show Steps p.tables e below (s₁.setTop (mkF m 25 #[.val (.int p0), .val (.int p1), .val (.int p2), .val (.int p3), .val (.int p4), .val (.int (gl p0)), .val (.int (gf p1)), .unset, .unset, .unset, .unset, .unset, .unset, .unset] [(.int ((p2 &&& (2147483647 : Int32)) % (301 : Int32)))])) _
    refine XS.istore X0.here hx rfl (hb hby at_25) rfl (l' := #[.val (.int p0), .val (.int p1), .val (.int p2), .val (.int p3), .val (.int p4), .val (.int (gl p0)), .val (.int (gf p1)), .val (.int (gs p2)), .unset, .unset, .unset, .unset, .unset, .unset]) rfl ?_
    show Steps p.tables e below (s₁.setTop (mkF m 27 #[.val (.int p0), .val (.int p1), .val (.int p2), .val (.int p3), .val (.int p4), .val (.int (gl p0)), .val (.int (gf p1)), .val (.int (gs p2)), .unset, .unset, .unset, .unset, .unset, .unset] [])) _
    refine XS.sipush X0.here hx rfl (hb hby at_27) ?_
    show Steps p.tables e below (s₁.setTop (mkF m 30 #[.val (.int p0), .val (.int p1), .val (.int p2), .val (.int p3), .val (.int p4), .val (.int (gl p0)), .val (.int (gf p1)), .val (.int (gs p2)), .unset, .unset, .unset, .unset, .unset, .unset] [(.int (300 : Int32))])) _
    refine st1 _ ?_
    show Steps p.tables e below (T1.setTop (mkF m 32 #[.val (.int p0), .val (.int p1), .val (.int p2), .val (.int p3), .val (.int p4), .val (.int (gl p0)), .val (.int (gf p1)), .val (.int (gs p2)), .unset, .unset, .unset, .unset, .unset, .unset] [(.ref b1)])) _
    refine XS.astore X1.here hx rfl (hb hby at_32) rfl rfl (l' := #[.val (.int p0), .val (.int p1), .val (.int p2), .val (.int p3), .val (.int p4), .val (.int (gl p0)), .val (.int (gf p1)), .val (.int (gs p2)), .val (.ref b1), .unset, .unset, .unset, .unset, .unset]) rfl ?_
    show Steps p.tables e below (T1.setTop (mkF m 34 #[.val (.int p0), .val (.int p1), .val (.int p2), .val (.int p3), .val (.int p4), .val (.int (gl p0)), .val (.int (gf p1)), .val (.int (gs p2)), .val (.ref b1), .unset, .unset, .unset, .unset, .unset] [])) _
    refine XS.aload X1.here hx rfl (hb hby at_34) rfl rfl ?_
    show Steps p.tables e below (T1.setTop (mkF m 36 #[.val (.int p0), .val (.int p1), .val (.int p2), .val (.int p3), .val (.int p4), .val (.int (gl p0)), .val (.int (gf p1)), .val (.int (gs p2)), .val (.ref b1), .unset, .unset, .unset, .unset, .unset] [(.ref b1)])) _
    refine XS.iconst X1.here hx rfl (hb hby at_36) ?_
    show Steps p.tables e below (T1.setTop (mkF m 37 #[.val (.int p0), .val (.int p1), .val (.int p2), .val (.int p3), .val (.int p4), .val (.int (gl p0)), .val (.int (gf p1)), .val (.int (gs p2)), .val (.ref b1), .unset, .unset, .unset, .unset, .unset] [(.int (0 : Int32)), (.ref b1)])) _
    refine XS.iloadN X1.here hx rfl (hb hby at_37) rfl ?_
    show Steps p.tables e below (T1.setTop (mkF m 38 #[.val (.int p0), .val (.int p1), .val (.int p2), .val (.int p3), .val (.int p4), .val (.int (gl p0)), .val (.int (gf p1)), .val (.int (gs p2)), .val (.ref b1), .unset, .unset, .unset, .unset, .unset] [(.int p3), (.int (0 : Int32)), (.ref b1)])) _
    refine XS.i2b X1.here hx rfl (hb hby at_38) rfl ?_
    show Steps p.tables e below (T1.setTop (mkF m 39 #[.val (.int p0), .val (.int p1), .val (.int p2), .val (.int p3), .val (.int p4), .val (.int (gl p0)), .val (.int (gf p1)), .val (.int (gs p2)), .val (.ref b1), .unset, .unset, .unset, .unset, .unset] [(.int (p3.toInt8.toInt32)), (.int (0 : Int32)), (.ref b1)])) _
    refine st3 _ ?_
    show Steps p.tables e below (T3.setTop (mkF m 40 #[.val (.int p0), .val (.int p1), .val (.int p2), .val (.int p3), .val (.int p4), .val (.int (gl p0)), .val (.int (gf p1)), .val (.int (gs p2)), .val (.ref b1), .unset, .unset, .unset, .unset, .unset] [])) _
    refine XS.aload X3.here hx rfl (hb hby at_40) rfl rfl ?_
    show Steps p.tables e below (T3.setTop (mkF m 42 #[.val (.int p0), .val (.int p1), .val (.int p2), .val (.int p3), .val (.int p4), .val (.int (gl p0)), .val (.int (gf p1)), .val (.int (gs p2)), .val (.ref b1), .unset, .unset, .unset, .unset, .unset] [(.ref b1)])) _
    refine XS.iconst X3.here hx rfl (hb hby at_42) ?_
    show Steps p.tables e below (T3.setTop (mkF m 43 #[.val (.int p0), .val (.int p1), .val (.int p2), .val (.int p3), .val (.int p4), .val (.int (gl p0)), .val (.int (gf p1)), .val (.int (gs p2)), .val (.ref b1), .unset, .unset, .unset, .unset, .unset] [(.int (1 : Int32)), (.ref b1)])) _
    refine XS.iload X3.here hx rfl (hb hby at_43) rfl ?_
    show Steps p.tables e below (T3.setTop (mkF m 45 #[.val (.int p0), .val (.int p1), .val (.int p2), .val (.int p3), .val (.int p4), .val (.int (gl p0)), .val (.int (gf p1)), .val (.int (gs p2)), .val (.ref b1), .unset, .unset, .unset, .unset, .unset] [(.int p4), (.int (1 : Int32)), (.ref b1)])) _
    refine XS.i2b X3.here hx rfl (hb hby at_45) rfl ?_
    show Steps p.tables e below (T3.setTop (mkF m 46 #[.val (.int p0), .val (.int p1), .val (.int p2), .val (.int p3), .val (.int p4), .val (.int (gl p0)), .val (.int (gf p1)), .val (.int (gs p2)), .val (.ref b1), .unset, .unset, .unset, .unset, .unset] [(.int (p4.toInt8.toInt32)), (.int (1 : Int32)), (.ref b1)])) _
    refine st5 _ ?_
    show Steps p.tables e below (T5.setTop (mkF m 47 #[.val (.int p0), .val (.int p1), .val (.int p2), .val (.int p3), .val (.int p4), .val (.int (gl p0)), .val (.int (gf p1)), .val (.int (gs p2)), .val (.ref b1), .unset, .unset, .unset, .unset, .unset] [])) _
    refine st8 _ ?_
    show Steps p.tables e below (T8.setTop (mkF m 50 #[.val (.int p0), .val (.int p1), .val (.int p2), .val (.int p3), .val (.int p4), .val (.int (gl p0)), .val (.int (gf p1)), .val (.int (gs p2)), .val (.ref b1), .unset, .unset, .unset, .unset, .unset] [(.ref b8)])) _
    refine XS.dup X8.here hx rfl (hb hby at_50) rfl rfl ?_
    show Steps p.tables e below (T8.setTop (mkF m 51 #[.val (.int p0), .val (.int p1), .val (.int p2), .val (.int p3), .val (.int p4), .val (.int (gl p0)), .val (.int (gf p1)), .val (.int (gs p2)), .val (.ref b1), .unset, .unset, .unset, .unset, .unset] [(.ref b8), (.ref b8)])) _
    refine XS.iload X8.here hx rfl (hb hby at_51) rfl ?_
    show Steps p.tables e below (T8.setTop (mkF m 53 #[.val (.int p0), .val (.int p1), .val (.int p2), .val (.int p3), .val (.int p4), .val (.int (gl p0)), .val (.int (gf p1)), .val (.int (gs p2)), .val (.ref b1), .unset, .unset, .unset, .unset, .unset] [(.int (gl p0)), (.ref b8), (.ref b8)])) _
    refine st11.trans ?_
    show Steps p.tables e below (T11.setTop (mkF m 56 #[.val (.int p0), .val (.int p1), .val (.int p2), .val (.int p3), .val (.int p4), .val (.int (gl p0)), .val (.int (gf p1)), .val (.int (gs p2)), .val (.ref b1), .unset, .unset, .unset, .unset, .unset] [(.ref b8)])) _
    refine XS.astore X11.here hx rfl (hb hby at_56) rfl rfl (l' := #[.val (.int p0), .val (.int p1), .val (.int p2), .val (.int p3), .val (.int p4), .val (.int (gl p0)), .val (.int (gf p1)), .val (.int (gs p2)), .val (.ref b1), .val (.ref b8), .unset, .unset, .unset, .unset]) rfl ?_
    show Steps p.tables e below (T11.setTop (mkF m 58 #[.val (.int p0), .val (.int p1), .val (.int p2), .val (.int p3), .val (.int p4), .val (.int (gl p0)), .val (.int (gf p1)), .val (.int (gs p2)), .val (.ref b1), .val (.ref b8), .unset, .unset, .unset, .unset] [])) _
    refine XS.aload X11.here hx rfl (hb hby at_58) rfl rfl ?_
    show Steps p.tables e below (T11.setTop (mkF m 60 #[.val (.int p0), .val (.int p1), .val (.int p2), .val (.int p3), .val (.int p4), .val (.int (gl p0)), .val (.int (gf p1)), .val (.int (gs p2)), .val (.ref b1), .val (.ref b8), .unset, .unset, .unset, .unset] [(.ref b8)])) _
    refine XS.aload X11.here hx rfl (hb hby at_60) rfl rfl ?_
    show Steps p.tables e below (T11.setTop (mkF m 62 #[.val (.int p0), .val (.int p1), .val (.int p2), .val (.int p3), .val (.int p4), .val (.int (gl p0)), .val (.int (gf p1)), .val (.int (gs p2)), .val (.ref b1), .val (.ref b8), .unset, .unset, .unset, .unset] [(.ref b1), (.ref b8)])) _
    refine XS.iconst X11.here hx rfl (hb hby at_62) ?_
    show Steps p.tables e below (T11.setTop (mkF m 63 #[.val (.int p0), .val (.int p1), .val (.int p2), .val (.int p3), .val (.int p4), .val (.int (gl p0)), .val (.int (gf p1)), .val (.int (gs p2)), .val (.ref b1), .val (.ref b8), .unset, .unset, .unset, .unset] [(.int (0 : Int32)), (.ref b1), (.ref b8)])) _
    refine XS.iload X11.here hx rfl (hb hby at_63) rfl ?_
    show Steps p.tables e below (T11.setTop (mkF m 65 #[.val (.int p0), .val (.int p1), .val (.int p2), .val (.int p3), .val (.int p4), .val (.int (gl p0)), .val (.int (gf p1)), .val (.int (gs p2)), .val (.ref b1), .val (.ref b8), .unset, .unset, .unset, .unset] [(.int (gf p1)), (.int (0 : Int32)), (.ref b1), (.ref b8)])) _
    refine st12.trans ?_
    exact kt
  rcases hr12 with ⟨rfl, hnF, rfl⟩ | ⟨rfl, hyF, rfl, hcF⟩
  · skip
    obtain ⟨cq14, kq14, q14a, q14b, q14c⟩ := isOf hZ rfl (own_bbE B12q)
    obtain ⟨_, _, ⟨T14, L14, k14, n14⟩, -, X14, ⟨Lc14, hQ14, l14, y14, z14⟩, st14⟩ := X12.virtualBack hx (y := (⟨"com/example/benchwire/benchwire/protocols/BoundedBuffer", "clear", "()V"⟩ : MethodName)) (z := (⟨"com/example/benchwire/benchwire/protocols/BoundedBuffer", "clear", "()V"⟩ : MethodName)) hown (mvT hZ (hw _ (List.mem_of_getElem? (i := 30) rfl))) (mvT hZ (hw _ (List.mem_of_getElem? (i := 31) rfl))) (notFace_of_selects (args := #[]) (mvT hZ (hw _ (List.mem_of_getElem? (i := 33) rfl)))) (mvT hZ (hw _ (List.mem_of_getElem? (i := 33) rfl))) (mvT hZ (hw _ (List.mem_of_getElem? (i := 32) rfl))) (by decide) (backOf (W := 0) (rm6 l Z a0 hw [] b8 b1 fs lim 0 cap12 f12 T12.heap n0 Z12q B12q) hZ (hw _ (List.mem_of_getElem? (i := 34) rfl)) (hw _ (List.mem_of_getElem? (i := 4) rfl)) (by decide) (by decide)) q14a q14c (g := (mkF m 92 #[.val (.int p0), .val (.int p1), .val (.int p2), .val (.int p3), .val (.int p4), .val (.int (gl p0)), .val (.int (gf p1)), .val (.int (gs p2)), .val (.ref b1), .val (.ref b8), .val (.int (1 : Int32)), .unset, .unset, .unset] [(.ref b8)])) rfl (by rw [hml]; rfl) (Steps.refl _) (argsL := []) (rest := []) (lenOf pd_7 rfl) rfl (by show 2 * 0 + _ ≤ _; exact Nat.le_of_eq rfl) (hb hby at_92) (fun _ _ => ⟨rfl, rfl, (by decide : 4 + 1 ≤ _), (by decide : 1070 + 256 ≤ _)⟩)
    dsimp only [Pt.U, Pt.locs, Pt.cells, Pt.slots] at X14 l14 y14 z14 st14 hQ14
    subst l14 y14 z14
    obtain ⟨cap14, f14, rfl, N14q, Z14q, B14q⟩ := hQ14
    have N14 := Fr.app N12 N14q
    obtain ⟨cq15, kq15, q15a, q15b, q15c⟩ := isOf hZ rfl (own_bbE B14q)
    obtain ⟨_, _, ⟨T15, L15, k15, n15⟩, -, X15, ⟨Lc15, hQ15, l15, y15, z15⟩, st15⟩ := X14.virtualBack hx (y := (⟨"com/example/benchwire/benchwire/protocols/BoundedBuffer", "size", "()I"⟩ : MethodName)) (z := (⟨"com/example/benchwire/benchwire/protocols/BoundedBuffer", "size", "()I"⟩ : MethodName)) hown (mvT hZ (hw _ (List.mem_of_getElem? (i := 35) rfl))) (mvT hZ (hw _ (List.mem_of_getElem? (i := 36) rfl))) (notFace_of_selects (args := #[]) (mvT hZ (hw _ (List.mem_of_getElem? (i := 38) rfl)))) (mvT hZ (hw _ (List.mem_of_getElem? (i := 38) rfl))) (mvT hZ (hw _ (List.mem_of_getElem? (i := 37) rfl))) (by decide) (backOf (W := 0) (rm7 l Z a0 hw [] b8 b1 fs lim 0 cap14 f14 T14.heap n0 Z14q B14q) hZ (hw _ (List.mem_of_getElem? (i := 39) rfl)) (hw _ (List.mem_of_getElem? (i := 4) rfl)) (by decide) (by decide)) q15a q15c (g := (mkF m 102 #[.val (.int p0), .val (.int p1), .val (.int p2), .val (.int p3), .val (.int p4), .val (.int (gl p0)), .val (.int (gf p1)), .val (.int (gs p2)), .val (.ref b1), .val (.ref b8), .val (.int (1 : Int32)), .unset, .unset, .unset] [(.ref b8)])) rfl (by rw [hml]; rfl) (Steps.refl _) (argsL := []) (rest := []) (lenOf pd_8 rfl) rfl (by show 2 * 0 + _ ≤ _; exact Nat.le_of_eq rfl) (hb hby at_102) (fun _ _ => ⟨rfl, rfl, (by decide : 5 + 0 ≤ _), (by decide : 1326 + 0 ≤ _)⟩)
    dsimp only [Pt.U, Pt.locs, Pt.cells, Pt.slots] at X15 l15 y15 z15 st15 hQ15
    subst l15 y15 z15
    obtain ⟨r15, rfl, hr15, rfl, e15⟩ := hQ15
    try rw [List.append_nil] at X15
    obtain ⟨cq16, kq16, q16a, q16b, q16c⟩ := isOf hZ e15 (own_bbE B14q)
    obtain ⟨_, _, ⟨T16, L16, k16, n16⟩, -, X16, ⟨Lc16, hQ16, l16, y16, z16⟩, st16⟩ := X15.virtualBack hx (y := (⟨"com/example/benchwire/benchwire/protocols/BoundedBuffer", "add", "([BII)Z"⟩ : MethodName)) (z := (⟨"com/example/benchwire/benchwire/protocols/BoundedBuffer", "add", "([BII)Z"⟩ : MethodName)) hown (mvT hZ (hw _ (List.mem_of_getElem? (i := 19) rfl))) (mvT hZ (hw _ (List.mem_of_getElem? (i := 20) rfl))) (notFace_of_selects (args := #[]) (mvT hZ (hw _ (List.mem_of_getElem? (i := 22) rfl)))) (mvT hZ (hw _ (List.mem_of_getElem? (i := 22) rfl))) (mvT hZ (hw _ (List.mem_of_getElem? (i := 21) rfl))) (by decide) (backOf (W := 0) (rm4 l Z a0 hw [] b8 b1 (0 : Int32) (gs p2) fs lim 0 cap14 f14 lenS T14.heap n0 Z14q B14q (by decide) hlS hlS3) hZ (hw _ (List.mem_of_getElem? (i := 23) rfl)) (hw _ (List.mem_of_getElem? (i := 4) rfl)) (by decide) (by decide)) q16a q16c (g := (mkF m 122 #[.val (.int p0), .val (.int p1), .val (.int p2), .val (.int p3), .val (.int p4), .val (.int (gl p0)), .val (.int (gf p1)), .val (.int (gs p2)), .val (.ref b1), .val (.ref b8), .val (.int (1 : Int32)), .unset, .unset, .unset] [(.int (gs p2)), (.int (0 : Int32)), (.ref b1), (.ref b8)])) rfl (by rw [hml]; rfl) (Steps.refl _) (argsL := [(.ref b1), (.int (0 : Int32)), (.int (gs p2))]) (rest := []) (lenOf pd_6 rfl) rfl (by show 2 * 0 + _ ≤ _; exact Nat.le_of_eq rfl) (hb hby at_122) (fun _ _ => ⟨rfl, e15, (by decide : 5 + 1 ≤ _), (by decide : 1326 + 511 ≤ _)⟩)
    dsimp only [Pt.U, Pt.locs, Pt.cells, Pt.slots] at X16 l16 y16 z16 st16 hQ16
    subst l16 y16 z16
    obtain ⟨r16, sz16, cap16, f16, rfl, N16q, Z16q, B16q, hr16⟩ := hQ16
    have N16 := Fr.app N14 N16q
    have K17 : ∀ t, Steps p.tables e below (T16.setTop (mkF m 125 #[.val (.int p0), .val (.int p1), .val (.int p2), .val (.int p3), .val (.int p4), .val (.int (gl p0)), .val (.int (gf p1)), .val (.int (gs p2)), .val (.ref b1), .val (.ref b8), .val (.int (1 : Int32)), .unset, .unset, .unset] [(.int r16)])) t → Steps p.tables e below (s₁.setTop (mkF m 0 #[.val (.int p0), .val (.int p1), .val (.int p2), .val (.int p3), .val (.int p4), .unset, .unset, .unset, .unset, .unset, .unset, .unset, .unset, .unset] [])) t := by
      intro t kt
      refine K13 _ ?_
      show Steps p.tables e below (T12.setTop (mkF m 68 #[.val (.int p0), .val (.int p1), .val (.int p2), .val (.int p3), .val (.int p4), .val (.int (gl p0)), .val (.int (gf p1)), .val (.int (gs p2)), .val (.ref b1), .val (.ref b8), .unset, .unset, .unset, .unset] [(.int (0 : Int32))])) _
      refine XS.iload X12.here hx rfl (hb hby at_68) rfl ?_
      show Steps p.tables e below (T12.setTop (mkF m 70 #[.val (.int p0), .val (.int p1), .val (.int p2), .val (.int p3), .val (.int p4), .val (.int (gl p0)), .val (.int (gf p1)), .val (.int (gs p2)), .val (.ref b1), .val (.ref b8), .unset, .unset, .unset, .unset] [(.int (gf p1)), (.int (0 : Int32))])) _
      refine XS.iload X12.here hx rfl (hb hby at_70) rfl ?_
      show Steps p.tables e below (T12.setTop (mkF m 72 #[.val (.int p0), .val (.int p1), .val (.int p2), .val (.int p3), .val (.int p4), .val (.int (gl p0)), .val (.int (gf p1)), .val (.int (gs p2)), .val (.ref b1), .val (.ref b8), .unset, .unset, .unset, .unset] [(.int (gl p0)), (.int (gf p1)), (.int (0 : Int32))])) _
      refine XS.icmpYes X12.here hx rfl (pc0 := 72) (pc' := 79) rfl (hb hby at_72) rfl (tlt (show (gl p0) < (gf p1) from (own_lt hlm hlF (by omega)))).2.2.1 (by decide) (by decide) ?_
      show Steps p.tables e below (T12.setTop (mkF m 79 #[.val (.int p0), .val (.int p1), .val (.int p2), .val (.int p3), .val (.int p4), .val (.int (gl p0)), .val (.int (gf p1)), .val (.int (gs p2)), .val (.ref b1), .val (.ref b8), .unset, .unset, .unset, .unset] [(.int (0 : Int32))])) _
      refine XS.iconst X12.here hx rfl (hb hby at_79) ?_
      show Steps p.tables e below (T12.setTop (mkF m 80 #[.val (.int p0), .val (.int p1), .val (.int p2), .val (.int p3), .val (.int p4), .val (.int (gl p0)), .val (.int (gf p1)), .val (.int (gs p2)), .val (.ref b1), .val (.ref b8), .unset, .unset, .unset, .unset] [(.int (0 : Int32)), (.int (0 : Int32))])) _
      refine XS.icmpNo X12.here hx rfl (hb hby at_80) rfl (teq (rfl : (0 : Int32) = (0 : Int32))).2 ?_
      show Steps p.tables e below (T12.setTop (mkF m 83 #[.val (.int p0), .val (.int p1), .val (.int p2), .val (.int p3), .val (.int p4), .val (.int (gl p0)), .val (.int (gf p1)), .val (.int (gs p2)), .val (.ref b1), .val (.ref b8), .unset, .unset, .unset, .unset] [])) _
      refine XS.iconst X12.here hx rfl (hb hby at_83) ?_
      show Steps p.tables e below (T12.setTop (mkF m 84 #[.val (.int p0), .val (.int p1), .val (.int p2), .val (.int p3), .val (.int p4), .val (.int (gl p0)), .val (.int (gf p1)), .val (.int (gs p2)), .val (.ref b1), .val (.ref b8), .unset, .unset, .unset, .unset] [(.int (1 : Int32))])) _
      refine XS.goto X12.here hx rfl (pc0 := 84) (pc' := 88) rfl (hb hby at_84) (by decide) (by decide) ?_
      show Steps p.tables e below (T12.setTop (mkF m 88 #[.val (.int p0), .val (.int p1), .val (.int p2), .val (.int p3), .val (.int p4), .val (.int (gl p0)), .val (.int (gf p1)), .val (.int (gs p2)), .val (.ref b1), .val (.ref b8), .unset, .unset, .unset, .unset] [(.int (1 : Int32))])) _
      refine XS.istore X12.here hx rfl (hb hby at_88) rfl (l' := #[.val (.int p0), .val (.int p1), .val (.int p2), .val (.int p3), .val (.int p4), .val (.int (gl p0)), .val (.int (gf p1)), .val (.int (gs p2)), .val (.ref b1), .val (.ref b8), .val (.int (1 : Int32)), .unset, .unset, .unset]) rfl ?_
      show Steps p.tables e below (T12.setTop (mkF m 90 #[.val (.int p0), .val (.int p1), .val (.int p2), .val (.int p3), .val (.int p4), .val (.int (gl p0)), .val (.int (gf p1)), .val (.int (gs p2)), .val (.ref b1), .val (.ref b8), .val (.int (1 : Int32)), .unset, .unset, .unset] [])) _
      refine XS.aload X12.here hx rfl (hb hby at_90) rfl rfl ?_
      show Steps p.tables e below (T12.setTop (mkF m 92 #[.val (.int p0), .val (.int p1), .val (.int p2), .val (.int p3), .val (.int p4), .val (.int (gl p0)), .val (.int (gf p1)), .val (.int (gs p2)), .val (.ref b1), .val (.ref b8), .val (.int (1 : Int32)), .unset, .unset, .unset] [(.ref b8)])) _
      refine st14.trans ?_
      show Steps p.tables e below (T14.setTop (mkF m 95 #[.val (.int p0), .val (.int p1), .val (.int p2), .val (.int p3), .val (.int p4), .val (.int (gl p0)), .val (.int (gf p1)), .val (.int (gs p2)), .val (.ref b1), .val (.ref b8), .val (.int (1 : Int32)), .unset, .unset, .unset] [])) _
      refine XS.iload X14.here hx rfl (hb hby at_95) rfl ?_
      show Steps p.tables e below (T14.setTop (mkF m 97 #[.val (.int p0), .val (.int p1), .val (.int p2), .val (.int p3), .val (.int p4), .val (.int (gl p0)), .val (.int (gf p1)), .val (.int (gs p2)), .val (.ref b1), .val (.ref b8), .val (.int (1 : Int32)), .unset, .unset, .unset] [(.int (1 : Int32))])) _
      refine XS.ifNo X14.here hx rfl (hb hby at_97) rfl ((if0 _ _).trans (feq (by decide : ¬ ((1 : Int32) = (0 : Int32)))).1) ?_
      show Steps p.tables e below (T14.setTop (mkF m 100 #[.val (.int p0), .val (.int p1), .val (.int p2), .val (.int p3), .val (.int p4), .val (.int (gl p0)), .val (.int (gf p1)), .val (.int (gs p2)), .val (.ref b1), .val (.ref b8), .val (.int (1 : Int32)), .unset, .unset, .unset] [])) _
      refine XS.aload X14.here hx rfl (hb hby at_100) rfl rfl ?_
      show Steps p.tables e below (T14.setTop (mkF m 102 #[.val (.int p0), .val (.int p1), .val (.int p2), .val (.int p3), .val (.int p4), .val (.int (gl p0)), .val (.int (gf p1)), .val (.int (gs p2)), .val (.ref b1), .val (.ref b8), .val (.int (1 : Int32)), .unset, .unset, .unset] [(.ref b8)])) _
      refine st15.trans ?_
      show Steps p.tables e below (T15.setTop (mkF m 105 #[.val (.int p0), .val (.int p1), .val (.int p2), .val (.int p3), .val (.int p4), .val (.int (gl p0)), .val (.int (gf p1)), .val (.int (gs p2)), .val (.ref b1), .val (.ref b8), .val (.int (1 : Int32)), .unset, .unset, .unset] [(.int r15)])) _
      refine XS.ifNo X15.here hx rfl (hb hby at_105) rfl ((if0 _ _).trans (teq (show r15 = (0 : Int32) from (own_eq0 hr15 rfl))).2) ?_
      show Steps p.tables e below (T15.setTop (mkF m 108 #[.val (.int p0), .val (.int p1), .val (.int p2), .val (.int p3), .val (.int p4), .val (.int (gl p0)), .val (.int (gf p1)), .val (.int (gs p2)), .val (.ref b1), .val (.ref b8), .val (.int (1 : Int32)), .unset, .unset, .unset] [])) _
      refine XS.iconst X15.here hx rfl (hb hby at_108) ?_
      show Steps p.tables e below (T15.setTop (mkF m 109 #[.val (.int p0), .val (.int p1), .val (.int p2), .val (.int p3), .val (.int p4), .val (.int (gl p0)), .val (.int (gf p1)), .val (.int (gs p2)), .val (.ref b1), .val (.ref b8), .val (.int (1 : Int32)), .unset, .unset, .unset] [(.int (1 : Int32))])) _
      refine XS.goto X15.here hx rfl (pc0 := 109) (pc' := 113) rfl (hb hby at_109) (by decide) (by decide) ?_
      show Steps p.tables e below (T15.setTop (mkF m 113 #[.val (.int p0), .val (.int p1), .val (.int p2), .val (.int p3), .val (.int p4), .val (.int (gl p0)), .val (.int (gf p1)), .val (.int (gs p2)), .val (.ref b1), .val (.ref b8), .val (.int (1 : Int32)), .unset, .unset, .unset] [(.int (1 : Int32))])) _
      refine XS.istore X15.here hx rfl (hb hby at_113) rfl (l' := #[.val (.int p0), .val (.int p1), .val (.int p2), .val (.int p3), .val (.int p4), .val (.int (gl p0)), .val (.int (gf p1)), .val (.int (gs p2)), .val (.ref b1), .val (.ref b8), .val (.int (1 : Int32)), .unset, .unset, .unset]) rfl ?_
      show Steps p.tables e below (T15.setTop (mkF m 115 #[.val (.int p0), .val (.int p1), .val (.int p2), .val (.int p3), .val (.int p4), .val (.int (gl p0)), .val (.int (gf p1)), .val (.int (gs p2)), .val (.ref b1), .val (.ref b8), .val (.int (1 : Int32)), .unset, .unset, .unset] [])) _
      refine XS.aload X15.here hx rfl (hb hby at_115) rfl rfl ?_
      show Steps p.tables e below (T15.setTop (mkF m 117 #[.val (.int p0), .val (.int p1), .val (.int p2), .val (.int p3), .val (.int p4), .val (.int (gl p0)), .val (.int (gf p1)), .val (.int (gs p2)), .val (.ref b1), .val (.ref b8), .val (.int (1 : Int32)), .unset, .unset, .unset] [(.ref b8)])) _
      refine XS.aload X15.here hx rfl (hb hby at_117) rfl rfl ?_
      show Steps p.tables e below (T15.setTop (mkF m 119 #[.val (.int p0), .val (.int p1), .val (.int p2), .val (.int p3), .val (.int p4), .val (.int (gl p0)), .val (.int (gf p1)), .val (.int (gs p2)), .val (.ref b1), .val (.ref b8), .val (.int (1 : Int32)), .unset, .unset, .unset] [(.ref b1), (.ref b8)])) _
      refine XS.iconst X15.here hx rfl (hb hby at_119) ?_
      show Steps p.tables e below (T15.setTop (mkF m 120 #[.val (.int p0), .val (.int p1), .val (.int p2), .val (.int p3), .val (.int p4), .val (.int (gl p0)), .val (.int (gf p1)), .val (.int (gs p2)), .val (.ref b1), .val (.ref b8), .val (.int (1 : Int32)), .unset, .unset, .unset] [(.int (0 : Int32)), (.ref b1), (.ref b8)])) _
      refine XS.iload X15.here hx rfl (hb hby at_120) rfl ?_
      show Steps p.tables e below (T15.setTop (mkF m 122 #[.val (.int p0), .val (.int p1), .val (.int p2), .val (.int p3), .val (.int p4), .val (.int (gl p0)), .val (.int (gf p1)), .val (.int (gs p2)), .val (.ref b1), .val (.ref b8), .val (.int (1 : Int32)), .unset, .unset, .unset] [(.int (gs p2)), (.int (0 : Int32)), (.ref b1), (.ref b8)])) _
      refine st16.trans ?_
      exact kt
    rcases hr16 with ⟨rfl, hnS, rfl⟩ | ⟨rfl, hyS, rfl, hcS⟩
    · skip
      obtain ⟨cq18, kq18, q18a, q18b, q18c⟩ := isOf hZ rfl (own_bbE B16q)
      obtain ⟨_, _, ⟨T18, L18, k18, n18⟩, -, X18, ⟨Lc18, hQ18, l18, y18, z18⟩, st18⟩ := X16.virtualBack hx (y := (⟨"com/example/benchwire/benchwire/protocols/BoundedBuffer", "size", "()I"⟩ : MethodName)) (z := (⟨"com/example/benchwire/benchwire/protocols/BoundedBuffer", "size", "()I"⟩ : MethodName)) hown (mvT hZ (hw _ (List.mem_of_getElem? (i := 35) rfl))) (mvT hZ (hw _ (List.mem_of_getElem? (i := 36) rfl))) (notFace_of_selects (args := #[]) (mvT hZ (hw _ (List.mem_of_getElem? (i := 38) rfl)))) (mvT hZ (hw _ (List.mem_of_getElem? (i := 38) rfl))) (mvT hZ (hw _ (List.mem_of_getElem? (i := 37) rfl))) (by decide) (backOf (W := 0) (rm7 l Z a0 hw [] b8 b1 fs lim 0 cap16 f16 T16.heap n0 Z16q B16q) hZ (hw _ (List.mem_of_getElem? (i := 39) rfl)) (hw _ (List.mem_of_getElem? (i := 4) rfl)) (by decide) (by decide)) q18a q18c (g := (mkF m 176 #[.val (.int p0), .val (.int p1), .val (.int p2), .val (.int p3), .val (.int p4), .val (.int (gl p0)), .val (.int (gf p1)), .val (.int (gs p2)), .val (.ref b1), .val (.ref b8), .val (.int (1 : Int32)), .val (.int (0 : Int32)), .val (.int (0 : Int32)), .unset] [(.ref b8)])) rfl (by rw [hml]; rfl) (Steps.refl _) (argsL := []) (rest := []) (lenOf pd_8 rfl) rfl (by show 2 * 0 + _ ≤ _; exact Nat.le_of_eq rfl) (hb hby at_176) (fun _ _ => ⟨rfl, rfl, (by decide : 6 + 0 ≤ _), (by decide : 1837 + 0 ≤ _)⟩)
      dsimp only [Pt.U, Pt.locs, Pt.cells, Pt.slots] at X18 l18 y18 z18 st18 hQ18
      subst l18 y18 z18
      obtain ⟨r18, rfl, hr18, rfl, e18⟩ := hQ18
      try rw [List.append_nil] at X18
      obtain ⟨cq19, kq19, q19a, q19b, q19c⟩ := isOf hZ e18 (own_bbE B16q)
      obtain ⟨_, _, ⟨T19, L19, k19, n19⟩, -, X19, ⟨Lc19, hQ19, l19, y19, z19⟩, st19⟩ := X18.virtualBack hx (y := (⟨"com/example/benchwire/benchwire/protocols/BoundedBuffer", "add", "(B)Z"⟩ : MethodName)) (z := (⟨"com/example/benchwire/benchwire/protocols/BoundedBuffer", "add", "(B)Z"⟩ : MethodName)) hown (mvT hZ (hw _ (List.mem_of_getElem? (i := 40) rfl))) (mvT hZ (hw _ (List.mem_of_getElem? (i := 41) rfl))) (notFace_of_selects (args := #[]) (mvT hZ (hw _ (List.mem_of_getElem? (i := 43) rfl)))) (mvT hZ (hw _ (List.mem_of_getElem? (i := 43) rfl))) (mvT hZ (hw _ (List.mem_of_getElem? (i := 42) rfl))) (by decide) (backOf (W := 0) (rm8 l Z a0 hw [] b8 (p3.toInt8.toInt32) b1 fs lim 0 cap16 f16 T16.heap n0 Z16q B16q) hZ (hw _ (List.mem_of_getElem? (i := 44) rfl)) (hw _ (List.mem_of_getElem? (i := 4) rfl)) (by decide) (by decide)) q19a q19c (g := (mkF m 236 #[.val (.int p0), .val (.int p1), .val (.int p2), .val (.int p3), .val (.int p4), .val (.int (gl p0)), .val (.int (gf p1)), .val (.int (gs p2)), .val (.ref b1), .val (.ref b8), .val (.int (1 : Int32)), .val (.int (0 : Int32)), .val (.int (0 : Int32)), .unset] [(.int (p3.toInt8.toInt32)), (.ref b8)])) rfl (by rw [hml]; rfl) (Steps.refl _) (argsL := [(.int (p3.toInt8.toInt32))]) (rest := []) (lenOf pd_9 rfl) rfl (by show 2 * 0 + _ ≤ _; exact Nat.le_of_eq rfl) (hb hby at_236) (fun _ _ => ⟨rfl, e18, (by decide : 6 + 1 ≤ _), (by decide : 1837 + 511 ≤ _)⟩)
      dsimp only [Pt.U, Pt.locs, Pt.cells, Pt.slots] at X19 l19 y19 z19 st19 hQ19
      subst l19 y19 z19
      obtain ⟨r19, sz19, cap19, f19, rfl, N19q, Z19q, B19q, hr19⟩ := hQ19
      have N19 := Fr.app N16 N19q
      have K20 : ∀ t, Steps p.tables e below (T19.setTop (mkF m 239 #[.val (.int p0), .val (.int p1), .val (.int p2), .val (.int p3), .val (.int p4), .val (.int (gl p0)), .val (.int (gf p1)), .val (.int (gs p2)), .val (.ref b1), .val (.ref b8), .val (.int (1 : Int32)), .val (.int (0 : Int32)), .val (.int (0 : Int32)), .unset] [(.int r19)])) t → Steps p.tables e below (s₁.setTop (mkF m 0 #[.val (.int p0), .val (.int p1), .val (.int p2), .val (.int p3), .val (.int p4), .unset, .unset, .unset, .unset, .unset, .unset, .unset, .unset, .unset] [])) t := by
        intro t kt
        refine K17 _ ?_
        show Steps p.tables e below (T16.setTop (mkF m 125 #[.val (.int p0), .val (.int p1), .val (.int p2), .val (.int p3), .val (.int p4), .val (.int (gl p0)), .val (.int (gf p1)), .val (.int (gs p2)), .val (.ref b1), .val (.ref b8), .val (.int (1 : Int32)), .unset, .unset, .unset] [(.int (0 : Int32))])) _
        refine XS.istore X16.here hx rfl (hb hby at_125) rfl (l' := #[.val (.int p0), .val (.int p1), .val (.int p2), .val (.int p3), .val (.int p4), .val (.int (gl p0)), .val (.int (gf p1)), .val (.int (gs p2)), .val (.ref b1), .val (.ref b8), .val (.int (1 : Int32)), .val (.int (0 : Int32)), .unset, .unset]) rfl ?_
        show Steps p.tables e below (T16.setTop (mkF m 127 #[.val (.int p0), .val (.int p1), .val (.int p2), .val (.int p3), .val (.int p4), .val (.int (gl p0)), .val (.int (gf p1)), .val (.int (gs p2)), .val (.ref b1), .val (.ref b8), .val (.int (1 : Int32)), .val (.int (0 : Int32)), .unset, .unset] [])) _
        refine XS.iload X16.here hx rfl (hb hby at_127) rfl ?_
        show Steps p.tables e below (T16.setTop (mkF m 129 #[.val (.int p0), .val (.int p1), .val (.int p2), .val (.int p3), .val (.int p4), .val (.int (gl p0)), .val (.int (gf p1)), .val (.int (gs p2)), .val (.ref b1), .val (.ref b8), .val (.int (1 : Int32)), .val (.int (0 : Int32)), .unset, .unset] [(.int (1 : Int32))])) _
        refine XS.ifNo X16.here hx rfl (hb hby at_129) rfl ((if0 _ _).trans (feq (by decide : ¬ ((1 : Int32) = (0 : Int32)))).1) ?_
        show Steps p.tables e below (T16.setTop (mkF m 132 #[.val (.int p0), .val (.int p1), .val (.int p2), .val (.int p3), .val (.int p4), .val (.int (gl p0)), .val (.int (gf p1)), .val (.int (gs p2)), .val (.ref b1), .val (.ref b8), .val (.int (1 : Int32)), .val (.int (0 : Int32)), .unset, .unset] [])) _
        refine XS.iload X16.here hx rfl (hb hby at_132) rfl ?_
        show Steps p.tables e below (T16.setTop (mkF m 134 #[.val (.int p0), .val (.int p1), .val (.int p2), .val (.int p3), .val (.int p4), .val (.int (gl p0)), .val (.int (gf p1)), .val (.int (gs p2)), .val (.ref b1), .val (.ref b8), .val (.int (1 : Int32)), .val (.int (0 : Int32)), .unset, .unset] [(.int (0 : Int32))])) _
        refine XS.iload X16.here hx rfl (hb hby at_134) rfl ?_
        show Steps p.tables e below (T16.setTop (mkF m 136 #[.val (.int p0), .val (.int p1), .val (.int p2), .val (.int p3), .val (.int p4), .val (.int (gl p0)), .val (.int (gf p1)), .val (.int (gs p2)), .val (.ref b1), .val (.ref b8), .val (.int (1 : Int32)), .val (.int (0 : Int32)), .unset, .unset] [(.int (gs p2)), (.int (0 : Int32))])) _
        refine XS.iload X16.here hx rfl (hb hby at_136) rfl ?_
        show Steps p.tables e below (T16.setTop (mkF m 138 #[.val (.int p0), .val (.int p1), .val (.int p2), .val (.int p3), .val (.int p4), .val (.int (gl p0)), .val (.int (gf p1)), .val (.int (gs p2)), .val (.ref b1), .val (.ref b8), .val (.int (1 : Int32)), .val (.int (0 : Int32)), .unset, .unset] [(.int (gl p0)), (.int (gs p2)), (.int (0 : Int32))])) _
        refine XS.icmpYes X16.here hx rfl (pc0 := 138) (pc' := 145) rfl (hb hby at_138) rfl (tlt (show (gl p0) < (gs p2) from (own_lt hlm hlS (by omega)))).2.2.1 (by decide) (by decide) ?_
        show Steps p.tables e below (T16.setTop (mkF m 145 #[.val (.int p0), .val (.int p1), .val (.int p2), .val (.int p3), .val (.int p4), .val (.int (gl p0)), .val (.int (gf p1)), .val (.int (gs p2)), .val (.ref b1), .val (.ref b8), .val (.int (1 : Int32)), .val (.int (0 : Int32)), .unset, .unset] [(.int (0 : Int32))])) _
        refine XS.iconst X16.here hx rfl (hb hby at_145) ?_
        show Steps p.tables e below (T16.setTop (mkF m 146 #[.val (.int p0), .val (.int p1), .val (.int p2), .val (.int p3), .val (.int p4), .val (.int (gl p0)), .val (.int (gf p1)), .val (.int (gs p2)), .val (.ref b1), .val (.ref b8), .val (.int (1 : Int32)), .val (.int (0 : Int32)), .unset, .unset] [(.int (0 : Int32)), (.int (0 : Int32))])) _
        refine XS.icmpNo X16.here hx rfl (hb hby at_146) rfl (teq (rfl : (0 : Int32) = (0 : Int32))).2 ?_
        show Steps p.tables e below (T16.setTop (mkF m 149 #[.val (.int p0), .val (.int p1), .val (.int p2), .val (.int p3), .val (.int p4), .val (.int (gl p0)), .val (.int (gf p1)), .val (.int (gs p2)), .val (.ref b1), .val (.ref b8), .val (.int (1 : Int32)), .val (.int (0 : Int32)), .unset, .unset] [])) _
        refine XS.iconst X16.here hx rfl (hb hby at_149) ?_
        show Steps p.tables e below (T16.setTop (mkF m 150 #[.val (.int p0), .val (.int p1), .val (.int p2), .val (.int p3), .val (.int p4), .val (.int (gl p0)), .val (.int (gf p1)), .val (.int (gs p2)), .val (.ref b1), .val (.ref b8), .val (.int (1 : Int32)), .val (.int (0 : Int32)), .unset, .unset] [(.int (1 : Int32))])) _
        refine XS.goto X16.here hx rfl (pc0 := 150) (pc' := 154) rfl (hb hby at_150) (by decide) (by decide) ?_
        show Steps p.tables e below (T16.setTop (mkF m 154 #[.val (.int p0), .val (.int p1), .val (.int p2), .val (.int p3), .val (.int p4), .val (.int (gl p0)), .val (.int (gf p1)), .val (.int (gs p2)), .val (.ref b1), .val (.ref b8), .val (.int (1 : Int32)), .val (.int (0 : Int32)), .unset, .unset] [(.int (1 : Int32))])) _
        refine XS.istore X16.here hx rfl (hb hby at_154) rfl (l' := #[.val (.int p0), .val (.int p1), .val (.int p2), .val (.int p3), .val (.int p4), .val (.int (gl p0)), .val (.int (gf p1)), .val (.int (gs p2)), .val (.ref b1), .val (.ref b8), .val (.int (1 : Int32)), .val (.int (0 : Int32)), .unset, .unset]) rfl ?_
        show Steps p.tables e below (T16.setTop (mkF m 156 #[.val (.int p0), .val (.int p1), .val (.int p2), .val (.int p3), .val (.int p4), .val (.int (gl p0)), .val (.int (gf p1)), .val (.int (gs p2)), .val (.ref b1), .val (.ref b8), .val (.int (1 : Int32)), .val (.int (0 : Int32)), .unset, .unset] [])) _
        refine XS.iload X16.here hx rfl (hb hby at_156) rfl ?_
        show Steps p.tables e below (T16.setTop (mkF m 158 #[.val (.int p0), .val (.int p1), .val (.int p2), .val (.int p3), .val (.int p4), .val (.int (gl p0)), .val (.int (gf p1)), .val (.int (gs p2)), .val (.ref b1), .val (.ref b8), .val (.int (1 : Int32)), .val (.int (0 : Int32)), .unset, .unset] [(.int (0 : Int32))])) _
        refine XS.ifYes X16.here hx rfl (pc0 := 158) (pc' := 166) rfl (hb hby at_158) rfl ((if0 _ _).trans (teq (rfl : (0 : Int32) = (0 : Int32))).1) (by decide) (by decide) ?_
        show Steps p.tables e below (T16.setTop (mkF m 166 #[.val (.int p0), .val (.int p1), .val (.int p2), .val (.int p3), .val (.int p4), .val (.int (gl p0)), .val (.int (gf p1)), .val (.int (gs p2)), .val (.ref b1), .val (.ref b8), .val (.int (1 : Int32)), .val (.int (0 : Int32)), .unset, .unset] [])) _
        refine XS.iconst X16.here hx rfl (hb hby at_166) ?_
        show Steps p.tables e below (T16.setTop (mkF m 167 #[.val (.int p0), .val (.int p1), .val (.int p2), .val (.int p3), .val (.int p4), .val (.int (gl p0)), .val (.int (gf p1)), .val (.int (gs p2)), .val (.ref b1), .val (.ref b8), .val (.int (1 : Int32)), .val (.int (0 : Int32)), .unset, .unset] [(.int (0 : Int32))])) _
        refine XS.istore X16.here hx rfl (hb hby at_167) rfl (l' := #[.val (.int p0), .val (.int p1), .val (.int p2), .val (.int p3), .val (.int p4), .val (.int (gl p0)), .val (.int (gf p1)), .val (.int (gs p2)), .val (.ref b1), .val (.ref b8), .val (.int (1 : Int32)), .val (.int (0 : Int32)), .val (.int (0 : Int32)), .unset]) rfl ?_
        show Steps p.tables e below (T16.setTop (mkF m 169 #[.val (.int p0), .val (.int p1), .val (.int p2), .val (.int p3), .val (.int p4), .val (.int (gl p0)), .val (.int (gf p1)), .val (.int (gs p2)), .val (.ref b1), .val (.ref b8), .val (.int (1 : Int32)), .val (.int (0 : Int32)), .val (.int (0 : Int32)), .unset] [])) _
        refine XS.iload X16.here hx rfl (hb hby at_169) rfl ?_
        show Steps p.tables e below (T16.setTop (mkF m 171 #[.val (.int p0), .val (.int p1), .val (.int p2), .val (.int p3), .val (.int p4), .val (.int (gl p0)), .val (.int (gf p1)), .val (.int (gs p2)), .val (.ref b1), .val (.ref b8), .val (.int (1 : Int32)), .val (.int (0 : Int32)), .val (.int (0 : Int32)), .unset] [(.int (1 : Int32))])) _
        refine XS.ifNo X16.here hx rfl (hb hby at_171) rfl ((if0 _ _).trans (feq (by decide : ¬ ((1 : Int32) = (0 : Int32)))).1) ?_
        show Steps p.tables e below (T16.setTop (mkF m 174 #[.val (.int p0), .val (.int p1), .val (.int p2), .val (.int p3), .val (.int p4), .val (.int (gl p0)), .val (.int (gf p1)), .val (.int (gs p2)), .val (.ref b1), .val (.ref b8), .val (.int (1 : Int32)), .val (.int (0 : Int32)), .val (.int (0 : Int32)), .unset] [])) _
        refine XS.aload X16.here hx rfl (hb hby at_174) rfl rfl ?_
        show Steps p.tables e below (T16.setTop (mkF m 176 #[.val (.int p0), .val (.int p1), .val (.int p2), .val (.int p3), .val (.int p4), .val (.int (gl p0)), .val (.int (gf p1)), .val (.int (gs p2)), .val (.ref b1), .val (.ref b8), .val (.int (1 : Int32)), .val (.int (0 : Int32)), .val (.int (0 : Int32)), .unset] [(.ref b8)])) _
        refine st18.trans ?_
        show Steps p.tables e below (T18.setTop (mkF m 179 #[.val (.int p0), .val (.int p1), .val (.int p2), .val (.int p3), .val (.int p4), .val (.int (gl p0)), .val (.int (gf p1)), .val (.int (gs p2)), .val (.ref b1), .val (.ref b8), .val (.int (1 : Int32)), .val (.int (0 : Int32)), .val (.int (0 : Int32)), .unset] [(.int r18)])) _
        refine XS.iload X18.here hx rfl (hb hby at_179) rfl ?_
        show Steps p.tables e below (T18.setTop (mkF m 181 #[.val (.int p0), .val (.int p1), .val (.int p2), .val (.int p3), .val (.int p4), .val (.int (gl p0)), .val (.int (gf p1)), .val (.int (gs p2)), .val (.ref b1), .val (.ref b8), .val (.int (1 : Int32)), .val (.int (0 : Int32)), .val (.int (0 : Int32)), .unset] [(.int (0 : Int32)), (.int r18)])) _
        refine XS.icmpNo X18.here hx rfl (hb hby at_181) rfl (teq (show r18 = (0 : Int32) from (own_eq0 hr18 rfl))).2 ?_
        show Steps p.tables e below (T18.setTop (mkF m 184 #[.val (.int p0), .val (.int p1), .val (.int p2), .val (.int p3), .val (.int p4), .val (.int (gl p0)), .val (.int (gf p1)), .val (.int (gs p2)), .val (.ref b1), .val (.ref b8), .val (.int (1 : Int32)), .val (.int (0 : Int32)), .val (.int (0 : Int32)), .unset] [])) _
        refine XS.iconst X18.here hx rfl (hb hby at_184) ?_
        show Steps p.tables e below (T18.setTop (mkF m 185 #[.val (.int p0), .val (.int p1), .val (.int p2), .val (.int p3), .val (.int p4), .val (.int (gl p0)), .val (.int (gf p1)), .val (.int (gs p2)), .val (.ref b1), .val (.ref b8), .val (.int (1 : Int32)), .val (.int (0 : Int32)), .val (.int (0 : Int32)), .unset] [(.int (1 : Int32))])) _
        refine XS.goto X18.here hx rfl (pc0 := 185) (pc' := 189) rfl (hb hby at_185) (by decide) (by decide) ?_
        show Steps p.tables e below (T18.setTop (mkF m 189 #[.val (.int p0), .val (.int p1), .val (.int p2), .val (.int p3), .val (.int p4), .val (.int (gl p0)), .val (.int (gf p1)), .val (.int (gs p2)), .val (.ref b1), .val (.ref b8), .val (.int (1 : Int32)), .val (.int (0 : Int32)), .val (.int (0 : Int32)), .unset] [(.int (1 : Int32))])) _
        refine XS.istore X18.here hx rfl (hb hby at_189) rfl (l' := #[.val (.int p0), .val (.int p1), .val (.int p2), .val (.int p3), .val (.int p4), .val (.int (gl p0)), .val (.int (gf p1)), .val (.int (gs p2)), .val (.ref b1), .val (.ref b8), .val (.int (1 : Int32)), .val (.int (0 : Int32)), .val (.int (0 : Int32)), .unset]) rfl ?_
        show Steps p.tables e below (T18.setTop (mkF m 191 #[.val (.int p0), .val (.int p1), .val (.int p2), .val (.int p3), .val (.int p4), .val (.int (gl p0)), .val (.int (gf p1)), .val (.int (gs p2)), .val (.ref b1), .val (.ref b8), .val (.int (1 : Int32)), .val (.int (0 : Int32)), .val (.int (0 : Int32)), .unset] [])) _
        refine XS.iload X18.here hx rfl (hb hby at_191) rfl ?_
        show Steps p.tables e below (T18.setTop (mkF m 193 #[.val (.int p0), .val (.int p1), .val (.int p2), .val (.int p3), .val (.int p4), .val (.int (gl p0)), .val (.int (gf p1)), .val (.int (gs p2)), .val (.ref b1), .val (.ref b8), .val (.int (1 : Int32)), .val (.int (0 : Int32)), .val (.int (0 : Int32)), .unset] [(.int (1 : Int32))])) _
        refine XS.ifNo X18.here hx rfl (hb hby at_193) rfl ((if0 _ _).trans (feq (by decide : ¬ ((1 : Int32) = (0 : Int32)))).1) ?_
        show Steps p.tables e below (T18.setTop (mkF m 196 #[.val (.int p0), .val (.int p1), .val (.int p2), .val (.int p3), .val (.int p4), .val (.int (gl p0)), .val (.int (gf p1)), .val (.int (gs p2)), .val (.ref b1), .val (.ref b8), .val (.int (1 : Int32)), .val (.int (0 : Int32)), .val (.int (0 : Int32)), .unset] [])) _
        refine XS.iload X18.here hx rfl (hb hby at_196) rfl ?_
        show Steps p.tables e below (T18.setTop (mkF m 198 #[.val (.int p0), .val (.int p1), .val (.int p2), .val (.int p3), .val (.int p4), .val (.int (gl p0)), .val (.int (gf p1)), .val (.int (gs p2)), .val (.ref b1), .val (.ref b8), .val (.int (1 : Int32)), .val (.int (0 : Int32)), .val (.int (0 : Int32)), .unset] [(.int (0 : Int32))])) _
        refine XS.iconst X18.here hx rfl (hb hby at_198) ?_
        show Steps p.tables e below (T18.setTop (mkF m 199 #[.val (.int p0), .val (.int p1), .val (.int p2), .val (.int p3), .val (.int p4), .val (.int (gl p0)), .val (.int (gf p1)), .val (.int (gs p2)), .val (.ref b1), .val (.ref b8), .val (.int (1 : Int32)), .val (.int (0 : Int32)), .val (.int (0 : Int32)), .unset] [(.int (2 : Int32)), (.int (0 : Int32))])) _
        refine XS.icmpYes X18.here hx rfl (pc0 := 199) (pc' := 232) rfl (hb hby at_199) rfl (tlt (by decide : (0 : Int32) < (2 : Int32))).1 (by decide) (by decide) ?_
        show Steps p.tables e below (T18.setTop (mkF m 232 #[.val (.int p0), .val (.int p1), .val (.int p2), .val (.int p3), .val (.int p4), .val (.int (gl p0)), .val (.int (gf p1)), .val (.int (gs p2)), .val (.ref b1), .val (.ref b8), .val (.int (1 : Int32)), .val (.int (0 : Int32)), .val (.int (0 : Int32)), .unset] [])) _
        refine XS.aload X18.here hx rfl (hb hby at_232) rfl rfl ?_
        show Steps p.tables e below (T18.setTop (mkF m 234 #[.val (.int p0), .val (.int p1), .val (.int p2), .val (.int p3), .val (.int p4), .val (.int (gl p0)), .val (.int (gf p1)), .val (.int (gs p2)), .val (.ref b1), .val (.ref b8), .val (.int (1 : Int32)), .val (.int (0 : Int32)), .val (.int (0 : Int32)), .unset] [(.ref b8)])) _
        refine XS.iloadN X18.here hx rfl (hb hby at_234) rfl ?_
        show Steps p.tables e below (T18.setTop (mkF m 235 #[.val (.int p0), .val (.int p1), .val (.int p2), .val (.int p3), .val (.int p4), .val (.int (gl p0)), .val (.int (gf p1)), .val (.int (gs p2)), .val (.ref b1), .val (.ref b8), .val (.int (1 : Int32)), .val (.int (0 : Int32)), .val (.int (0 : Int32)), .unset] [(.int p3), (.ref b8)])) _
        refine XS.i2b X18.here hx rfl (hb hby at_235) rfl ?_
        show Steps p.tables e below (T18.setTop (mkF m 236 #[.val (.int p0), .val (.int p1), .val (.int p2), .val (.int p3), .val (.int p4), .val (.int (gl p0)), .val (.int (gf p1)), .val (.int (gs p2)), .val (.ref b1), .val (.ref b8), .val (.int (1 : Int32)), .val (.int (0 : Int32)), .val (.int (0 : Int32)), .unset] [(.int (p3.toInt8.toInt32)), (.ref b8)])) _
        refine st19.trans ?_
        exact kt
      rcases hr19 with ⟨rfl, hnO, rfl⟩ | ⟨rfl, hyO, rfl⟩
      · skip
        obtain ⟨cq21, kq21, q21a, q21b, q21c⟩ := isOf hZ rfl (own_bbE B19q)
        obtain ⟨_, _, ⟨T21, L21, k21, n21⟩, -, X21, ⟨Lc21, hQ21, l21, y21, z21⟩, st21⟩ := X19.virtualBack hx (y := (⟨"com/example/benchwire/benchwire/protocols/BoundedBuffer", "size", "()I"⟩ : MethodName)) (z := (⟨"com/example/benchwire/benchwire/protocols/BoundedBuffer", "size", "()I"⟩ : MethodName)) hown (mvT hZ (hw _ (List.mem_of_getElem? (i := 35) rfl))) (mvT hZ (hw _ (List.mem_of_getElem? (i := 36) rfl))) (notFace_of_selects (args := #[]) (mvT hZ (hw _ (List.mem_of_getElem? (i := 38) rfl)))) (mvT hZ (hw _ (List.mem_of_getElem? (i := 38) rfl))) (mvT hZ (hw _ (List.mem_of_getElem? (i := 37) rfl))) (by decide) (backOf (W := 0) (rm7 l Z a0 hw [] b8 b1 fs lim 0 cap19 f19 T19.heap n0 Z19q B19q) hZ (hw _ (List.mem_of_getElem? (i := 39) rfl)) (hw _ (List.mem_of_getElem? (i := 4) rfl)) (by decide) (by decide)) q21a q21c (g := (mkF m 277 #[.val (.int p0), .val (.int p1), .val (.int p2), .val (.int p3), .val (.int p4), .val (.int (gl p0)), .val (.int (gf p1)), .val (.int (gs p2)), .val (.ref b1), .val (.ref b8), .val (.int (1 : Int32)), .val (.int (0 : Int32)), .val (.int (0 : Int32)), .val (.int (0 : Int32))] [(.ref b8)])) rfl (by rw [hml]; rfl) (Steps.refl _) (argsL := []) (rest := []) (lenOf pd_8 rfl) rfl (by show 2 * 0 + _ ≤ _; exact Nat.le_of_eq rfl) (hb hby at_277) (fun _ _ => ⟨rfl, rfl, (by decide : 7 + 0 ≤ _), (by decide : 2348 + 0 ≤ _)⟩)
        dsimp only [Pt.U, Pt.locs, Pt.cells, Pt.slots] at X21 l21 y21 z21 st21 hQ21
        subst l21 y21 z21
        obtain ⟨r21, rfl, hr21, rfl, e21⟩ := hQ21
        try rw [List.append_nil] at X21
        have K22 : ∀ t, Steps p.tables e below (T21.setTop (mkF m 305 #[.val (.int p0), .val (.int p1), .val (.int p2), .val (.int p3), .val (.int p4), .val (.int (gl p0)), .val (.int (gf p1)), .val (.int (gs p2)), .val (.ref b1), .val (.ref b8), .val (.int (1 : Int32)), .val (.int (0 : Int32)), .val (.int (0 : Int32)), .val (.int (0 : Int32))] [(.int (1 : Int32))])) t → Steps p.tables e below (s₁.setTop (mkF m 0 #[.val (.int p0), .val (.int p1), .val (.int p2), .val (.int p3), .val (.int p4), .unset, .unset, .unset, .unset, .unset, .unset, .unset, .unset, .unset] [])) t := by
          intro t kt
          refine K20 _ ?_
          show Steps p.tables e below (T19.setTop (mkF m 239 #[.val (.int p0), .val (.int p1), .val (.int p2), .val (.int p3), .val (.int p4), .val (.int (gl p0)), .val (.int (gf p1)), .val (.int (gs p2)), .val (.ref b1), .val (.ref b8), .val (.int (1 : Int32)), .val (.int (0 : Int32)), .val (.int (0 : Int32)), .unset] [(.int (0 : Int32))])) _
          refine XS.istore X19.here hx rfl (hb hby at_239) rfl (l' := #[.val (.int p0), .val (.int p1), .val (.int p2), .val (.int p3), .val (.int p4), .val (.int (gl p0)), .val (.int (gf p1)), .val (.int (gs p2)), .val (.ref b1), .val (.ref b8), .val (.int (1 : Int32)), .val (.int (0 : Int32)), .val (.int (0 : Int32)), .val (.int (0 : Int32))]) rfl ?_
          show Steps p.tables e below (T19.setTop (mkF m 241 #[.val (.int p0), .val (.int p1), .val (.int p2), .val (.int p3), .val (.int p4), .val (.int (gl p0)), .val (.int (gf p1)), .val (.int (gs p2)), .val (.ref b1), .val (.ref b8), .val (.int (1 : Int32)), .val (.int (0 : Int32)), .val (.int (0 : Int32)), .val (.int (0 : Int32))] [])) _
          refine XS.iload X19.here hx rfl (hb hby at_241) rfl ?_
          show Steps p.tables e below (T19.setTop (mkF m 243 #[.val (.int p0), .val (.int p1), .val (.int p2), .val (.int p3), .val (.int p4), .val (.int (gl p0)), .val (.int (gf p1)), .val (.int (gs p2)), .val (.ref b1), .val (.ref b8), .val (.int (1 : Int32)), .val (.int (0 : Int32)), .val (.int (0 : Int32)), .val (.int (0 : Int32))] [(.int (1 : Int32))])) _
          refine XS.ifNo X19.here hx rfl (hb hby at_243) rfl ((if0 _ _).trans (feq (by decide : ¬ ((1 : Int32) = (0 : Int32)))).1) ?_
          show Steps p.tables e below (T19.setTop (mkF m 246 #[.val (.int p0), .val (.int p1), .val (.int p2), .val (.int p3), .val (.int p4), .val (.int (gl p0)), .val (.int (gf p1)), .val (.int (gs p2)), .val (.ref b1), .val (.ref b8), .val (.int (1 : Int32)), .val (.int (0 : Int32)), .val (.int (0 : Int32)), .val (.int (0 : Int32))] [])) _
          refine XS.iload X19.here hx rfl (hb hby at_246) rfl ?_
          show Steps p.tables e below (T19.setTop (mkF m 248 #[.val (.int p0), .val (.int p1), .val (.int p2), .val (.int p3), .val (.int p4), .val (.int (gl p0)), .val (.int (gf p1)), .val (.int (gs p2)), .val (.ref b1), .val (.ref b8), .val (.int (1 : Int32)), .val (.int (0 : Int32)), .val (.int (0 : Int32)), .val (.int (0 : Int32))] [(.int (0 : Int32))])) _
          refine XS.iload X19.here hx rfl (hb hby at_248) rfl ?_
          show Steps p.tables e below (T19.setTop (mkF m 250 #[.val (.int p0), .val (.int p1), .val (.int p2), .val (.int p3), .val (.int p4), .val (.int (gl p0)), .val (.int (gf p1)), .val (.int (gs p2)), .val (.ref b1), .val (.ref b8), .val (.int (1 : Int32)), .val (.int (0 : Int32)), .val (.int (0 : Int32)), .val (.int (0 : Int32))] [(.int (0 : Int32)), (.int (0 : Int32))])) _
          refine XS.iload X19.here hx rfl (hb hby at_250) rfl ?_
          show Steps p.tables e below (T19.setTop (mkF m 252 #[.val (.int p0), .val (.int p1), .val (.int p2), .val (.int p3), .val (.int p4), .val (.int (gl p0)), .val (.int (gf p1)), .val (.int (gs p2)), .val (.ref b1), .val (.ref b8), .val (.int (1 : Int32)), .val (.int (0 : Int32)), .val (.int (0 : Int32)), .val (.int (0 : Int32))] [(.int (gl p0)), (.int (0 : Int32)), (.int (0 : Int32))])) _
          refine XS.icmpYes X19.here hx rfl (pc0 := 252) (pc' := 259) rfl (hb hby at_252) rfl (flt (show ¬ ((0 : Int32) < (gl p0)) from (own_nlt (show (0 : Int32).toInt = ((0 : Nat) : Int) from rfl) hlm (by omega)))).2.1 (by decide) (by decide) ?_
          show Steps p.tables e below (T19.setTop (mkF m 259 #[.val (.int p0), .val (.int p1), .val (.int p2), .val (.int p3), .val (.int p4), .val (.int (gl p0)), .val (.int (gf p1)), .val (.int (gs p2)), .val (.ref b1), .val (.ref b8), .val (.int (1 : Int32)), .val (.int (0 : Int32)), .val (.int (0 : Int32)), .val (.int (0 : Int32))] [(.int (0 : Int32))])) _
          refine XS.iconst X19.here hx rfl (hb hby at_259) ?_
          show Steps p.tables e below (T19.setTop (mkF m 260 #[.val (.int p0), .val (.int p1), .val (.int p2), .val (.int p3), .val (.int p4), .val (.int (gl p0)), .val (.int (gf p1)), .val (.int (gs p2)), .val (.ref b1), .val (.ref b8), .val (.int (1 : Int32)), .val (.int (0 : Int32)), .val (.int (0 : Int32)), .val (.int (0 : Int32))] [(.int (0 : Int32)), (.int (0 : Int32))])) _
          refine XS.icmpNo X19.here hx rfl (hb hby at_260) rfl (teq (rfl : (0 : Int32) = (0 : Int32))).2 ?_
          show Steps p.tables e below (T19.setTop (mkF m 263 #[.val (.int p0), .val (.int p1), .val (.int p2), .val (.int p3), .val (.int p4), .val (.int (gl p0)), .val (.int (gf p1)), .val (.int (gs p2)), .val (.ref b1), .val (.ref b8), .val (.int (1 : Int32)), .val (.int (0 : Int32)), .val (.int (0 : Int32)), .val (.int (0 : Int32))] [])) _
          refine XS.iconst X19.here hx rfl (hb hby at_263) ?_
          show Steps p.tables e below (T19.setTop (mkF m 264 #[.val (.int p0), .val (.int p1), .val (.int p2), .val (.int p3), .val (.int p4), .val (.int (gl p0)), .val (.int (gf p1)), .val (.int (gs p2)), .val (.ref b1), .val (.ref b8), .val (.int (1 : Int32)), .val (.int (0 : Int32)), .val (.int (0 : Int32)), .val (.int (0 : Int32))] [(.int (1 : Int32))])) _
          refine XS.goto X19.here hx rfl (pc0 := 264) (pc' := 268) rfl (hb hby at_264) (by decide) (by decide) ?_
          show Steps p.tables e below (T19.setTop (mkF m 268 #[.val (.int p0), .val (.int p1), .val (.int p2), .val (.int p3), .val (.int p4), .val (.int (gl p0)), .val (.int (gf p1)), .val (.int (gs p2)), .val (.ref b1), .val (.ref b8), .val (.int (1 : Int32)), .val (.int (0 : Int32)), .val (.int (0 : Int32)), .val (.int (0 : Int32))] [(.int (1 : Int32))])) _
          refine XS.istore X19.here hx rfl (hb hby at_268) rfl (l' := #[.val (.int p0), .val (.int p1), .val (.int p2), .val (.int p3), .val (.int p4), .val (.int (gl p0)), .val (.int (gf p1)), .val (.int (gs p2)), .val (.ref b1), .val (.ref b8), .val (.int (1 : Int32)), .val (.int (0 : Int32)), .val (.int (0 : Int32)), .val (.int (0 : Int32))]) rfl ?_
          show Steps p.tables e below (T19.setTop (mkF m 270 #[.val (.int p0), .val (.int p1), .val (.int p2), .val (.int p3), .val (.int p4), .val (.int (gl p0)), .val (.int (gf p1)), .val (.int (gs p2)), .val (.ref b1), .val (.ref b8), .val (.int (1 : Int32)), .val (.int (0 : Int32)), .val (.int (0 : Int32)), .val (.int (0 : Int32))] [])) _
          refine XS.iload X19.here hx rfl (hb hby at_270) rfl ?_
          show Steps p.tables e below (T19.setTop (mkF m 272 #[.val (.int p0), .val (.int p1), .val (.int p2), .val (.int p3), .val (.int p4), .val (.int (gl p0)), .val (.int (gf p1)), .val (.int (gs p2)), .val (.ref b1), .val (.ref b8), .val (.int (1 : Int32)), .val (.int (0 : Int32)), .val (.int (0 : Int32)), .val (.int (0 : Int32))] [(.int (1 : Int32))])) _
          refine XS.ifNo X19.here hx rfl (hb hby at_272) rfl ((if0 _ _).trans (feq (by decide : ¬ ((1 : Int32) = (0 : Int32)))).1) ?_
          show Steps p.tables e below (T19.setTop (mkF m 275 #[.val (.int p0), .val (.int p1), .val (.int p2), .val (.int p3), .val (.int p4), .val (.int (gl p0)), .val (.int (gf p1)), .val (.int (gs p2)), .val (.ref b1), .val (.ref b8), .val (.int (1 : Int32)), .val (.int (0 : Int32)), .val (.int (0 : Int32)), .val (.int (0 : Int32))] [])) _
          refine XS.aload X19.here hx rfl (hb hby at_275) rfl rfl ?_
          show Steps p.tables e below (T19.setTop (mkF m 277 #[.val (.int p0), .val (.int p1), .val (.int p2), .val (.int p3), .val (.int p4), .val (.int (gl p0)), .val (.int (gf p1)), .val (.int (gs p2)), .val (.ref b1), .val (.ref b8), .val (.int (1 : Int32)), .val (.int (0 : Int32)), .val (.int (0 : Int32)), .val (.int (0 : Int32))] [(.ref b8)])) _
          refine st21.trans ?_
          show Steps p.tables e below (T21.setTop (mkF m 280 #[.val (.int p0), .val (.int p1), .val (.int p2), .val (.int p3), .val (.int p4), .val (.int (gl p0)), .val (.int (gf p1)), .val (.int (gs p2)), .val (.ref b1), .val (.ref b8), .val (.int (1 : Int32)), .val (.int (0 : Int32)), .val (.int (0 : Int32)), .val (.int (0 : Int32))] [(.int r21)])) _
          refine XS.iload X21.here hx rfl (hb hby at_280) rfl ?_
          show Steps p.tables e below (T21.setTop (mkF m 282 #[.val (.int p0), .val (.int p1), .val (.int p2), .val (.int p3), .val (.int p4), .val (.int (gl p0)), .val (.int (gf p1)), .val (.int (gs p2)), .val (.ref b1), .val (.ref b8), .val (.int (1 : Int32)), .val (.int (0 : Int32)), .val (.int (0 : Int32)), .val (.int (0 : Int32))] [(.int (0 : Int32)), (.int r21)])) _
          refine XS.iload X21.here hx rfl (hb hby at_282) rfl ?_
          show Steps p.tables e below (T21.setTop (mkF m 284 #[.val (.int p0), .val (.int p1), .val (.int p2), .val (.int p3), .val (.int p4), .val (.int (gl p0)), .val (.int (gf p1)), .val (.int (gs p2)), .val (.ref b1), .val (.ref b8), .val (.int (1 : Int32)), .val (.int (0 : Int32)), .val (.int (0 : Int32)), .val (.int (0 : Int32))] [(.int (0 : Int32)), (.int (0 : Int32)), (.int r21)])) _
          refine XS.ifYes X21.here hx rfl (pc0 := 284) (pc' := 291) rfl (hb hby at_284) rfl ((if0 _ _).trans (teq (rfl : (0 : Int32) = (0 : Int32))).1) (by decide) (by decide) ?_
          show Steps p.tables e below (T21.setTop (mkF m 291 #[.val (.int p0), .val (.int p1), .val (.int p2), .val (.int p3), .val (.int p4), .val (.int (gl p0)), .val (.int (gf p1)), .val (.int (gs p2)), .val (.ref b1), .val (.ref b8), .val (.int (1 : Int32)), .val (.int (0 : Int32)), .val (.int (0 : Int32)), .val (.int (0 : Int32))] [(.int (0 : Int32)), (.int r21)])) _
          refine XS.iconst X21.here hx rfl (hb hby at_291) ?_
          show Steps p.tables e below (T21.setTop (mkF m 292 #[.val (.int p0), .val (.int p1), .val (.int p2), .val (.int p3), .val (.int p4), .val (.int (gl p0)), .val (.int (gf p1)), .val (.int (gs p2)), .val (.ref b1), .val (.ref b8), .val (.int (1 : Int32)), .val (.int (0 : Int32)), .val (.int (0 : Int32)), .val (.int (0 : Int32))] [(.int (0 : Int32)), (.int (0 : Int32)), (.int r21)])) _
          refine XS.iadd X21.here hx rfl (hb hby at_292) rfl ?_
          show Steps p.tables e below (T21.setTop (mkF m 293 #[.val (.int p0), .val (.int p1), .val (.int p2), .val (.int p3), .val (.int p4), .val (.int (gl p0)), .val (.int (gf p1)), .val (.int (gs p2)), .val (.ref b1), .val (.ref b8), .val (.int (1 : Int32)), .val (.int (0 : Int32)), .val (.int (0 : Int32)), .val (.int (0 : Int32))] [(.int ((0 : Int32) + (0 : Int32))), (.int r21)])) _
          refine XS.icmpNo X21.here hx rfl (hb hby at_293) rfl (teq (show r21 = ((0 : Int32) + (0 : Int32)) from (own_eq0 hr21 (by rfl)))).2 ?_
          show Steps p.tables e below (T21.setTop (mkF m 296 #[.val (.int p0), .val (.int p1), .val (.int p2), .val (.int p3), .val (.int p4), .val (.int (gl p0)), .val (.int (gf p1)), .val (.int (gs p2)), .val (.ref b1), .val (.ref b8), .val (.int (1 : Int32)), .val (.int (0 : Int32)), .val (.int (0 : Int32)), .val (.int (0 : Int32))] [])) _
          refine XS.iconst X21.here hx rfl (hb hby at_296) ?_
          show Steps p.tables e below (T21.setTop (mkF m 297 #[.val (.int p0), .val (.int p1), .val (.int p2), .val (.int p3), .val (.int p4), .val (.int (gl p0)), .val (.int (gf p1)), .val (.int (gs p2)), .val (.ref b1), .val (.ref b8), .val (.int (1 : Int32)), .val (.int (0 : Int32)), .val (.int (0 : Int32)), .val (.int (0 : Int32))] [(.int (1 : Int32))])) _
          refine XS.goto X21.here hx rfl (pc0 := 297) (pc' := 301) rfl (hb hby at_297) (by decide) (by decide) ?_
          show Steps p.tables e below (T21.setTop (mkF m 301 #[.val (.int p0), .val (.int p1), .val (.int p2), .val (.int p3), .val (.int p4), .val (.int (gl p0)), .val (.int (gf p1)), .val (.int (gs p2)), .val (.ref b1), .val (.ref b8), .val (.int (1 : Int32)), .val (.int (0 : Int32)), .val (.int (0 : Int32)), .val (.int (0 : Int32))] [(.int (1 : Int32))])) _
          refine XS.istore X21.here hx rfl (hb hby at_301) rfl (l' := #[.val (.int p0), .val (.int p1), .val (.int p2), .val (.int p3), .val (.int p4), .val (.int (gl p0)), .val (.int (gf p1)), .val (.int (gs p2)), .val (.ref b1), .val (.ref b8), .val (.int (1 : Int32)), .val (.int (0 : Int32)), .val (.int (0 : Int32)), .val (.int (0 : Int32))]) rfl ?_
          show Steps p.tables e below (T21.setTop (mkF m 303 #[.val (.int p0), .val (.int p1), .val (.int p2), .val (.int p3), .val (.int p4), .val (.int (gl p0)), .val (.int (gf p1)), .val (.int (gs p2)), .val (.ref b1), .val (.ref b8), .val (.int (1 : Int32)), .val (.int (0 : Int32)), .val (.int (0 : Int32)), .val (.int (0 : Int32))] [])) _
          refine XS.iload X21.here hx rfl (hb hby at_303) rfl ?_
          exact kt
        obtain ⟨fsQ, hr, hrun, hended, hW, hsame⟩ := X21.leave (v := some (.int (1 : Int32))) (fun h => by rw [Bd.returns] at h; cases h)
        refine ⟨_, _, pre0 _ (K22 _ ?_), hrun, hended, _, _, rfl, ?_, ⟨_, rfl⟩, hW, hsame.mono (by decide) (by decide)⟩
        · show Steps p.tables e below (T21.setTop (mkF m 305 #[.val (.int p0), .val (.int p1), .val (.int p2), .val (.int p3), .val (.int p4), .val (.int (gl p0)), .val (.int (gf p1)), .val (.int (gs p2)), .val (.ref b1), .val (.ref b8), .val (.int (1 : Int32)), .val (.int (0 : Int32)), .val (.int (0 : Int32)), .val (.int (0 : Int32))] [(.int (1 : Int32))])) _
          exact retN X21 hx (t := .boolean) Bd.returns (by simp) (hb hby at_305) hr
        · show Q0 Z p0 p1 p2 p3 p4  h0 n0 _ T21.heap _
          rw [e21]
          exact ⟨rfl, N19⟩
      · skip
        obtain ⟨cq23, kq23, q23a, q23b, q23c⟩ := isOf hZ rfl (own_bbE B19q)
        obtain ⟨_, _, ⟨T23, L23, k23, n23⟩, -, X23, ⟨Lc23, hQ23, l23, y23, z23⟩, st23⟩ := X19.virtualBack hx (y := (⟨"com/example/benchwire/benchwire/protocols/BoundedBuffer", "size", "()I"⟩ : MethodName)) (z := (⟨"com/example/benchwire/benchwire/protocols/BoundedBuffer", "size", "()I"⟩ : MethodName)) hown (mvT hZ (hw _ (List.mem_of_getElem? (i := 35) rfl))) (mvT hZ (hw _ (List.mem_of_getElem? (i := 36) rfl))) (notFace_of_selects (args := #[]) (mvT hZ (hw _ (List.mem_of_getElem? (i := 38) rfl)))) (mvT hZ (hw _ (List.mem_of_getElem? (i := 38) rfl))) (mvT hZ (hw _ (List.mem_of_getElem? (i := 37) rfl))) (by decide) (backOf (W := 0) (rm7 l Z a0 hw [] b8 b1 fs lim (0 + 1) cap19 f19 T19.heap n0 Z19q B19q) hZ (hw _ (List.mem_of_getElem? (i := 39) rfl)) (hw _ (List.mem_of_getElem? (i := 4) rfl)) (by decide) (by decide)) q23a q23c (g := (mkF m 277 #[.val (.int p0), .val (.int p1), .val (.int p2), .val (.int p3), .val (.int p4), .val (.int (gl p0)), .val (.int (gf p1)), .val (.int (gs p2)), .val (.ref b1), .val (.ref b8), .val (.int (1 : Int32)), .val (.int (0 : Int32)), .val (.int (0 : Int32)), .val (.int (1 : Int32))] [(.ref b8)])) rfl (by rw [hml]; rfl) (Steps.refl _) (argsL := []) (rest := []) (lenOf pd_8 rfl) rfl (by show 2 * 0 + _ ≤ _; exact Nat.le_of_eq rfl) (hb hby at_277) (fun _ _ => ⟨rfl, rfl, (by decide : 7 + 0 ≤ _), (by decide : 2348 + 0 ≤ _)⟩)
        dsimp only [Pt.U, Pt.locs, Pt.cells, Pt.slots] at X23 l23 y23 z23 st23 hQ23
        subst l23 y23 z23
        obtain ⟨r23, rfl, hr23, rfl, e23⟩ := hQ23
        try rw [List.append_nil] at X23
        have K24 : ∀ t, Steps p.tables e below (T23.setTop (mkF m 305 #[.val (.int p0), .val (.int p1), .val (.int p2), .val (.int p3), .val (.int p4), .val (.int (gl p0)), .val (.int (gf p1)), .val (.int (gs p2)), .val (.ref b1), .val (.ref b8), .val (.int (1 : Int32)), .val (.int (0 : Int32)), .val (.int (0 : Int32)), .val (.int (1 : Int32))] [(.int (1 : Int32))])) t → Steps p.tables e below (s₁.setTop (mkF m 0 #[.val (.int p0), .val (.int p1), .val (.int p2), .val (.int p3), .val (.int p4), .unset, .unset, .unset, .unset, .unset, .unset, .unset, .unset, .unset] [])) t := by
          intro t kt
          refine K20 _ ?_
          show Steps p.tables e below (T19.setTop (mkF m 239 #[.val (.int p0), .val (.int p1), .val (.int p2), .val (.int p3), .val (.int p4), .val (.int (gl p0)), .val (.int (gf p1)), .val (.int (gs p2)), .val (.ref b1), .val (.ref b8), .val (.int (1 : Int32)), .val (.int (0 : Int32)), .val (.int (0 : Int32)), .unset] [(.int (1 : Int32))])) _
          refine XS.istore X19.here hx rfl (hb hby at_239) rfl (l' := #[.val (.int p0), .val (.int p1), .val (.int p2), .val (.int p3), .val (.int p4), .val (.int (gl p0)), .val (.int (gf p1)), .val (.int (gs p2)), .val (.ref b1), .val (.ref b8), .val (.int (1 : Int32)), .val (.int (0 : Int32)), .val (.int (0 : Int32)), .val (.int (1 : Int32))]) rfl ?_
          show Steps p.tables e below (T19.setTop (mkF m 241 #[.val (.int p0), .val (.int p1), .val (.int p2), .val (.int p3), .val (.int p4), .val (.int (gl p0)), .val (.int (gf p1)), .val (.int (gs p2)), .val (.ref b1), .val (.ref b8), .val (.int (1 : Int32)), .val (.int (0 : Int32)), .val (.int (0 : Int32)), .val (.int (1 : Int32))] [])) _
          refine XS.iload X19.here hx rfl (hb hby at_241) rfl ?_
          show Steps p.tables e below (T19.setTop (mkF m 243 #[.val (.int p0), .val (.int p1), .val (.int p2), .val (.int p3), .val (.int p4), .val (.int (gl p0)), .val (.int (gf p1)), .val (.int (gs p2)), .val (.ref b1), .val (.ref b8), .val (.int (1 : Int32)), .val (.int (0 : Int32)), .val (.int (0 : Int32)), .val (.int (1 : Int32))] [(.int (1 : Int32))])) _
          refine XS.ifNo X19.here hx rfl (hb hby at_243) rfl ((if0 _ _).trans (feq (by decide : ¬ ((1 : Int32) = (0 : Int32)))).1) ?_
          show Steps p.tables e below (T19.setTop (mkF m 246 #[.val (.int p0), .val (.int p1), .val (.int p2), .val (.int p3), .val (.int p4), .val (.int (gl p0)), .val (.int (gf p1)), .val (.int (gs p2)), .val (.ref b1), .val (.ref b8), .val (.int (1 : Int32)), .val (.int (0 : Int32)), .val (.int (0 : Int32)), .val (.int (1 : Int32))] [])) _
          refine XS.iload X19.here hx rfl (hb hby at_246) rfl ?_
          show Steps p.tables e below (T19.setTop (mkF m 248 #[.val (.int p0), .val (.int p1), .val (.int p2), .val (.int p3), .val (.int p4), .val (.int (gl p0)), .val (.int (gf p1)), .val (.int (gs p2)), .val (.ref b1), .val (.ref b8), .val (.int (1 : Int32)), .val (.int (0 : Int32)), .val (.int (0 : Int32)), .val (.int (1 : Int32))] [(.int (1 : Int32))])) _
          refine XS.iload X19.here hx rfl (hb hby at_248) rfl ?_
          show Steps p.tables e below (T19.setTop (mkF m 250 #[.val (.int p0), .val (.int p1), .val (.int p2), .val (.int p3), .val (.int p4), .val (.int (gl p0)), .val (.int (gf p1)), .val (.int (gs p2)), .val (.ref b1), .val (.ref b8), .val (.int (1 : Int32)), .val (.int (0 : Int32)), .val (.int (0 : Int32)), .val (.int (1 : Int32))] [(.int (0 : Int32)), (.int (1 : Int32))])) _
          refine XS.iload X19.here hx rfl (hb hby at_250) rfl ?_
          show Steps p.tables e below (T19.setTop (mkF m 252 #[.val (.int p0), .val (.int p1), .val (.int p2), .val (.int p3), .val (.int p4), .val (.int (gl p0)), .val (.int (gf p1)), .val (.int (gs p2)), .val (.ref b1), .val (.ref b8), .val (.int (1 : Int32)), .val (.int (0 : Int32)), .val (.int (0 : Int32)), .val (.int (1 : Int32))] [(.int (gl p0)), (.int (0 : Int32)), (.int (1 : Int32))])) _
          refine XS.icmpNo X19.here hx rfl (hb hby at_252) rfl (tlt (show (0 : Int32) < (gl p0) from (own_lt (show (0 : Int32).toInt = ((0 : Nat) : Int) from rfl) hlm (by omega)))).2.1 ?_
          show Steps p.tables e below (T19.setTop (mkF m 255 #[.val (.int p0), .val (.int p1), .val (.int p2), .val (.int p3), .val (.int p4), .val (.int (gl p0)), .val (.int (gf p1)), .val (.int (gs p2)), .val (.ref b1), .val (.ref b8), .val (.int (1 : Int32)), .val (.int (0 : Int32)), .val (.int (0 : Int32)), .val (.int (1 : Int32))] [(.int (1 : Int32))])) _
          refine XS.iconst X19.here hx rfl (hb hby at_255) ?_
          show Steps p.tables e below (T19.setTop (mkF m 256 #[.val (.int p0), .val (.int p1), .val (.int p2), .val (.int p3), .val (.int p4), .val (.int (gl p0)), .val (.int (gf p1)), .val (.int (gs p2)), .val (.ref b1), .val (.ref b8), .val (.int (1 : Int32)), .val (.int (0 : Int32)), .val (.int (0 : Int32)), .val (.int (1 : Int32))] [(.int (1 : Int32)), (.int (1 : Int32))])) _
          refine XS.goto X19.here hx rfl (pc0 := 256) (pc' := 260) rfl (hb hby at_256) (by decide) (by decide) ?_
          show Steps p.tables e below (T19.setTop (mkF m 260 #[.val (.int p0), .val (.int p1), .val (.int p2), .val (.int p3), .val (.int p4), .val (.int (gl p0)), .val (.int (gf p1)), .val (.int (gs p2)), .val (.ref b1), .val (.ref b8), .val (.int (1 : Int32)), .val (.int (0 : Int32)), .val (.int (0 : Int32)), .val (.int (1 : Int32))] [(.int (1 : Int32)), (.int (1 : Int32))])) _
          refine XS.icmpNo X19.here hx rfl (hb hby at_260) rfl (teq (rfl : (1 : Int32) = (1 : Int32))).2 ?_
          show Steps p.tables e below (T19.setTop (mkF m 263 #[.val (.int p0), .val (.int p1), .val (.int p2), .val (.int p3), .val (.int p4), .val (.int (gl p0)), .val (.int (gf p1)), .val (.int (gs p2)), .val (.ref b1), .val (.ref b8), .val (.int (1 : Int32)), .val (.int (0 : Int32)), .val (.int (0 : Int32)), .val (.int (1 : Int32))] [])) _
          refine XS.iconst X19.here hx rfl (hb hby at_263) ?_
          show Steps p.tables e below (T19.setTop (mkF m 264 #[.val (.int p0), .val (.int p1), .val (.int p2), .val (.int p3), .val (.int p4), .val (.int (gl p0)), .val (.int (gf p1)), .val (.int (gs p2)), .val (.ref b1), .val (.ref b8), .val (.int (1 : Int32)), .val (.int (0 : Int32)), .val (.int (0 : Int32)), .val (.int (1 : Int32))] [(.int (1 : Int32))])) _
          refine XS.goto X19.here hx rfl (pc0 := 264) (pc' := 268) rfl (hb hby at_264) (by decide) (by decide) ?_
          show Steps p.tables e below (T19.setTop (mkF m 268 #[.val (.int p0), .val (.int p1), .val (.int p2), .val (.int p3), .val (.int p4), .val (.int (gl p0)), .val (.int (gf p1)), .val (.int (gs p2)), .val (.ref b1), .val (.ref b8), .val (.int (1 : Int32)), .val (.int (0 : Int32)), .val (.int (0 : Int32)), .val (.int (1 : Int32))] [(.int (1 : Int32))])) _
          refine XS.istore X19.here hx rfl (hb hby at_268) rfl (l' := #[.val (.int p0), .val (.int p1), .val (.int p2), .val (.int p3), .val (.int p4), .val (.int (gl p0)), .val (.int (gf p1)), .val (.int (gs p2)), .val (.ref b1), .val (.ref b8), .val (.int (1 : Int32)), .val (.int (0 : Int32)), .val (.int (0 : Int32)), .val (.int (1 : Int32))]) rfl ?_
          show Steps p.tables e below (T19.setTop (mkF m 270 #[.val (.int p0), .val (.int p1), .val (.int p2), .val (.int p3), .val (.int p4), .val (.int (gl p0)), .val (.int (gf p1)), .val (.int (gs p2)), .val (.ref b1), .val (.ref b8), .val (.int (1 : Int32)), .val (.int (0 : Int32)), .val (.int (0 : Int32)), .val (.int (1 : Int32))] [])) _
          refine XS.iload X19.here hx rfl (hb hby at_270) rfl ?_
          show Steps p.tables e below (T19.setTop (mkF m 272 #[.val (.int p0), .val (.int p1), .val (.int p2), .val (.int p3), .val (.int p4), .val (.int (gl p0)), .val (.int (gf p1)), .val (.int (gs p2)), .val (.ref b1), .val (.ref b8), .val (.int (1 : Int32)), .val (.int (0 : Int32)), .val (.int (0 : Int32)), .val (.int (1 : Int32))] [(.int (1 : Int32))])) _
          refine XS.ifNo X19.here hx rfl (hb hby at_272) rfl ((if0 _ _).trans (feq (by decide : ¬ ((1 : Int32) = (0 : Int32)))).1) ?_
          show Steps p.tables e below (T19.setTop (mkF m 275 #[.val (.int p0), .val (.int p1), .val (.int p2), .val (.int p3), .val (.int p4), .val (.int (gl p0)), .val (.int (gf p1)), .val (.int (gs p2)), .val (.ref b1), .val (.ref b8), .val (.int (1 : Int32)), .val (.int (0 : Int32)), .val (.int (0 : Int32)), .val (.int (1 : Int32))] [])) _
          refine XS.aload X19.here hx rfl (hb hby at_275) rfl rfl ?_
          show Steps p.tables e below (T19.setTop (mkF m 277 #[.val (.int p0), .val (.int p1), .val (.int p2), .val (.int p3), .val (.int p4), .val (.int (gl p0)), .val (.int (gf p1)), .val (.int (gs p2)), .val (.ref b1), .val (.ref b8), .val (.int (1 : Int32)), .val (.int (0 : Int32)), .val (.int (0 : Int32)), .val (.int (1 : Int32))] [(.ref b8)])) _
          refine st23.trans ?_
          show Steps p.tables e below (T23.setTop (mkF m 280 #[.val (.int p0), .val (.int p1), .val (.int p2), .val (.int p3), .val (.int p4), .val (.int (gl p0)), .val (.int (gf p1)), .val (.int (gs p2)), .val (.ref b1), .val (.ref b8), .val (.int (1 : Int32)), .val (.int (0 : Int32)), .val (.int (0 : Int32)), .val (.int (1 : Int32))] [(.int r23)])) _
          refine XS.iload X23.here hx rfl (hb hby at_280) rfl ?_
          show Steps p.tables e below (T23.setTop (mkF m 282 #[.val (.int p0), .val (.int p1), .val (.int p2), .val (.int p3), .val (.int p4), .val (.int (gl p0)), .val (.int (gf p1)), .val (.int (gs p2)), .val (.ref b1), .val (.ref b8), .val (.int (1 : Int32)), .val (.int (0 : Int32)), .val (.int (0 : Int32)), .val (.int (1 : Int32))] [(.int (0 : Int32)), (.int r23)])) _
          refine XS.iload X23.here hx rfl (hb hby at_282) rfl ?_
          show Steps p.tables e below (T23.setTop (mkF m 284 #[.val (.int p0), .val (.int p1), .val (.int p2), .val (.int p3), .val (.int p4), .val (.int (gl p0)), .val (.int (gf p1)), .val (.int (gs p2)), .val (.ref b1), .val (.ref b8), .val (.int (1 : Int32)), .val (.int (0 : Int32)), .val (.int (0 : Int32)), .val (.int (1 : Int32))] [(.int (1 : Int32)), (.int (0 : Int32)), (.int r23)])) _
          refine XS.ifNo X23.here hx rfl (hb hby at_284) rfl ((if0 _ _).trans (feq (by decide : ¬ ((1 : Int32) = (0 : Int32)))).1) ?_
          show Steps p.tables e below (T23.setTop (mkF m 287 #[.val (.int p0), .val (.int p1), .val (.int p2), .val (.int p3), .val (.int p4), .val (.int (gl p0)), .val (.int (gf p1)), .val (.int (gs p2)), .val (.ref b1), .val (.ref b8), .val (.int (1 : Int32)), .val (.int (0 : Int32)), .val (.int (0 : Int32)), .val (.int (1 : Int32))] [(.int (0 : Int32)), (.int r23)])) _
          refine XS.iconst X23.here hx rfl (hb hby at_287) ?_
          show Steps p.tables e below (T23.setTop (mkF m 288 #[.val (.int p0), .val (.int p1), .val (.int p2), .val (.int p3), .val (.int p4), .val (.int (gl p0)), .val (.int (gf p1)), .val (.int (gs p2)), .val (.ref b1), .val (.ref b8), .val (.int (1 : Int32)), .val (.int (0 : Int32)), .val (.int (0 : Int32)), .val (.int (1 : Int32))] [(.int (1 : Int32)), (.int (0 : Int32)), (.int r23)])) _
          refine XS.goto X23.here hx rfl (pc0 := 288) (pc' := 292) rfl (hb hby at_288) (by decide) (by decide) ?_
          show Steps p.tables e below (T23.setTop (mkF m 292 #[.val (.int p0), .val (.int p1), .val (.int p2), .val (.int p3), .val (.int p4), .val (.int (gl p0)), .val (.int (gf p1)), .val (.int (gs p2)), .val (.ref b1), .val (.ref b8), .val (.int (1 : Int32)), .val (.int (0 : Int32)), .val (.int (0 : Int32)), .val (.int (1 : Int32))] [(.int (1 : Int32)), (.int (0 : Int32)), (.int r23)])) _
          refine XS.iadd X23.here hx rfl (hb hby at_292) rfl ?_
          show Steps p.tables e below (T23.setTop (mkF m 293 #[.val (.int p0), .val (.int p1), .val (.int p2), .val (.int p3), .val (.int p4), .val (.int (gl p0)), .val (.int (gf p1)), .val (.int (gs p2)), .val (.ref b1), .val (.ref b8), .val (.int (1 : Int32)), .val (.int (0 : Int32)), .val (.int (0 : Int32)), .val (.int (1 : Int32))] [(.int ((0 : Int32) + (1 : Int32))), (.int r23)])) _
          refine XS.icmpNo X23.here hx rfl (hb hby at_293) rfl (teq (show r23 = ((0 : Int32) + (1 : Int32)) from (own_eq0 hr23 (by rfl)))).2 ?_
          show Steps p.tables e below (T23.setTop (mkF m 296 #[.val (.int p0), .val (.int p1), .val (.int p2), .val (.int p3), .val (.int p4), .val (.int (gl p0)), .val (.int (gf p1)), .val (.int (gs p2)), .val (.ref b1), .val (.ref b8), .val (.int (1 : Int32)), .val (.int (0 : Int32)), .val (.int (0 : Int32)), .val (.int (1 : Int32))] [])) _
          refine XS.iconst X23.here hx rfl (hb hby at_296) ?_
          show Steps p.tables e below (T23.setTop (mkF m 297 #[.val (.int p0), .val (.int p1), .val (.int p2), .val (.int p3), .val (.int p4), .val (.int (gl p0)), .val (.int (gf p1)), .val (.int (gs p2)), .val (.ref b1), .val (.ref b8), .val (.int (1 : Int32)), .val (.int (0 : Int32)), .val (.int (0 : Int32)), .val (.int (1 : Int32))] [(.int (1 : Int32))])) _
          refine XS.goto X23.here hx rfl (pc0 := 297) (pc' := 301) rfl (hb hby at_297) (by decide) (by decide) ?_
          show Steps p.tables e below (T23.setTop (mkF m 301 #[.val (.int p0), .val (.int p1), .val (.int p2), .val (.int p3), .val (.int p4), .val (.int (gl p0)), .val (.int (gf p1)), .val (.int (gs p2)), .val (.ref b1), .val (.ref b8), .val (.int (1 : Int32)), .val (.int (0 : Int32)), .val (.int (0 : Int32)), .val (.int (1 : Int32))] [(.int (1 : Int32))])) _
          refine XS.istore X23.here hx rfl (hb hby at_301) rfl (l' := #[.val (.int p0), .val (.int p1), .val (.int p2), .val (.int p3), .val (.int p4), .val (.int (gl p0)), .val (.int (gf p1)), .val (.int (gs p2)), .val (.ref b1), .val (.ref b8), .val (.int (1 : Int32)), .val (.int (0 : Int32)), .val (.int (0 : Int32)), .val (.int (1 : Int32))]) rfl ?_
          show Steps p.tables e below (T23.setTop (mkF m 303 #[.val (.int p0), .val (.int p1), .val (.int p2), .val (.int p3), .val (.int p4), .val (.int (gl p0)), .val (.int (gf p1)), .val (.int (gs p2)), .val (.ref b1), .val (.ref b8), .val (.int (1 : Int32)), .val (.int (0 : Int32)), .val (.int (0 : Int32)), .val (.int (1 : Int32))] [])) _
          refine XS.iload X23.here hx rfl (hb hby at_303) rfl ?_
          exact kt
        obtain ⟨fsQ, hr, hrun, hended, hW, hsame⟩ := X23.leave (v := some (.int (1 : Int32))) (fun h => by rw [Bd.returns] at h; cases h)
        refine ⟨_, _, pre0 _ (K24 _ ?_), hrun, hended, _, _, rfl, ?_, ⟨_, rfl⟩, hW, hsame.mono (by decide) (by decide)⟩
        · show Steps p.tables e below (T23.setTop (mkF m 305 #[.val (.int p0), .val (.int p1), .val (.int p2), .val (.int p3), .val (.int p4), .val (.int (gl p0)), .val (.int (gf p1)), .val (.int (gs p2)), .val (.ref b1), .val (.ref b8), .val (.int (1 : Int32)), .val (.int (0 : Int32)), .val (.int (0 : Int32)), .val (.int (1 : Int32))] [(.int (1 : Int32))])) _
          exact retN X23 hx (t := .boolean) Bd.returns (by simp) (hb hby at_305) hr
        · show Q0 Z p0 p1 p2 p3 p4  h0 n0 _ T23.heap _
          rw [e23]
          exact ⟨rfl, N19⟩
    · skip
      obtain ⟨cq25, kq25, q25a, q25b, q25c⟩ := isOf hZ rfl (own_bbE B16q)
      obtain ⟨_, _, ⟨T25, L25, k25, n25⟩, -, X25, ⟨Lc25, hQ25, l25, y25, z25⟩, st25⟩ := X16.virtualBack hx (y := (⟨"com/example/benchwire/benchwire/protocols/BoundedBuffer", "size", "()I"⟩ : MethodName)) (z := (⟨"com/example/benchwire/benchwire/protocols/BoundedBuffer", "size", "()I"⟩ : MethodName)) hown (mvT hZ (hw _ (List.mem_of_getElem? (i := 35) rfl))) (mvT hZ (hw _ (List.mem_of_getElem? (i := 36) rfl))) (notFace_of_selects (args := #[]) (mvT hZ (hw _ (List.mem_of_getElem? (i := 38) rfl)))) (mvT hZ (hw _ (List.mem_of_getElem? (i := 38) rfl))) (mvT hZ (hw _ (List.mem_of_getElem? (i := 37) rfl))) (by decide) (backOf (W := 0) (rm7 l Z a0 hw [] b8 b1 fs lim (0 + lenS) cap16 f16 T16.heap n0 Z16q B16q) hZ (hw _ (List.mem_of_getElem? (i := 39) rfl)) (hw _ (List.mem_of_getElem? (i := 4) rfl)) (by decide) (by decide)) q25a q25c (g := (mkF m 176 #[.val (.int p0), .val (.int p1), .val (.int p2), .val (.int p3), .val (.int p4), .val (.int (gl p0)), .val (.int (gf p1)), .val (.int (gs p2)), .val (.ref b1), .val (.ref b8), .val (.int (1 : Int32)), .val (.int (1 : Int32)), .val (.int (gs p2)), .unset] [(.ref b8)])) rfl (by rw [hml]; rfl) (Steps.refl _) (argsL := []) (rest := []) (lenOf pd_8 rfl) rfl (by show 2 * 0 + _ ≤ _; exact Nat.le_of_eq rfl) (hb hby at_176) (fun _ _ => ⟨rfl, rfl, (by decide : 6 + 0 ≤ _), (by decide : 1837 + 0 ≤ _)⟩)
      dsimp only [Pt.U, Pt.locs, Pt.cells, Pt.slots] at X25 l25 y25 z25 st25 hQ25
      subst l25 y25 z25
      obtain ⟨r25, rfl, hr25, rfl, e25⟩ := hQ25
      try rw [List.append_nil] at X25
      have K26 : ∀ t, Steps p.tables e below (T25.setTop (mkF m 199 #[.val (.int p0), .val (.int p1), .val (.int p2), .val (.int p3), .val (.int p4), .val (.int (gl p0)), .val (.int (gf p1)), .val (.int (gs p2)), .val (.ref b1), .val (.ref b8), .val (.int (1 : Int32)), .val (.int (1 : Int32)), .val (.int (gs p2)), .unset] [(.int (2 : Int32)), (.int (gs p2))])) t → Steps p.tables e below (s₁.setTop (mkF m 0 #[.val (.int p0), .val (.int p1), .val (.int p2), .val (.int p3), .val (.int p4), .unset, .unset, .unset, .unset, .unset, .unset, .unset, .unset, .unset] [])) t := by
        intro t kt
        refine K17 _ ?_
        show Steps p.tables e below (T16.setTop (mkF m 125 #[.val (.int p0), .val (.int p1), .val (.int p2), .val (.int p3), .val (.int p4), .val (.int (gl p0)), .val (.int (gf p1)), .val (.int (gs p2)), .val (.ref b1), .val (.ref b8), .val (.int (1 : Int32)), .unset, .unset, .unset] [(.int (1 : Int32))])) _
        refine XS.istore X16.here hx rfl (hb hby at_125) rfl (l' := #[.val (.int p0), .val (.int p1), .val (.int p2), .val (.int p3), .val (.int p4), .val (.int (gl p0)), .val (.int (gf p1)), .val (.int (gs p2)), .val (.ref b1), .val (.ref b8), .val (.int (1 : Int32)), .val (.int (1 : Int32)), .unset, .unset]) rfl ?_
        show Steps p.tables e below (T16.setTop (mkF m 127 #[.val (.int p0), .val (.int p1), .val (.int p2), .val (.int p3), .val (.int p4), .val (.int (gl p0)), .val (.int (gf p1)), .val (.int (gs p2)), .val (.ref b1), .val (.ref b8), .val (.int (1 : Int32)), .val (.int (1 : Int32)), .unset, .unset] [])) _
        refine XS.iload X16.here hx rfl (hb hby at_127) rfl ?_
        show Steps p.tables e below (T16.setTop (mkF m 129 #[.val (.int p0), .val (.int p1), .val (.int p2), .val (.int p3), .val (.int p4), .val (.int (gl p0)), .val (.int (gf p1)), .val (.int (gs p2)), .val (.ref b1), .val (.ref b8), .val (.int (1 : Int32)), .val (.int (1 : Int32)), .unset, .unset] [(.int (1 : Int32))])) _
        refine XS.ifNo X16.here hx rfl (hb hby at_129) rfl ((if0 _ _).trans (feq (by decide : ¬ ((1 : Int32) = (0 : Int32)))).1) ?_
        show Steps p.tables e below (T16.setTop (mkF m 132 #[.val (.int p0), .val (.int p1), .val (.int p2), .val (.int p3), .val (.int p4), .val (.int (gl p0)), .val (.int (gf p1)), .val (.int (gs p2)), .val (.ref b1), .val (.ref b8), .val (.int (1 : Int32)), .val (.int (1 : Int32)), .unset, .unset] [])) _
        refine XS.iload X16.here hx rfl (hb hby at_132) rfl ?_
        show Steps p.tables e below (T16.setTop (mkF m 134 #[.val (.int p0), .val (.int p1), .val (.int p2), .val (.int p3), .val (.int p4), .val (.int (gl p0)), .val (.int (gf p1)), .val (.int (gs p2)), .val (.ref b1), .val (.ref b8), .val (.int (1 : Int32)), .val (.int (1 : Int32)), .unset, .unset] [(.int (1 : Int32))])) _
        refine XS.iload X16.here hx rfl (hb hby at_134) rfl ?_
        show Steps p.tables e below (T16.setTop (mkF m 136 #[.val (.int p0), .val (.int p1), .val (.int p2), .val (.int p3), .val (.int p4), .val (.int (gl p0)), .val (.int (gf p1)), .val (.int (gs p2)), .val (.ref b1), .val (.ref b8), .val (.int (1 : Int32)), .val (.int (1 : Int32)), .unset, .unset] [(.int (gs p2)), (.int (1 : Int32))])) _
        refine XS.iload X16.here hx rfl (hb hby at_136) rfl ?_
        show Steps p.tables e below (T16.setTop (mkF m 138 #[.val (.int p0), .val (.int p1), .val (.int p2), .val (.int p3), .val (.int p4), .val (.int (gl p0)), .val (.int (gf p1)), .val (.int (gs p2)), .val (.ref b1), .val (.ref b8), .val (.int (1 : Int32)), .val (.int (1 : Int32)), .unset, .unset] [(.int (gl p0)), (.int (gs p2)), (.int (1 : Int32))])) _
        refine XS.icmpNo X16.here hx rfl (hb hby at_138) rfl (flt (show ¬ ((gl p0) < (gs p2)) from (own_nlt hlm hlS (by omega)))).2.2.1 ?_
        show Steps p.tables e below (T16.setTop (mkF m 141 #[.val (.int p0), .val (.int p1), .val (.int p2), .val (.int p3), .val (.int p4), .val (.int (gl p0)), .val (.int (gf p1)), .val (.int (gs p2)), .val (.ref b1), .val (.ref b8), .val (.int (1 : Int32)), .val (.int (1 : Int32)), .unset, .unset] [(.int (1 : Int32))])) _
        refine XS.iconst X16.here hx rfl (hb hby at_141) ?_
        show Steps p.tables e below (T16.setTop (mkF m 142 #[.val (.int p0), .val (.int p1), .val (.int p2), .val (.int p3), .val (.int p4), .val (.int (gl p0)), .val (.int (gf p1)), .val (.int (gs p2)), .val (.ref b1), .val (.ref b8), .val (.int (1 : Int32)), .val (.int (1 : Int32)), .unset, .unset] [(.int (1 : Int32)), (.int (1 : Int32))])) _
        refine XS.goto X16.here hx rfl (pc0 := 142) (pc' := 146) rfl (hb hby at_142) (by decide) (by decide) ?_
        show Steps p.tables e below (T16.setTop (mkF m 146 #[.val (.int p0), .val (.int p1), .val (.int p2), .val (.int p3), .val (.int p4), .val (.int (gl p0)), .val (.int (gf p1)), .val (.int (gs p2)), .val (.ref b1), .val (.ref b8), .val (.int (1 : Int32)), .val (.int (1 : Int32)), .unset, .unset] [(.int (1 : Int32)), (.int (1 : Int32))])) _
        refine XS.icmpNo X16.here hx rfl (hb hby at_146) rfl (teq (rfl : (1 : Int32) = (1 : Int32))).2 ?_
        show Steps p.tables e below (T16.setTop (mkF m 149 #[.val (.int p0), .val (.int p1), .val (.int p2), .val (.int p3), .val (.int p4), .val (.int (gl p0)), .val (.int (gf p1)), .val (.int (gs p2)), .val (.ref b1), .val (.ref b8), .val (.int (1 : Int32)), .val (.int (1 : Int32)), .unset, .unset] [])) _
        refine XS.iconst X16.here hx rfl (hb hby at_149) ?_
        show Steps p.tables e below (T16.setTop (mkF m 150 #[.val (.int p0), .val (.int p1), .val (.int p2), .val (.int p3), .val (.int p4), .val (.int (gl p0)), .val (.int (gf p1)), .val (.int (gs p2)), .val (.ref b1), .val (.ref b8), .val (.int (1 : Int32)), .val (.int (1 : Int32)), .unset, .unset] [(.int (1 : Int32))])) _
        refine XS.goto X16.here hx rfl (pc0 := 150) (pc' := 154) rfl (hb hby at_150) (by decide) (by decide) ?_
        show Steps p.tables e below (T16.setTop (mkF m 154 #[.val (.int p0), .val (.int p1), .val (.int p2), .val (.int p3), .val (.int p4), .val (.int (gl p0)), .val (.int (gf p1)), .val (.int (gs p2)), .val (.ref b1), .val (.ref b8), .val (.int (1 : Int32)), .val (.int (1 : Int32)), .unset, .unset] [(.int (1 : Int32))])) _
        refine XS.istore X16.here hx rfl (hb hby at_154) rfl (l' := #[.val (.int p0), .val (.int p1), .val (.int p2), .val (.int p3), .val (.int p4), .val (.int (gl p0)), .val (.int (gf p1)), .val (.int (gs p2)), .val (.ref b1), .val (.ref b8), .val (.int (1 : Int32)), .val (.int (1 : Int32)), .unset, .unset]) rfl ?_
        show Steps p.tables e below (T16.setTop (mkF m 156 #[.val (.int p0), .val (.int p1), .val (.int p2), .val (.int p3), .val (.int p4), .val (.int (gl p0)), .val (.int (gf p1)), .val (.int (gs p2)), .val (.ref b1), .val (.ref b8), .val (.int (1 : Int32)), .val (.int (1 : Int32)), .unset, .unset] [])) _
        refine XS.iload X16.here hx rfl (hb hby at_156) rfl ?_
        show Steps p.tables e below (T16.setTop (mkF m 158 #[.val (.int p0), .val (.int p1), .val (.int p2), .val (.int p3), .val (.int p4), .val (.int (gl p0)), .val (.int (gf p1)), .val (.int (gs p2)), .val (.ref b1), .val (.ref b8), .val (.int (1 : Int32)), .val (.int (1 : Int32)), .unset, .unset] [(.int (1 : Int32))])) _
        refine XS.ifNo X16.here hx rfl (hb hby at_158) rfl ((if0 _ _).trans (feq (by decide : ¬ ((1 : Int32) = (0 : Int32)))).1) ?_
        show Steps p.tables e below (T16.setTop (mkF m 161 #[.val (.int p0), .val (.int p1), .val (.int p2), .val (.int p3), .val (.int p4), .val (.int (gl p0)), .val (.int (gf p1)), .val (.int (gs p2)), .val (.ref b1), .val (.ref b8), .val (.int (1 : Int32)), .val (.int (1 : Int32)), .unset, .unset] [])) _
        refine XS.iload X16.here hx rfl (hb hby at_161) rfl ?_
        show Steps p.tables e below (T16.setTop (mkF m 163 #[.val (.int p0), .val (.int p1), .val (.int p2), .val (.int p3), .val (.int p4), .val (.int (gl p0)), .val (.int (gf p1)), .val (.int (gs p2)), .val (.ref b1), .val (.ref b8), .val (.int (1 : Int32)), .val (.int (1 : Int32)), .unset, .unset] [(.int (gs p2))])) _
        refine XS.goto X16.here hx rfl (pc0 := 163) (pc' := 167) rfl (hb hby at_163) (by decide) (by decide) ?_
        show Steps p.tables e below (T16.setTop (mkF m 167 #[.val (.int p0), .val (.int p1), .val (.int p2), .val (.int p3), .val (.int p4), .val (.int (gl p0)), .val (.int (gf p1)), .val (.int (gs p2)), .val (.ref b1), .val (.ref b8), .val (.int (1 : Int32)), .val (.int (1 : Int32)), .unset, .unset] [(.int (gs p2))])) _
        refine XS.istore X16.here hx rfl (hb hby at_167) rfl (l' := #[.val (.int p0), .val (.int p1), .val (.int p2), .val (.int p3), .val (.int p4), .val (.int (gl p0)), .val (.int (gf p1)), .val (.int (gs p2)), .val (.ref b1), .val (.ref b8), .val (.int (1 : Int32)), .val (.int (1 : Int32)), .val (.int (gs p2)), .unset]) rfl ?_
        show Steps p.tables e below (T16.setTop (mkF m 169 #[.val (.int p0), .val (.int p1), .val (.int p2), .val (.int p3), .val (.int p4), .val (.int (gl p0)), .val (.int (gf p1)), .val (.int (gs p2)), .val (.ref b1), .val (.ref b8), .val (.int (1 : Int32)), .val (.int (1 : Int32)), .val (.int (gs p2)), .unset] [])) _
        refine XS.iload X16.here hx rfl (hb hby at_169) rfl ?_
        show Steps p.tables e below (T16.setTop (mkF m 171 #[.val (.int p0), .val (.int p1), .val (.int p2), .val (.int p3), .val (.int p4), .val (.int (gl p0)), .val (.int (gf p1)), .val (.int (gs p2)), .val (.ref b1), .val (.ref b8), .val (.int (1 : Int32)), .val (.int (1 : Int32)), .val (.int (gs p2)), .unset] [(.int (1 : Int32))])) _
        refine XS.ifNo X16.here hx rfl (hb hby at_171) rfl ((if0 _ _).trans (feq (by decide : ¬ ((1 : Int32) = (0 : Int32)))).1) ?_
        show Steps p.tables e below (T16.setTop (mkF m 174 #[.val (.int p0), .val (.int p1), .val (.int p2), .val (.int p3), .val (.int p4), .val (.int (gl p0)), .val (.int (gf p1)), .val (.int (gs p2)), .val (.ref b1), .val (.ref b8), .val (.int (1 : Int32)), .val (.int (1 : Int32)), .val (.int (gs p2)), .unset] [])) _
        refine XS.aload X16.here hx rfl (hb hby at_174) rfl rfl ?_
        show Steps p.tables e below (T16.setTop (mkF m 176 #[.val (.int p0), .val (.int p1), .val (.int p2), .val (.int p3), .val (.int p4), .val (.int (gl p0)), .val (.int (gf p1)), .val (.int (gs p2)), .val (.ref b1), .val (.ref b8), .val (.int (1 : Int32)), .val (.int (1 : Int32)), .val (.int (gs p2)), .unset] [(.ref b8)])) _
        refine st25.trans ?_
        show Steps p.tables e below (T25.setTop (mkF m 179 #[.val (.int p0), .val (.int p1), .val (.int p2), .val (.int p3), .val (.int p4), .val (.int (gl p0)), .val (.int (gf p1)), .val (.int (gs p2)), .val (.ref b1), .val (.ref b8), .val (.int (1 : Int32)), .val (.int (1 : Int32)), .val (.int (gs p2)), .unset] [(.int r25)])) _
        refine XS.iload X25.here hx rfl (hb hby at_179) rfl ?_
        show Steps p.tables e below (T25.setTop (mkF m 181 #[.val (.int p0), .val (.int p1), .val (.int p2), .val (.int p3), .val (.int p4), .val (.int (gl p0)), .val (.int (gf p1)), .val (.int (gs p2)), .val (.ref b1), .val (.ref b8), .val (.int (1 : Int32)), .val (.int (1 : Int32)), .val (.int (gs p2)), .unset] [(.int (gs p2)), (.int r25)])) _
        refine XS.icmpNo X25.here hx rfl (hb hby at_181) rfl (teq (show r25 = (gs p2) from (own_eq0 hr25 (by rw [hlS]; omega)))).2 ?_
        show Steps p.tables e below (T25.setTop (mkF m 184 #[.val (.int p0), .val (.int p1), .val (.int p2), .val (.int p3), .val (.int p4), .val (.int (gl p0)), .val (.int (gf p1)), .val (.int (gs p2)), .val (.ref b1), .val (.ref b8), .val (.int (1 : Int32)), .val (.int (1 : Int32)), .val (.int (gs p2)), .unset] [])) _
        refine XS.iconst X25.here hx rfl (hb hby at_184) ?_
        show Steps p.tables e below (T25.setTop (mkF m 185 #[.val (.int p0), .val (.int p1), .val (.int p2), .val (.int p3), .val (.int p4), .val (.int (gl p0)), .val (.int (gf p1)), .val (.int (gs p2)), .val (.ref b1), .val (.ref b8), .val (.int (1 : Int32)), .val (.int (1 : Int32)), .val (.int (gs p2)), .unset] [(.int (1 : Int32))])) _
        refine XS.goto X25.here hx rfl (pc0 := 185) (pc' := 189) rfl (hb hby at_185) (by decide) (by decide) ?_
        show Steps p.tables e below (T25.setTop (mkF m 189 #[.val (.int p0), .val (.int p1), .val (.int p2), .val (.int p3), .val (.int p4), .val (.int (gl p0)), .val (.int (gf p1)), .val (.int (gs p2)), .val (.ref b1), .val (.ref b8), .val (.int (1 : Int32)), .val (.int (1 : Int32)), .val (.int (gs p2)), .unset] [(.int (1 : Int32))])) _
        refine XS.istore X25.here hx rfl (hb hby at_189) rfl (l' := #[.val (.int p0), .val (.int p1), .val (.int p2), .val (.int p3), .val (.int p4), .val (.int (gl p0)), .val (.int (gf p1)), .val (.int (gs p2)), .val (.ref b1), .val (.ref b8), .val (.int (1 : Int32)), .val (.int (1 : Int32)), .val (.int (gs p2)), .unset]) rfl ?_
        show Steps p.tables e below (T25.setTop (mkF m 191 #[.val (.int p0), .val (.int p1), .val (.int p2), .val (.int p3), .val (.int p4), .val (.int (gl p0)), .val (.int (gf p1)), .val (.int (gs p2)), .val (.ref b1), .val (.ref b8), .val (.int (1 : Int32)), .val (.int (1 : Int32)), .val (.int (gs p2)), .unset] [])) _
        refine XS.iload X25.here hx rfl (hb hby at_191) rfl ?_
        show Steps p.tables e below (T25.setTop (mkF m 193 #[.val (.int p0), .val (.int p1), .val (.int p2), .val (.int p3), .val (.int p4), .val (.int (gl p0)), .val (.int (gf p1)), .val (.int (gs p2)), .val (.ref b1), .val (.ref b8), .val (.int (1 : Int32)), .val (.int (1 : Int32)), .val (.int (gs p2)), .unset] [(.int (1 : Int32))])) _
        refine XS.ifNo X25.here hx rfl (hb hby at_193) rfl ((if0 _ _).trans (feq (by decide : ¬ ((1 : Int32) = (0 : Int32)))).1) ?_
        show Steps p.tables e below (T25.setTop (mkF m 196 #[.val (.int p0), .val (.int p1), .val (.int p2), .val (.int p3), .val (.int p4), .val (.int (gl p0)), .val (.int (gf p1)), .val (.int (gs p2)), .val (.ref b1), .val (.ref b8), .val (.int (1 : Int32)), .val (.int (1 : Int32)), .val (.int (gs p2)), .unset] [])) _
        refine XS.iload X25.here hx rfl (hb hby at_196) rfl ?_
        show Steps p.tables e below (T25.setTop (mkF m 198 #[.val (.int p0), .val (.int p1), .val (.int p2), .val (.int p3), .val (.int p4), .val (.int (gl p0)), .val (.int (gf p1)), .val (.int (gs p2)), .val (.ref b1), .val (.ref b8), .val (.int (1 : Int32)), .val (.int (1 : Int32)), .val (.int (gs p2)), .unset] [(.int (gs p2))])) _
        refine XS.iconst X25.here hx rfl (hb hby at_198) ?_
        exact kt
      by_cases hc27 : (gs p2) < (2 : Int32)
      · skip
        obtain ⟨cq28, kq28, q28a, q28b, q28c⟩ := isOf hZ e25 (own_bbE B16q)
        obtain ⟨_, _, ⟨T28, L28, k28, n28⟩, -, X28, ⟨Lc28, hQ28, l28, y28, z28⟩, st28⟩ := X25.virtualBack hx (y := (⟨"com/example/benchwire/benchwire/protocols/BoundedBuffer", "add", "(B)Z"⟩ : MethodName)) (z := (⟨"com/example/benchwire/benchwire/protocols/BoundedBuffer", "add", "(B)Z"⟩ : MethodName)) hown (mvT hZ (hw _ (List.mem_of_getElem? (i := 40) rfl))) (mvT hZ (hw _ (List.mem_of_getElem? (i := 41) rfl))) (notFace_of_selects (args := #[]) (mvT hZ (hw _ (List.mem_of_getElem? (i := 43) rfl)))) (mvT hZ (hw _ (List.mem_of_getElem? (i := 43) rfl))) (mvT hZ (hw _ (List.mem_of_getElem? (i := 42) rfl))) (by decide) (backOf (W := 0) (rm8 l Z a0 hw [] b8 (p3.toInt8.toInt32) b1 fs lim (0 + lenS) cap16 f16 T16.heap n0 Z16q B16q) hZ (hw _ (List.mem_of_getElem? (i := 44) rfl)) (hw _ (List.mem_of_getElem? (i := 4) rfl)) (by decide) (by decide)) q28a q28c (g := (mkF m 236 #[.val (.int p0), .val (.int p1), .val (.int p2), .val (.int p3), .val (.int p4), .val (.int (gl p0)), .val (.int (gf p1)), .val (.int (gs p2)), .val (.ref b1), .val (.ref b8), .val (.int (1 : Int32)), .val (.int (1 : Int32)), .val (.int (gs p2)), .unset] [(.int (p3.toInt8.toInt32)), (.ref b8)])) rfl (by rw [hml]; rfl) (Steps.refl _) (argsL := [(.int (p3.toInt8.toInt32))]) (rest := []) (lenOf pd_9 rfl) rfl (by show 2 * 0 + _ ≤ _; exact Nat.le_of_eq rfl) (hb hby at_236) (fun _ _ => ⟨rfl, e25, (by decide : 6 + 1 ≤ _), (by decide : 1837 + 511 ≤ _)⟩)
        dsimp only [Pt.U, Pt.locs, Pt.cells, Pt.slots] at X28 l28 y28 z28 st28 hQ28
        subst l28 y28 z28
        obtain ⟨r28, sz28, cap28, f28, rfl, N28q, Z28q, B28q, hr28⟩ := hQ28
        have N28 := Fr.app N16 N28q
        have K29 : ∀ t, Steps p.tables e below (T28.setTop (mkF m 239 #[.val (.int p0), .val (.int p1), .val (.int p2), .val (.int p3), .val (.int p4), .val (.int (gl p0)), .val (.int (gf p1)), .val (.int (gs p2)), .val (.ref b1), .val (.ref b8), .val (.int (1 : Int32)), .val (.int (1 : Int32)), .val (.int (gs p2)), .unset] [(.int r28)])) t → Steps p.tables e below (s₁.setTop (mkF m 0 #[.val (.int p0), .val (.int p1), .val (.int p2), .val (.int p3), .val (.int p4), .unset, .unset, .unset, .unset, .unset, .unset, .unset, .unset, .unset] [])) t := by
          intro t kt
          refine K26 _ ?_
          show Steps p.tables e below (T25.setTop (mkF m 199 #[.val (.int p0), .val (.int p1), .val (.int p2), .val (.int p3), .val (.int p4), .val (.int (gl p0)), .val (.int (gf p1)), .val (.int (gs p2)), .val (.ref b1), .val (.ref b8), .val (.int (1 : Int32)), .val (.int (1 : Int32)), .val (.int (gs p2)), .unset] [(.int (2 : Int32)), (.int (gs p2))])) _
          refine XS.icmpYes X25.here hx rfl (pc0 := 199) (pc' := 232) rfl (hb hby at_199) rfl (tlt hc27).1 (by decide) (by decide) ?_
          show Steps p.tables e below (T25.setTop (mkF m 232 #[.val (.int p0), .val (.int p1), .val (.int p2), .val (.int p3), .val (.int p4), .val (.int (gl p0)), .val (.int (gf p1)), .val (.int (gs p2)), .val (.ref b1), .val (.ref b8), .val (.int (1 : Int32)), .val (.int (1 : Int32)), .val (.int (gs p2)), .unset] [])) _
          refine XS.aload X25.here hx rfl (hb hby at_232) rfl rfl ?_
          show Steps p.tables e below (T25.setTop (mkF m 234 #[.val (.int p0), .val (.int p1), .val (.int p2), .val (.int p3), .val (.int p4), .val (.int (gl p0)), .val (.int (gf p1)), .val (.int (gs p2)), .val (.ref b1), .val (.ref b8), .val (.int (1 : Int32)), .val (.int (1 : Int32)), .val (.int (gs p2)), .unset] [(.ref b8)])) _
          refine XS.iloadN X25.here hx rfl (hb hby at_234) rfl ?_
          show Steps p.tables e below (T25.setTop (mkF m 235 #[.val (.int p0), .val (.int p1), .val (.int p2), .val (.int p3), .val (.int p4), .val (.int (gl p0)), .val (.int (gf p1)), .val (.int (gs p2)), .val (.ref b1), .val (.ref b8), .val (.int (1 : Int32)), .val (.int (1 : Int32)), .val (.int (gs p2)), .unset] [(.int p3), (.ref b8)])) _
          refine XS.i2b X25.here hx rfl (hb hby at_235) rfl ?_
          show Steps p.tables e below (T25.setTop (mkF m 236 #[.val (.int p0), .val (.int p1), .val (.int p2), .val (.int p3), .val (.int p4), .val (.int (gl p0)), .val (.int (gf p1)), .val (.int (gs p2)), .val (.ref b1), .val (.ref b8), .val (.int (1 : Int32)), .val (.int (1 : Int32)), .val (.int (gs p2)), .unset] [(.int (p3.toInt8.toInt32)), (.ref b8)])) _
          refine st28.trans ?_
          exact kt
        rcases hr28 with ⟨rfl, hnO, rfl⟩ | ⟨rfl, hyO, rfl⟩
        · skip
          obtain ⟨cq30, kq30, q30a, q30b, q30c⟩ := isOf hZ rfl (own_bbE B28q)
          obtain ⟨_, _, ⟨T30, L30, k30, n30⟩, -, X30, ⟨Lc30, hQ30, l30, y30, z30⟩, st30⟩ := X28.virtualBack hx (y := (⟨"com/example/benchwire/benchwire/protocols/BoundedBuffer", "size", "()I"⟩ : MethodName)) (z := (⟨"com/example/benchwire/benchwire/protocols/BoundedBuffer", "size", "()I"⟩ : MethodName)) hown (mvT hZ (hw _ (List.mem_of_getElem? (i := 35) rfl))) (mvT hZ (hw _ (List.mem_of_getElem? (i := 36) rfl))) (notFace_of_selects (args := #[]) (mvT hZ (hw _ (List.mem_of_getElem? (i := 38) rfl)))) (mvT hZ (hw _ (List.mem_of_getElem? (i := 38) rfl))) (mvT hZ (hw _ (List.mem_of_getElem? (i := 37) rfl))) (by decide) (backOf (W := 0) (rm7 l Z a0 hw [] b8 b1 fs lim (0 + lenS) cap28 f28 T28.heap n0 Z28q B28q) hZ (hw _ (List.mem_of_getElem? (i := 39) rfl)) (hw _ (List.mem_of_getElem? (i := 4) rfl)) (by decide) (by decide)) q30a q30c (g := (mkF m 277 #[.val (.int p0), .val (.int p1), .val (.int p2), .val (.int p3), .val (.int p4), .val (.int (gl p0)), .val (.int (gf p1)), .val (.int (gs p2)), .val (.ref b1), .val (.ref b8), .val (.int (1 : Int32)), .val (.int (1 : Int32)), .val (.int (gs p2)), .val (.int (0 : Int32))] [(.ref b8)])) rfl (by rw [hml]; rfl) (Steps.refl _) (argsL := []) (rest := []) (lenOf pd_8 rfl) rfl (by show 2 * 0 + _ ≤ _; exact Nat.le_of_eq rfl) (hb hby at_277) (fun _ _ => ⟨rfl, rfl, (by decide : 7 + 0 ≤ _), (by decide : 2348 + 0 ≤ _)⟩)
          dsimp only [Pt.U, Pt.locs, Pt.cells, Pt.slots] at X30 l30 y30 z30 st30 hQ30
          subst l30 y30 z30
          obtain ⟨r30, rfl, hr30, rfl, e30⟩ := hQ30
          try rw [List.append_nil] at X30
          have K31 : ∀ t, Steps p.tables e below (T30.setTop (mkF m 305 #[.val (.int p0), .val (.int p1), .val (.int p2), .val (.int p3), .val (.int p4), .val (.int (gl p0)), .val (.int (gf p1)), .val (.int (gs p2)), .val (.ref b1), .val (.ref b8), .val (.int (1 : Int32)), .val (.int (1 : Int32)), .val (.int (gs p2)), .val (.int (0 : Int32))] [(.int (1 : Int32))])) t → Steps p.tables e below (s₁.setTop (mkF m 0 #[.val (.int p0), .val (.int p1), .val (.int p2), .val (.int p3), .val (.int p4), .unset, .unset, .unset, .unset, .unset, .unset, .unset, .unset, .unset] [])) t := by
            intro t kt
            refine K29 _ ?_
            show Steps p.tables e below (T28.setTop (mkF m 239 #[.val (.int p0), .val (.int p1), .val (.int p2), .val (.int p3), .val (.int p4), .val (.int (gl p0)), .val (.int (gf p1)), .val (.int (gs p2)), .val (.ref b1), .val (.ref b8), .val (.int (1 : Int32)), .val (.int (1 : Int32)), .val (.int (gs p2)), .unset] [(.int (0 : Int32))])) _
            refine XS.istore X28.here hx rfl (hb hby at_239) rfl (l' := #[.val (.int p0), .val (.int p1), .val (.int p2), .val (.int p3), .val (.int p4), .val (.int (gl p0)), .val (.int (gf p1)), .val (.int (gs p2)), .val (.ref b1), .val (.ref b8), .val (.int (1 : Int32)), .val (.int (1 : Int32)), .val (.int (gs p2)), .val (.int (0 : Int32))]) rfl ?_
            show Steps p.tables e below (T28.setTop (mkF m 241 #[.val (.int p0), .val (.int p1), .val (.int p2), .val (.int p3), .val (.int p4), .val (.int (gl p0)), .val (.int (gf p1)), .val (.int (gs p2)), .val (.ref b1), .val (.ref b8), .val (.int (1 : Int32)), .val (.int (1 : Int32)), .val (.int (gs p2)), .val (.int (0 : Int32))] [])) _
            refine XS.iload X28.here hx rfl (hb hby at_241) rfl ?_
            show Steps p.tables e below (T28.setTop (mkF m 243 #[.val (.int p0), .val (.int p1), .val (.int p2), .val (.int p3), .val (.int p4), .val (.int (gl p0)), .val (.int (gf p1)), .val (.int (gs p2)), .val (.ref b1), .val (.ref b8), .val (.int (1 : Int32)), .val (.int (1 : Int32)), .val (.int (gs p2)), .val (.int (0 : Int32))] [(.int (1 : Int32))])) _
            refine XS.ifNo X28.here hx rfl (hb hby at_243) rfl ((if0 _ _).trans (feq (by decide : ¬ ((1 : Int32) = (0 : Int32)))).1) ?_
            show Steps p.tables e below (T28.setTop (mkF m 246 #[.val (.int p0), .val (.int p1), .val (.int p2), .val (.int p3), .val (.int p4), .val (.int (gl p0)), .val (.int (gf p1)), .val (.int (gs p2)), .val (.ref b1), .val (.ref b8), .val (.int (1 : Int32)), .val (.int (1 : Int32)), .val (.int (gs p2)), .val (.int (0 : Int32))] [])) _
            refine XS.iload X28.here hx rfl (hb hby at_246) rfl ?_
            show Steps p.tables e below (T28.setTop (mkF m 248 #[.val (.int p0), .val (.int p1), .val (.int p2), .val (.int p3), .val (.int p4), .val (.int (gl p0)), .val (.int (gf p1)), .val (.int (gs p2)), .val (.ref b1), .val (.ref b8), .val (.int (1 : Int32)), .val (.int (1 : Int32)), .val (.int (gs p2)), .val (.int (0 : Int32))] [(.int (0 : Int32))])) _
            refine XS.iload X28.here hx rfl (hb hby at_248) rfl ?_
            show Steps p.tables e below (T28.setTop (mkF m 250 #[.val (.int p0), .val (.int p1), .val (.int p2), .val (.int p3), .val (.int p4), .val (.int (gl p0)), .val (.int (gf p1)), .val (.int (gs p2)), .val (.ref b1), .val (.ref b8), .val (.int (1 : Int32)), .val (.int (1 : Int32)), .val (.int (gs p2)), .val (.int (0 : Int32))] [(.int (gs p2)), (.int (0 : Int32))])) _
            refine XS.iload X28.here hx rfl (hb hby at_250) rfl ?_
            show Steps p.tables e below (T28.setTop (mkF m 252 #[.val (.int p0), .val (.int p1), .val (.int p2), .val (.int p3), .val (.int p4), .val (.int (gl p0)), .val (.int (gf p1)), .val (.int (gs p2)), .val (.ref b1), .val (.ref b8), .val (.int (1 : Int32)), .val (.int (1 : Int32)), .val (.int (gs p2)), .val (.int (0 : Int32))] [(.int (gl p0)), (.int (gs p2)), (.int (0 : Int32))])) _
            refine XS.icmpYes X28.here hx rfl (pc0 := 252) (pc' := 259) rfl (hb hby at_252) rfl (flt (show ¬ ((gs p2) < (gl p0)) from (own_nlt hlS hlm (by omega)))).2.1 (by decide) (by decide) ?_
            show Steps p.tables e below (T28.setTop (mkF m 259 #[.val (.int p0), .val (.int p1), .val (.int p2), .val (.int p3), .val (.int p4), .val (.int (gl p0)), .val (.int (gf p1)), .val (.int (gs p2)), .val (.ref b1), .val (.ref b8), .val (.int (1 : Int32)), .val (.int (1 : Int32)), .val (.int (gs p2)), .val (.int (0 : Int32))] [(.int (0 : Int32))])) _
            refine XS.iconst X28.here hx rfl (hb hby at_259) ?_
            show Steps p.tables e below (T28.setTop (mkF m 260 #[.val (.int p0), .val (.int p1), .val (.int p2), .val (.int p3), .val (.int p4), .val (.int (gl p0)), .val (.int (gf p1)), .val (.int (gs p2)), .val (.ref b1), .val (.ref b8), .val (.int (1 : Int32)), .val (.int (1 : Int32)), .val (.int (gs p2)), .val (.int (0 : Int32))] [(.int (0 : Int32)), (.int (0 : Int32))])) _
            refine XS.icmpNo X28.here hx rfl (hb hby at_260) rfl (teq (rfl : (0 : Int32) = (0 : Int32))).2 ?_
            show Steps p.tables e below (T28.setTop (mkF m 263 #[.val (.int p0), .val (.int p1), .val (.int p2), .val (.int p3), .val (.int p4), .val (.int (gl p0)), .val (.int (gf p1)), .val (.int (gs p2)), .val (.ref b1), .val (.ref b8), .val (.int (1 : Int32)), .val (.int (1 : Int32)), .val (.int (gs p2)), .val (.int (0 : Int32))] [])) _
            refine XS.iconst X28.here hx rfl (hb hby at_263) ?_
            show Steps p.tables e below (T28.setTop (mkF m 264 #[.val (.int p0), .val (.int p1), .val (.int p2), .val (.int p3), .val (.int p4), .val (.int (gl p0)), .val (.int (gf p1)), .val (.int (gs p2)), .val (.ref b1), .val (.ref b8), .val (.int (1 : Int32)), .val (.int (1 : Int32)), .val (.int (gs p2)), .val (.int (0 : Int32))] [(.int (1 : Int32))])) _
            refine XS.goto X28.here hx rfl (pc0 := 264) (pc' := 268) rfl (hb hby at_264) (by decide) (by decide) ?_
            show Steps p.tables e below (T28.setTop (mkF m 268 #[.val (.int p0), .val (.int p1), .val (.int p2), .val (.int p3), .val (.int p4), .val (.int (gl p0)), .val (.int (gf p1)), .val (.int (gs p2)), .val (.ref b1), .val (.ref b8), .val (.int (1 : Int32)), .val (.int (1 : Int32)), .val (.int (gs p2)), .val (.int (0 : Int32))] [(.int (1 : Int32))])) _
            refine XS.istore X28.here hx rfl (hb hby at_268) rfl (l' := #[.val (.int p0), .val (.int p1), .val (.int p2), .val (.int p3), .val (.int p4), .val (.int (gl p0)), .val (.int (gf p1)), .val (.int (gs p2)), .val (.ref b1), .val (.ref b8), .val (.int (1 : Int32)), .val (.int (1 : Int32)), .val (.int (gs p2)), .val (.int (0 : Int32))]) rfl ?_
            show Steps p.tables e below (T28.setTop (mkF m 270 #[.val (.int p0), .val (.int p1), .val (.int p2), .val (.int p3), .val (.int p4), .val (.int (gl p0)), .val (.int (gf p1)), .val (.int (gs p2)), .val (.ref b1), .val (.ref b8), .val (.int (1 : Int32)), .val (.int (1 : Int32)), .val (.int (gs p2)), .val (.int (0 : Int32))] [])) _
            refine XS.iload X28.here hx rfl (hb hby at_270) rfl ?_
            show Steps p.tables e below (T28.setTop (mkF m 272 #[.val (.int p0), .val (.int p1), .val (.int p2), .val (.int p3), .val (.int p4), .val (.int (gl p0)), .val (.int (gf p1)), .val (.int (gs p2)), .val (.ref b1), .val (.ref b8), .val (.int (1 : Int32)), .val (.int (1 : Int32)), .val (.int (gs p2)), .val (.int (0 : Int32))] [(.int (1 : Int32))])) _
            refine XS.ifNo X28.here hx rfl (hb hby at_272) rfl ((if0 _ _).trans (feq (by decide : ¬ ((1 : Int32) = (0 : Int32)))).1) ?_
            show Steps p.tables e below (T28.setTop (mkF m 275 #[.val (.int p0), .val (.int p1), .val (.int p2), .val (.int p3), .val (.int p4), .val (.int (gl p0)), .val (.int (gf p1)), .val (.int (gs p2)), .val (.ref b1), .val (.ref b8), .val (.int (1 : Int32)), .val (.int (1 : Int32)), .val (.int (gs p2)), .val (.int (0 : Int32))] [])) _
            refine XS.aload X28.here hx rfl (hb hby at_275) rfl rfl ?_
            show Steps p.tables e below (T28.setTop (mkF m 277 #[.val (.int p0), .val (.int p1), .val (.int p2), .val (.int p3), .val (.int p4), .val (.int (gl p0)), .val (.int (gf p1)), .val (.int (gs p2)), .val (.ref b1), .val (.ref b8), .val (.int (1 : Int32)), .val (.int (1 : Int32)), .val (.int (gs p2)), .val (.int (0 : Int32))] [(.ref b8)])) _
            refine st30.trans ?_
            show Steps p.tables e below (T30.setTop (mkF m 280 #[.val (.int p0), .val (.int p1), .val (.int p2), .val (.int p3), .val (.int p4), .val (.int (gl p0)), .val (.int (gf p1)), .val (.int (gs p2)), .val (.ref b1), .val (.ref b8), .val (.int (1 : Int32)), .val (.int (1 : Int32)), .val (.int (gs p2)), .val (.int (0 : Int32))] [(.int r30)])) _
            refine XS.iload X30.here hx rfl (hb hby at_280) rfl ?_
            show Steps p.tables e below (T30.setTop (mkF m 282 #[.val (.int p0), .val (.int p1), .val (.int p2), .val (.int p3), .val (.int p4), .val (.int (gl p0)), .val (.int (gf p1)), .val (.int (gs p2)), .val (.ref b1), .val (.ref b8), .val (.int (1 : Int32)), .val (.int (1 : Int32)), .val (.int (gs p2)), .val (.int (0 : Int32))] [(.int (gs p2)), (.int r30)])) _
            refine XS.iload X30.here hx rfl (hb hby at_282) rfl ?_
            show Steps p.tables e below (T30.setTop (mkF m 284 #[.val (.int p0), .val (.int p1), .val (.int p2), .val (.int p3), .val (.int p4), .val (.int (gl p0)), .val (.int (gf p1)), .val (.int (gs p2)), .val (.ref b1), .val (.ref b8), .val (.int (1 : Int32)), .val (.int (1 : Int32)), .val (.int (gs p2)), .val (.int (0 : Int32))] [(.int (0 : Int32)), (.int (gs p2)), (.int r30)])) _
            refine XS.ifYes X30.here hx rfl (pc0 := 284) (pc' := 291) rfl (hb hby at_284) rfl ((if0 _ _).trans (teq (rfl : (0 : Int32) = (0 : Int32))).1) (by decide) (by decide) ?_
            show Steps p.tables e below (T30.setTop (mkF m 291 #[.val (.int p0), .val (.int p1), .val (.int p2), .val (.int p3), .val (.int p4), .val (.int (gl p0)), .val (.int (gf p1)), .val (.int (gs p2)), .val (.ref b1), .val (.ref b8), .val (.int (1 : Int32)), .val (.int (1 : Int32)), .val (.int (gs p2)), .val (.int (0 : Int32))] [(.int (gs p2)), (.int r30)])) _
            refine XS.iconst X30.here hx rfl (hb hby at_291) ?_
            show Steps p.tables e below (T30.setTop (mkF m 292 #[.val (.int p0), .val (.int p1), .val (.int p2), .val (.int p3), .val (.int p4), .val (.int (gl p0)), .val (.int (gf p1)), .val (.int (gs p2)), .val (.ref b1), .val (.ref b8), .val (.int (1 : Int32)), .val (.int (1 : Int32)), .val (.int (gs p2)), .val (.int (0 : Int32))] [(.int (0 : Int32)), (.int (gs p2)), (.int r30)])) _
            refine XS.iadd X30.here hx rfl (hb hby at_292) rfl ?_
            show Steps p.tables e below (T30.setTop (mkF m 293 #[.val (.int p0), .val (.int p1), .val (.int p2), .val (.int p3), .val (.int p4), .val (.int (gl p0)), .val (.int (gf p1)), .val (.int (gs p2)), .val (.ref b1), .val (.ref b8), .val (.int (1 : Int32)), .val (.int (1 : Int32)), .val (.int (gs p2)), .val (.int (0 : Int32))] [(.int ((gs p2) + (0 : Int32))), (.int r30)])) _
            refine XS.icmpNo X30.here hx rfl (hb hby at_293) rfl (teq (show r30 = ((gs p2) + (0 : Int32)) from (own_eq0 hr30 (by rw [Int32.add_zero, hlS]; omega)))).2 ?_
            show Steps p.tables e below (T30.setTop (mkF m 296 #[.val (.int p0), .val (.int p1), .val (.int p2), .val (.int p3), .val (.int p4), .val (.int (gl p0)), .val (.int (gf p1)), .val (.int (gs p2)), .val (.ref b1), .val (.ref b8), .val (.int (1 : Int32)), .val (.int (1 : Int32)), .val (.int (gs p2)), .val (.int (0 : Int32))] [])) _
            refine XS.iconst X30.here hx rfl (hb hby at_296) ?_
            show Steps p.tables e below (T30.setTop (mkF m 297 #[.val (.int p0), .val (.int p1), .val (.int p2), .val (.int p3), .val (.int p4), .val (.int (gl p0)), .val (.int (gf p1)), .val (.int (gs p2)), .val (.ref b1), .val (.ref b8), .val (.int (1 : Int32)), .val (.int (1 : Int32)), .val (.int (gs p2)), .val (.int (0 : Int32))] [(.int (1 : Int32))])) _
            refine XS.goto X30.here hx rfl (pc0 := 297) (pc' := 301) rfl (hb hby at_297) (by decide) (by decide) ?_
            show Steps p.tables e below (T30.setTop (mkF m 301 #[.val (.int p0), .val (.int p1), .val (.int p2), .val (.int p3), .val (.int p4), .val (.int (gl p0)), .val (.int (gf p1)), .val (.int (gs p2)), .val (.ref b1), .val (.ref b8), .val (.int (1 : Int32)), .val (.int (1 : Int32)), .val (.int (gs p2)), .val (.int (0 : Int32))] [(.int (1 : Int32))])) _
            refine XS.istore X30.here hx rfl (hb hby at_301) rfl (l' := #[.val (.int p0), .val (.int p1), .val (.int p2), .val (.int p3), .val (.int p4), .val (.int (gl p0)), .val (.int (gf p1)), .val (.int (gs p2)), .val (.ref b1), .val (.ref b8), .val (.int (1 : Int32)), .val (.int (1 : Int32)), .val (.int (gs p2)), .val (.int (0 : Int32))]) rfl ?_
            show Steps p.tables e below (T30.setTop (mkF m 303 #[.val (.int p0), .val (.int p1), .val (.int p2), .val (.int p3), .val (.int p4), .val (.int (gl p0)), .val (.int (gf p1)), .val (.int (gs p2)), .val (.ref b1), .val (.ref b8), .val (.int (1 : Int32)), .val (.int (1 : Int32)), .val (.int (gs p2)), .val (.int (0 : Int32))] [])) _
            refine XS.iload X30.here hx rfl (hb hby at_303) rfl ?_
            exact kt
          obtain ⟨fsQ, hr, hrun, hended, hW, hsame⟩ := X30.leave (v := some (.int (1 : Int32))) (fun h => by rw [Bd.returns] at h; cases h)
          refine ⟨_, _, pre0 _ (K31 _ ?_), hrun, hended, _, _, rfl, ?_, ⟨_, rfl⟩, hW, hsame.mono (by decide) (by decide)⟩
          · show Steps p.tables e below (T30.setTop (mkF m 305 #[.val (.int p0), .val (.int p1), .val (.int p2), .val (.int p3), .val (.int p4), .val (.int (gl p0)), .val (.int (gf p1)), .val (.int (gs p2)), .val (.ref b1), .val (.ref b8), .val (.int (1 : Int32)), .val (.int (1 : Int32)), .val (.int (gs p2)), .val (.int (0 : Int32))] [(.int (1 : Int32))])) _
            exact retN X30 hx (t := .boolean) Bd.returns (by simp) (hb hby at_305) hr
          · show Q0 Z p0 p1 p2 p3 p4  h0 n0 _ T30.heap _
            rw [e30]
            exact ⟨rfl, N28⟩
        · skip
          obtain ⟨cq32, kq32, q32a, q32b, q32c⟩ := isOf hZ rfl (own_bbE B28q)
          obtain ⟨_, _, ⟨T32, L32, k32, n32⟩, -, X32, ⟨Lc32, hQ32, l32, y32, z32⟩, st32⟩ := X28.virtualBack hx (y := (⟨"com/example/benchwire/benchwire/protocols/BoundedBuffer", "size", "()I"⟩ : MethodName)) (z := (⟨"com/example/benchwire/benchwire/protocols/BoundedBuffer", "size", "()I"⟩ : MethodName)) hown (mvT hZ (hw _ (List.mem_of_getElem? (i := 35) rfl))) (mvT hZ (hw _ (List.mem_of_getElem? (i := 36) rfl))) (notFace_of_selects (args := #[]) (mvT hZ (hw _ (List.mem_of_getElem? (i := 38) rfl)))) (mvT hZ (hw _ (List.mem_of_getElem? (i := 38) rfl))) (mvT hZ (hw _ (List.mem_of_getElem? (i := 37) rfl))) (by decide) (backOf (W := 0) (rm7 l Z a0 hw [] b8 b1 fs lim ((0 + lenS) + 1) cap28 f28 T28.heap n0 Z28q B28q) hZ (hw _ (List.mem_of_getElem? (i := 39) rfl)) (hw _ (List.mem_of_getElem? (i := 4) rfl)) (by decide) (by decide)) q32a q32c (g := (mkF m 277 #[.val (.int p0), .val (.int p1), .val (.int p2), .val (.int p3), .val (.int p4), .val (.int (gl p0)), .val (.int (gf p1)), .val (.int (gs p2)), .val (.ref b1), .val (.ref b8), .val (.int (1 : Int32)), .val (.int (1 : Int32)), .val (.int (gs p2)), .val (.int (1 : Int32))] [(.ref b8)])) rfl (by rw [hml]; rfl) (Steps.refl _) (argsL := []) (rest := []) (lenOf pd_8 rfl) rfl (by show 2 * 0 + _ ≤ _; exact Nat.le_of_eq rfl) (hb hby at_277) (fun _ _ => ⟨rfl, rfl, (by decide : 7 + 0 ≤ _), (by decide : 2348 + 0 ≤ _)⟩)
          dsimp only [Pt.U, Pt.locs, Pt.cells, Pt.slots] at X32 l32 y32 z32 st32 hQ32
          subst l32 y32 z32
          obtain ⟨r32, rfl, hr32, rfl, e32⟩ := hQ32
          try rw [List.append_nil] at X32
          have K33 : ∀ t, Steps p.tables e below (T32.setTop (mkF m 305 #[.val (.int p0), .val (.int p1), .val (.int p2), .val (.int p3), .val (.int p4), .val (.int (gl p0)), .val (.int (gf p1)), .val (.int (gs p2)), .val (.ref b1), .val (.ref b8), .val (.int (1 : Int32)), .val (.int (1 : Int32)), .val (.int (gs p2)), .val (.int (1 : Int32))] [(.int (1 : Int32))])) t → Steps p.tables e below (s₁.setTop (mkF m 0 #[.val (.int p0), .val (.int p1), .val (.int p2), .val (.int p3), .val (.int p4), .unset, .unset, .unset, .unset, .unset, .unset, .unset, .unset, .unset] [])) t := by
            intro t kt
            refine K29 _ ?_
            show Steps p.tables e below (T28.setTop (mkF m 239 #[.val (.int p0), .val (.int p1), .val (.int p2), .val (.int p3), .val (.int p4), .val (.int (gl p0)), .val (.int (gf p1)), .val (.int (gs p2)), .val (.ref b1), .val (.ref b8), .val (.int (1 : Int32)), .val (.int (1 : Int32)), .val (.int (gs p2)), .unset] [(.int (1 : Int32))])) _
            refine XS.istore X28.here hx rfl (hb hby at_239) rfl (l' := #[.val (.int p0), .val (.int p1), .val (.int p2), .val (.int p3), .val (.int p4), .val (.int (gl p0)), .val (.int (gf p1)), .val (.int (gs p2)), .val (.ref b1), .val (.ref b8), .val (.int (1 : Int32)), .val (.int (1 : Int32)), .val (.int (gs p2)), .val (.int (1 : Int32))]) rfl ?_
            show Steps p.tables e below (T28.setTop (mkF m 241 #[.val (.int p0), .val (.int p1), .val (.int p2), .val (.int p3), .val (.int p4), .val (.int (gl p0)), .val (.int (gf p1)), .val (.int (gs p2)), .val (.ref b1), .val (.ref b8), .val (.int (1 : Int32)), .val (.int (1 : Int32)), .val (.int (gs p2)), .val (.int (1 : Int32))] [])) _
            refine XS.iload X28.here hx rfl (hb hby at_241) rfl ?_
            show Steps p.tables e below (T28.setTop (mkF m 243 #[.val (.int p0), .val (.int p1), .val (.int p2), .val (.int p3), .val (.int p4), .val (.int (gl p0)), .val (.int (gf p1)), .val (.int (gs p2)), .val (.ref b1), .val (.ref b8), .val (.int (1 : Int32)), .val (.int (1 : Int32)), .val (.int (gs p2)), .val (.int (1 : Int32))] [(.int (1 : Int32))])) _
            refine XS.ifNo X28.here hx rfl (hb hby at_243) rfl ((if0 _ _).trans (feq (by decide : ¬ ((1 : Int32) = (0 : Int32)))).1) ?_
            show Steps p.tables e below (T28.setTop (mkF m 246 #[.val (.int p0), .val (.int p1), .val (.int p2), .val (.int p3), .val (.int p4), .val (.int (gl p0)), .val (.int (gf p1)), .val (.int (gs p2)), .val (.ref b1), .val (.ref b8), .val (.int (1 : Int32)), .val (.int (1 : Int32)), .val (.int (gs p2)), .val (.int (1 : Int32))] [])) _
            refine XS.iload X28.here hx rfl (hb hby at_246) rfl ?_
            show Steps p.tables e below (T28.setTop (mkF m 248 #[.val (.int p0), .val (.int p1), .val (.int p2), .val (.int p3), .val (.int p4), .val (.int (gl p0)), .val (.int (gf p1)), .val (.int (gs p2)), .val (.ref b1), .val (.ref b8), .val (.int (1 : Int32)), .val (.int (1 : Int32)), .val (.int (gs p2)), .val (.int (1 : Int32))] [(.int (1 : Int32))])) _
            refine XS.iload X28.here hx rfl (hb hby at_248) rfl ?_
            show Steps p.tables e below (T28.setTop (mkF m 250 #[.val (.int p0), .val (.int p1), .val (.int p2), .val (.int p3), .val (.int p4), .val (.int (gl p0)), .val (.int (gf p1)), .val (.int (gs p2)), .val (.ref b1), .val (.ref b8), .val (.int (1 : Int32)), .val (.int (1 : Int32)), .val (.int (gs p2)), .val (.int (1 : Int32))] [(.int (gs p2)), (.int (1 : Int32))])) _
            refine XS.iload X28.here hx rfl (hb hby at_250) rfl ?_
            show Steps p.tables e below (T28.setTop (mkF m 252 #[.val (.int p0), .val (.int p1), .val (.int p2), .val (.int p3), .val (.int p4), .val (.int (gl p0)), .val (.int (gf p1)), .val (.int (gs p2)), .val (.ref b1), .val (.ref b8), .val (.int (1 : Int32)), .val (.int (1 : Int32)), .val (.int (gs p2)), .val (.int (1 : Int32))] [(.int (gl p0)), (.int (gs p2)), (.int (1 : Int32))])) _
            refine XS.icmpNo X28.here hx rfl (hb hby at_252) rfl (tlt (show (gs p2) < (gl p0) from (own_lt hlS hlm (by omega)))).2.1 ?_
            show Steps p.tables e below (T28.setTop (mkF m 255 #[.val (.int p0), .val (.int p1), .val (.int p2), .val (.int p3), .val (.int p4), .val (.int (gl p0)), .val (.int (gf p1)), .val (.int (gs p2)), .val (.ref b1), .val (.ref b8), .val (.int (1 : Int32)), .val (.int (1 : Int32)), .val (.int (gs p2)), .val (.int (1 : Int32))] [(.int (1 : Int32))])) _
            refine XS.iconst X28.here hx rfl (hb hby at_255) ?_
            show Steps p.tables e below (T28.setTop (mkF m 256 #[.val (.int p0), .val (.int p1), .val (.int p2), .val (.int p3), .val (.int p4), .val (.int (gl p0)), .val (.int (gf p1)), .val (.int (gs p2)), .val (.ref b1), .val (.ref b8), .val (.int (1 : Int32)), .val (.int (1 : Int32)), .val (.int (gs p2)), .val (.int (1 : Int32))] [(.int (1 : Int32)), (.int (1 : Int32))])) _
            refine XS.goto X28.here hx rfl (pc0 := 256) (pc' := 260) rfl (hb hby at_256) (by decide) (by decide) ?_
            show Steps p.tables e below (T28.setTop (mkF m 260 #[.val (.int p0), .val (.int p1), .val (.int p2), .val (.int p3), .val (.int p4), .val (.int (gl p0)), .val (.int (gf p1)), .val (.int (gs p2)), .val (.ref b1), .val (.ref b8), .val (.int (1 : Int32)), .val (.int (1 : Int32)), .val (.int (gs p2)), .val (.int (1 : Int32))] [(.int (1 : Int32)), (.int (1 : Int32))])) _
            refine XS.icmpNo X28.here hx rfl (hb hby at_260) rfl (teq (rfl : (1 : Int32) = (1 : Int32))).2 ?_
            show Steps p.tables e below (T28.setTop (mkF m 263 #[.val (.int p0), .val (.int p1), .val (.int p2), .val (.int p3), .val (.int p4), .val (.int (gl p0)), .val (.int (gf p1)), .val (.int (gs p2)), .val (.ref b1), .val (.ref b8), .val (.int (1 : Int32)), .val (.int (1 : Int32)), .val (.int (gs p2)), .val (.int (1 : Int32))] [])) _
            refine XS.iconst X28.here hx rfl (hb hby at_263) ?_
            show Steps p.tables e below (T28.setTop (mkF m 264 #[.val (.int p0), .val (.int p1), .val (.int p2), .val (.int p3), .val (.int p4), .val (.int (gl p0)), .val (.int (gf p1)), .val (.int (gs p2)), .val (.ref b1), .val (.ref b8), .val (.int (1 : Int32)), .val (.int (1 : Int32)), .val (.int (gs p2)), .val (.int (1 : Int32))] [(.int (1 : Int32))])) _
            refine XS.goto X28.here hx rfl (pc0 := 264) (pc' := 268) rfl (hb hby at_264) (by decide) (by decide) ?_
            show Steps p.tables e below (T28.setTop (mkF m 268 #[.val (.int p0), .val (.int p1), .val (.int p2), .val (.int p3), .val (.int p4), .val (.int (gl p0)), .val (.int (gf p1)), .val (.int (gs p2)), .val (.ref b1), .val (.ref b8), .val (.int (1 : Int32)), .val (.int (1 : Int32)), .val (.int (gs p2)), .val (.int (1 : Int32))] [(.int (1 : Int32))])) _
            refine XS.istore X28.here hx rfl (hb hby at_268) rfl (l' := #[.val (.int p0), .val (.int p1), .val (.int p2), .val (.int p3), .val (.int p4), .val (.int (gl p0)), .val (.int (gf p1)), .val (.int (gs p2)), .val (.ref b1), .val (.ref b8), .val (.int (1 : Int32)), .val (.int (1 : Int32)), .val (.int (gs p2)), .val (.int (1 : Int32))]) rfl ?_
            show Steps p.tables e below (T28.setTop (mkF m 270 #[.val (.int p0), .val (.int p1), .val (.int p2), .val (.int p3), .val (.int p4), .val (.int (gl p0)), .val (.int (gf p1)), .val (.int (gs p2)), .val (.ref b1), .val (.ref b8), .val (.int (1 : Int32)), .val (.int (1 : Int32)), .val (.int (gs p2)), .val (.int (1 : Int32))] [])) _
            refine XS.iload X28.here hx rfl (hb hby at_270) rfl ?_
            show Steps p.tables e below (T28.setTop (mkF m 272 #[.val (.int p0), .val (.int p1), .val (.int p2), .val (.int p3), .val (.int p4), .val (.int (gl p0)), .val (.int (gf p1)), .val (.int (gs p2)), .val (.ref b1), .val (.ref b8), .val (.int (1 : Int32)), .val (.int (1 : Int32)), .val (.int (gs p2)), .val (.int (1 : Int32))] [(.int (1 : Int32))])) _
            refine XS.ifNo X28.here hx rfl (hb hby at_272) rfl ((if0 _ _).trans (feq (by decide : ¬ ((1 : Int32) = (0 : Int32)))).1) ?_
            show Steps p.tables e below (T28.setTop (mkF m 275 #[.val (.int p0), .val (.int p1), .val (.int p2), .val (.int p3), .val (.int p4), .val (.int (gl p0)), .val (.int (gf p1)), .val (.int (gs p2)), .val (.ref b1), .val (.ref b8), .val (.int (1 : Int32)), .val (.int (1 : Int32)), .val (.int (gs p2)), .val (.int (1 : Int32))] [])) _
            refine XS.aload X28.here hx rfl (hb hby at_275) rfl rfl ?_
            show Steps p.tables e below (T28.setTop (mkF m 277 #[.val (.int p0), .val (.int p1), .val (.int p2), .val (.int p3), .val (.int p4), .val (.int (gl p0)), .val (.int (gf p1)), .val (.int (gs p2)), .val (.ref b1), .val (.ref b8), .val (.int (1 : Int32)), .val (.int (1 : Int32)), .val (.int (gs p2)), .val (.int (1 : Int32))] [(.ref b8)])) _
            refine st32.trans ?_
            show Steps p.tables e below (T32.setTop (mkF m 280 #[.val (.int p0), .val (.int p1), .val (.int p2), .val (.int p3), .val (.int p4), .val (.int (gl p0)), .val (.int (gf p1)), .val (.int (gs p2)), .val (.ref b1), .val (.ref b8), .val (.int (1 : Int32)), .val (.int (1 : Int32)), .val (.int (gs p2)), .val (.int (1 : Int32))] [(.int r32)])) _
            refine XS.iload X32.here hx rfl (hb hby at_280) rfl ?_
            show Steps p.tables e below (T32.setTop (mkF m 282 #[.val (.int p0), .val (.int p1), .val (.int p2), .val (.int p3), .val (.int p4), .val (.int (gl p0)), .val (.int (gf p1)), .val (.int (gs p2)), .val (.ref b1), .val (.ref b8), .val (.int (1 : Int32)), .val (.int (1 : Int32)), .val (.int (gs p2)), .val (.int (1 : Int32))] [(.int (gs p2)), (.int r32)])) _
            refine XS.iload X32.here hx rfl (hb hby at_282) rfl ?_
            show Steps p.tables e below (T32.setTop (mkF m 284 #[.val (.int p0), .val (.int p1), .val (.int p2), .val (.int p3), .val (.int p4), .val (.int (gl p0)), .val (.int (gf p1)), .val (.int (gs p2)), .val (.ref b1), .val (.ref b8), .val (.int (1 : Int32)), .val (.int (1 : Int32)), .val (.int (gs p2)), .val (.int (1 : Int32))] [(.int (1 : Int32)), (.int (gs p2)), (.int r32)])) _
            refine XS.ifNo X32.here hx rfl (hb hby at_284) rfl ((if0 _ _).trans (feq (by decide : ¬ ((1 : Int32) = (0 : Int32)))).1) ?_
            show Steps p.tables e below (T32.setTop (mkF m 287 #[.val (.int p0), .val (.int p1), .val (.int p2), .val (.int p3), .val (.int p4), .val (.int (gl p0)), .val (.int (gf p1)), .val (.int (gs p2)), .val (.ref b1), .val (.ref b8), .val (.int (1 : Int32)), .val (.int (1 : Int32)), .val (.int (gs p2)), .val (.int (1 : Int32))] [(.int (gs p2)), (.int r32)])) _
            refine XS.iconst X32.here hx rfl (hb hby at_287) ?_
            show Steps p.tables e below (T32.setTop (mkF m 288 #[.val (.int p0), .val (.int p1), .val (.int p2), .val (.int p3), .val (.int p4), .val (.int (gl p0)), .val (.int (gf p1)), .val (.int (gs p2)), .val (.ref b1), .val (.ref b8), .val (.int (1 : Int32)), .val (.int (1 : Int32)), .val (.int (gs p2)), .val (.int (1 : Int32))] [(.int (1 : Int32)), (.int (gs p2)), (.int r32)])) _
            refine XS.goto X32.here hx rfl (pc0 := 288) (pc' := 292) rfl (hb hby at_288) (by decide) (by decide) ?_
            show Steps p.tables e below (T32.setTop (mkF m 292 #[.val (.int p0), .val (.int p1), .val (.int p2), .val (.int p3), .val (.int p4), .val (.int (gl p0)), .val (.int (gf p1)), .val (.int (gs p2)), .val (.ref b1), .val (.ref b8), .val (.int (1 : Int32)), .val (.int (1 : Int32)), .val (.int (gs p2)), .val (.int (1 : Int32))] [(.int (1 : Int32)), (.int (gs p2)), (.int r32)])) _
            refine XS.iadd X32.here hx rfl (hb hby at_292) rfl ?_
            show Steps p.tables e below (T32.setTop (mkF m 293 #[.val (.int p0), .val (.int p1), .val (.int p2), .val (.int p3), .val (.int p4), .val (.int (gl p0)), .val (.int (gf p1)), .val (.int (gs p2)), .val (.ref b1), .val (.ref b8), .val (.int (1 : Int32)), .val (.int (1 : Int32)), .val (.int (gs p2)), .val (.int (1 : Int32))] [(.int ((gs p2) + (1 : Int32))), (.int r32)])) _
            refine XS.icmpNo X32.here hx rfl (hb hby at_293) rfl (teq (show r32 = ((gs p2) + (1 : Int32)) from (own_eq0 hr32 (by rw [own_add32 (by rw [hlS]; have : (1 : Int32).toInt = 1 := rfl; omega) (by rw [hlS]; have : (1 : Int32).toInt = 1 := rfl; omega), hlS, show (1 : Int32).toInt = 1 from rfl]; omega)))).2 ?_
            show Steps p.tables e below (T32.setTop (mkF m 296 #[.val (.int p0), .val (.int p1), .val (.int p2), .val (.int p3), .val (.int p4), .val (.int (gl p0)), .val (.int (gf p1)), .val (.int (gs p2)), .val (.ref b1), .val (.ref b8), .val (.int (1 : Int32)), .val (.int (1 : Int32)), .val (.int (gs p2)), .val (.int (1 : Int32))] [])) _
            refine XS.iconst X32.here hx rfl (hb hby at_296) ?_
            show Steps p.tables e below (T32.setTop (mkF m 297 #[.val (.int p0), .val (.int p1), .val (.int p2), .val (.int p3), .val (.int p4), .val (.int (gl p0)), .val (.int (gf p1)), .val (.int (gs p2)), .val (.ref b1), .val (.ref b8), .val (.int (1 : Int32)), .val (.int (1 : Int32)), .val (.int (gs p2)), .val (.int (1 : Int32))] [(.int (1 : Int32))])) _
            refine XS.goto X32.here hx rfl (pc0 := 297) (pc' := 301) rfl (hb hby at_297) (by decide) (by decide) ?_
            show Steps p.tables e below (T32.setTop (mkF m 301 #[.val (.int p0), .val (.int p1), .val (.int p2), .val (.int p3), .val (.int p4), .val (.int (gl p0)), .val (.int (gf p1)), .val (.int (gs p2)), .val (.ref b1), .val (.ref b8), .val (.int (1 : Int32)), .val (.int (1 : Int32)), .val (.int (gs p2)), .val (.int (1 : Int32))] [(.int (1 : Int32))])) _
            refine XS.istore X32.here hx rfl (hb hby at_301) rfl (l' := #[.val (.int p0), .val (.int p1), .val (.int p2), .val (.int p3), .val (.int p4), .val (.int (gl p0)), .val (.int (gf p1)), .val (.int (gs p2)), .val (.ref b1), .val (.ref b8), .val (.int (1 : Int32)), .val (.int (1 : Int32)), .val (.int (gs p2)), .val (.int (1 : Int32))]) rfl ?_
            show Steps p.tables e below (T32.setTop (mkF m 303 #[.val (.int p0), .val (.int p1), .val (.int p2), .val (.int p3), .val (.int p4), .val (.int (gl p0)), .val (.int (gf p1)), .val (.int (gs p2)), .val (.ref b1), .val (.ref b8), .val (.int (1 : Int32)), .val (.int (1 : Int32)), .val (.int (gs p2)), .val (.int (1 : Int32))] [])) _
            refine XS.iload X32.here hx rfl (hb hby at_303) rfl ?_
            exact kt
          obtain ⟨fsQ, hr, hrun, hended, hW, hsame⟩ := X32.leave (v := some (.int (1 : Int32))) (fun h => by rw [Bd.returns] at h; cases h)
          refine ⟨_, _, pre0 _ (K33 _ ?_), hrun, hended, _, _, rfl, ?_, ⟨_, rfl⟩, hW, hsame.mono (by decide) (by decide)⟩
          · show Steps p.tables e below (T32.setTop (mkF m 305 #[.val (.int p0), .val (.int p1), .val (.int p2), .val (.int p3), .val (.int p4), .val (.int (gl p0)), .val (.int (gf p1)), .val (.int (gs p2)), .val (.ref b1), .val (.ref b8), .val (.int (1 : Int32)), .val (.int (1 : Int32)), .val (.int (gs p2)), .val (.int (1 : Int32))] [(.int (1 : Int32))])) _
            exact retN X32 hx (t := .boolean) Bd.returns (by simp) (hb hby at_305) hr
          · show Q0 Z p0 p1 p2 p3 p4  h0 n0 _ T32.heap _
            rw [e32]
            exact ⟨rfl, N28⟩
      · skip
        have hge2 := own_ge2 hc27 hlS
        obtain ⟨cq34, kq34, q34a, q34b, q34c⟩ := isOf hZ e25 (own_bbE B16q)
        obtain ⟨_, _, ⟨T34, L34, k34, n34⟩, -, X34, ⟨Lc34, hQ34, l34, y34, z34⟩, st34⟩ := X25.virtualBack hx (y := (⟨"com/example/benchwire/benchwire/protocols/BoundedBuffer", "get", "(I)B"⟩ : MethodName)) (z := (⟨"com/example/benchwire/benchwire/protocols/BoundedBuffer", "get", "(I)B"⟩ : MethodName)) hown (mvT hZ (hw _ (List.mem_of_getElem? (i := 49) rfl))) (mvT hZ (hw _ (List.mem_of_getElem? (i := 50) rfl))) (notFace_of_selects (args := #[]) (mvT hZ (hw _ (List.mem_of_getElem? (i := 52) rfl)))) (mvT hZ (hw _ (List.mem_of_getElem? (i := 52) rfl))) (mvT hZ (hw _ (List.mem_of_getElem? (i := 51) rfl))) (by decide) (backOf (W := 0) (rm9 l Z a0 hw [] b8 (0 : Int32) b1 fs lim (0 + lenS) cap16 f16 0 T16.heap n0 Z16q B16q rfl (by omega)) hZ (hw _ (List.mem_of_getElem? (i := 53) rfl)) (hw _ (List.mem_of_getElem? (i := 4) rfl)) (by decide) (by decide)) q34a q34c (g := (mkF m 205 #[.val (.int p0), .val (.int p1), .val (.int p2), .val (.int p3), .val (.int p4), .val (.int (gl p0)), .val (.int (gf p1)), .val (.int (gs p2)), .val (.ref b1), .val (.ref b8), .val (.int (1 : Int32)), .val (.int (1 : Int32)), .val (.int (gs p2)), .unset] [(.int (0 : Int32)), (.ref b8)])) rfl (by rw [hml]; rfl) (Steps.refl _) (argsL := [(.int (0 : Int32))]) (rest := []) (lenOf pd_10 rfl) rfl (by show 2 * 0 + _ ≤ _; exact Nat.le_of_eq rfl) (hb hby at_205) (fun _ _ => ⟨rfl, e25, (by decide : 6 + 0 ≤ _), (by decide : 1837 + 0 ≤ _)⟩)
        dsimp only [Pt.U, Pt.locs, Pt.cells, Pt.slots] at X34 l34 y34 z34 st34 hQ34
        subst l34 y34 z34
        obtain ⟨rfl, rfl, e34⟩ := hQ34
        try rw [List.append_nil] at X34
        obtain ⟨cq35, kq35, q35a, q35b, q35c⟩ := isOf hZ e34 (own_bbE B16q)
        obtain ⟨_, _, ⟨T35, L35, k35, n35⟩, -, X35, ⟨Lc35, hQ35, l35, y35, z35⟩, st35⟩ := X34.virtualBack hx (y := (⟨"com/example/benchwire/benchwire/protocols/BoundedBuffer", "get", "(I)B"⟩ : MethodName)) (z := (⟨"com/example/benchwire/benchwire/protocols/BoundedBuffer", "get", "(I)B"⟩ : MethodName)) hown (mvT hZ (hw _ (List.mem_of_getElem? (i := 49) rfl))) (mvT hZ (hw _ (List.mem_of_getElem? (i := 50) rfl))) (notFace_of_selects (args := #[]) (mvT hZ (hw _ (List.mem_of_getElem? (i := 52) rfl)))) (mvT hZ (hw _ (List.mem_of_getElem? (i := 52) rfl))) (mvT hZ (hw _ (List.mem_of_getElem? (i := 51) rfl))) (by decide) (backOf (W := 0) (rm9 l Z a0 hw [] b8 (1 : Int32) b1 fs lim (0 + lenS) cap16 f16 1 T16.heap n0 Z16q B16q rfl (by omega)) hZ (hw _ (List.mem_of_getElem? (i := 53) rfl)) (hw _ (List.mem_of_getElem? (i := 4) rfl)) (by decide) (by decide)) q35a q35c (g := (mkF m 216 #[.val (.int p0), .val (.int p1), .val (.int p2), .val (.int p3), .val (.int p4), .val (.int (gl p0)), .val (.int (gf p1)), .val (.int (gs p2)), .val (.ref b1), .val (.ref b8), .val (.int (1 : Int32)), .val (.int (1 : Int32)), .val (.int (gs p2)), .unset] [(.int (1 : Int32)), (.ref b8)])) rfl (by rw [hml]; rfl) (Steps.refl _) (argsL := [(.int (1 : Int32))]) (rest := []) (lenOf pd_10 rfl) rfl (by show 2 * 0 + _ ≤ _; exact Nat.le_of_eq rfl) (hb hby at_216) (fun _ _ => ⟨rfl, e34, (by decide : 6 + 0 ≤ _), (by decide : 1837 + 0 ≤ _)⟩)
        dsimp only [Pt.U, Pt.locs, Pt.cells, Pt.slots] at X35 l35 y35 z35 st35 hQ35
        subst l35 y35 z35
        obtain ⟨rfl, rfl, e35⟩ := hQ35
        try rw [List.append_nil] at X35
        obtain ⟨cq36, kq36, q36a, q36b, q36c⟩ := isOf hZ e35 (own_bbE B16q)
        obtain ⟨_, _, ⟨T36, L36, k36, n36⟩, -, X36, ⟨Lc36, hQ36, l36, y36, z36⟩, st36⟩ := X35.virtualBack hx (y := (⟨"com/example/benchwire/benchwire/protocols/BoundedBuffer", "add", "(B)Z"⟩ : MethodName)) (z := (⟨"com/example/benchwire/benchwire/protocols/BoundedBuffer", "add", "(B)Z"⟩ : MethodName)) hown (mvT hZ (hw _ (List.mem_of_getElem? (i := 40) rfl))) (mvT hZ (hw _ (List.mem_of_getElem? (i := 41) rfl))) (notFace_of_selects (args := #[]) (mvT hZ (hw _ (List.mem_of_getElem? (i := 43) rfl)))) (mvT hZ (hw _ (List.mem_of_getElem? (i := 43) rfl))) (mvT hZ (hw _ (List.mem_of_getElem? (i := 42) rfl))) (by decide) (backOf (W := 0) (rm8 l Z a0 hw [] b8 (p3.toInt8.toInt32) b1 fs lim (0 + lenS) cap16 f16 T16.heap n0 Z16q B16q) hZ (hw _ (List.mem_of_getElem? (i := 44) rfl)) (hw _ (List.mem_of_getElem? (i := 4) rfl)) (by decide) (by decide)) q36a q36c (g := (mkF m 236 #[.val (.int p0), .val (.int p1), .val (.int p2), .val (.int p3), .val (.int p4), .val (.int (gl p0)), .val (.int (gf p1)), .val (.int (gs p2)), .val (.ref b1), .val (.ref b8), .val (.int (1 : Int32)), .val (.int (1 : Int32)), .val (.int (gs p2)), .unset] [(.int (p3.toInt8.toInt32)), (.ref b8)])) rfl (by rw [hml]; rfl) (Steps.refl _) (argsL := [(.int (p3.toInt8.toInt32))]) (rest := []) (lenOf pd_9 rfl) rfl (by show 2 * 0 + _ ≤ _; exact Nat.le_of_eq rfl) (hb hby at_236) (fun _ _ => ⟨rfl, e35, (by decide : 6 + 1 ≤ _), (by decide : 1837 + 511 ≤ _)⟩)
        dsimp only [Pt.U, Pt.locs, Pt.cells, Pt.slots] at X36 l36 y36 z36 st36 hQ36
        subst l36 y36 z36
        obtain ⟨r36, sz36, cap36, f36, rfl, N36q, Z36q, B36q, hr36⟩ := hQ36
        have N36 := Fr.app N16 N36q
        have K37 : ∀ t, Steps p.tables e below (T36.setTop (mkF m 239 #[.val (.int p0), .val (.int p1), .val (.int p2), .val (.int p3), .val (.int p4), .val (.int (gl p0)), .val (.int (gf p1)), .val (.int (gs p2)), .val (.ref b1), .val (.ref b8), .val (.int (1 : Int32)), .val (.int (1 : Int32)), .val (.int (gs p2)), .unset] [(.int r36)])) t → Steps p.tables e below (s₁.setTop (mkF m 0 #[.val (.int p0), .val (.int p1), .val (.int p2), .val (.int p3), .val (.int p4), .unset, .unset, .unset, .unset, .unset, .unset, .unset, .unset, .unset] [])) t := by
          intro t kt
          refine K26 _ ?_
          show Steps p.tables e below (T25.setTop (mkF m 199 #[.val (.int p0), .val (.int p1), .val (.int p2), .val (.int p3), .val (.int p4), .val (.int (gl p0)), .val (.int (gf p1)), .val (.int (gs p2)), .val (.ref b1), .val (.ref b8), .val (.int (1 : Int32)), .val (.int (1 : Int32)), .val (.int (gs p2)), .unset] [(.int (2 : Int32)), (.int (gs p2))])) _
          refine XS.icmpNo X25.here hx rfl (hb hby at_199) rfl (flt hc27).1 ?_
          show Steps p.tables e below (T25.setTop (mkF m 202 #[.val (.int p0), .val (.int p1), .val (.int p2), .val (.int p3), .val (.int p4), .val (.int (gl p0)), .val (.int (gf p1)), .val (.int (gs p2)), .val (.ref b1), .val (.ref b8), .val (.int (1 : Int32)), .val (.int (1 : Int32)), .val (.int (gs p2)), .unset] [])) _
          refine XS.aload X25.here hx rfl (hb hby at_202) rfl rfl ?_
          show Steps p.tables e below (T25.setTop (mkF m 204 #[.val (.int p0), .val (.int p1), .val (.int p2), .val (.int p3), .val (.int p4), .val (.int (gl p0)), .val (.int (gf p1)), .val (.int (gs p2)), .val (.ref b1), .val (.ref b8), .val (.int (1 : Int32)), .val (.int (1 : Int32)), .val (.int (gs p2)), .unset] [(.ref b8)])) _
          refine XS.iconst X25.here hx rfl (hb hby at_204) ?_
          show Steps p.tables e below (T25.setTop (mkF m 205 #[.val (.int p0), .val (.int p1), .val (.int p2), .val (.int p3), .val (.int p4), .val (.int (gl p0)), .val (.int (gf p1)), .val (.int (gs p2)), .val (.ref b1), .val (.ref b8), .val (.int (1 : Int32)), .val (.int (1 : Int32)), .val (.int (gs p2)), .unset] [(.int (0 : Int32)), (.ref b8)])) _
          refine st34.trans ?_
          show Steps p.tables e below (T34.setTop (mkF m 208 #[.val (.int p0), .val (.int p1), .val (.int p2), .val (.int p3), .val (.int p4), .val (.int (gl p0)), .val (.int (gf p1)), .val (.int (gs p2)), .val (.ref b1), .val (.ref b8), .val (.int (1 : Int32)), .val (.int (1 : Int32)), .val (.int (gs p2)), .unset] [(.int (nar .byte (f16 0)))])) _
          refine XS.iloadN X34.here hx rfl (hb hby at_208) rfl ?_
          show Steps p.tables e below (T34.setTop (mkF m 209 #[.val (.int p0), .val (.int p1), .val (.int p2), .val (.int p3), .val (.int p4), .val (.int (gl p0)), .val (.int (gf p1)), .val (.int (gs p2)), .val (.ref b1), .val (.ref b8), .val (.int (1 : Int32)), .val (.int (1 : Int32)), .val (.int (gs p2)), .unset] [(.int p3), (.int (nar .byte (f16 0)))])) _
          refine XS.i2b X34.here hx rfl (hb hby at_209) rfl ?_
          show Steps p.tables e below (T34.setTop (mkF m 210 #[.val (.int p0), .val (.int p1), .val (.int p2), .val (.int p3), .val (.int p4), .val (.int (gl p0)), .val (.int (gf p1)), .val (.int (gs p2)), .val (.ref b1), .val (.ref b8), .val (.int (1 : Int32)), .val (.int (1 : Int32)), .val (.int (gs p2)), .unset] [(.int (p3.toInt8.toInt32)), (.int (nar .byte (f16 0)))])) _
          refine XS.icmpNo X34.here hx rfl (hb hby at_210) rfl (teq (show (nar .byte (f16 0)) = (p3.toInt8.toInt32) from (by rw [hcS rfl 0 (by omega), fs0]; exact own_nn _))).2 ?_
          show Steps p.tables e below (T34.setTop (mkF m 213 #[.val (.int p0), .val (.int p1), .val (.int p2), .val (.int p3), .val (.int p4), .val (.int (gl p0)), .val (.int (gf p1)), .val (.int (gs p2)), .val (.ref b1), .val (.ref b8), .val (.int (1 : Int32)), .val (.int (1 : Int32)), .val (.int (gs p2)), .unset] [])) _
          refine XS.aload X34.here hx rfl (hb hby at_213) rfl rfl ?_
          show Steps p.tables e below (T34.setTop (mkF m 215 #[.val (.int p0), .val (.int p1), .val (.int p2), .val (.int p3), .val (.int p4), .val (.int (gl p0)), .val (.int (gf p1)), .val (.int (gs p2)), .val (.ref b1), .val (.ref b8), .val (.int (1 : Int32)), .val (.int (1 : Int32)), .val (.int (gs p2)), .unset] [(.ref b8)])) _
          refine XS.iconst X34.here hx rfl (hb hby at_215) ?_
          show Steps p.tables e below (T34.setTop (mkF m 216 #[.val (.int p0), .val (.int p1), .val (.int p2), .val (.int p3), .val (.int p4), .val (.int (gl p0)), .val (.int (gf p1)), .val (.int (gs p2)), .val (.ref b1), .val (.ref b8), .val (.int (1 : Int32)), .val (.int (1 : Int32)), .val (.int (gs p2)), .unset] [(.int (1 : Int32)), (.ref b8)])) _
          refine st35.trans ?_
          show Steps p.tables e below (T35.setTop (mkF m 219 #[.val (.int p0), .val (.int p1), .val (.int p2), .val (.int p3), .val (.int p4), .val (.int (gl p0)), .val (.int (gf p1)), .val (.int (gs p2)), .val (.ref b1), .val (.ref b8), .val (.int (1 : Int32)), .val (.int (1 : Int32)), .val (.int (gs p2)), .unset] [(.int (nar .byte (f16 1)))])) _
          refine XS.iload X35.here hx rfl (hb hby at_219) rfl ?_
          show Steps p.tables e below (T35.setTop (mkF m 221 #[.val (.int p0), .val (.int p1), .val (.int p2), .val (.int p3), .val (.int p4), .val (.int (gl p0)), .val (.int (gf p1)), .val (.int (gs p2)), .val (.ref b1), .val (.ref b8), .val (.int (1 : Int32)), .val (.int (1 : Int32)), .val (.int (gs p2)), .unset] [(.int p4), (.int (nar .byte (f16 1)))])) _
          refine XS.i2b X35.here hx rfl (hb hby at_221) rfl ?_
          show Steps p.tables e below (T35.setTop (mkF m 222 #[.val (.int p0), .val (.int p1), .val (.int p2), .val (.int p3), .val (.int p4), .val (.int (gl p0)), .val (.int (gf p1)), .val (.int (gs p2)), .val (.ref b1), .val (.ref b8), .val (.int (1 : Int32)), .val (.int (1 : Int32)), .val (.int (gs p2)), .unset] [(.int (p4.toInt8.toInt32)), (.int (nar .byte (f16 1)))])) _
          refine XS.icmpNo X35.here hx rfl (hb hby at_222) rfl (teq (show (nar .byte (f16 1)) = (p4.toInt8.toInt32) from (by rw [hcS rfl 1 (by omega), fs1]; exact own_nn _))).2 ?_
          show Steps p.tables e below (T35.setTop (mkF m 225 #[.val (.int p0), .val (.int p1), .val (.int p2), .val (.int p3), .val (.int p4), .val (.int (gl p0)), .val (.int (gf p1)), .val (.int (gs p2)), .val (.ref b1), .val (.ref b8), .val (.int (1 : Int32)), .val (.int (1 : Int32)), .val (.int (gs p2)), .unset] [])) _
          refine XS.iconst X35.here hx rfl (hb hby at_225) ?_
          show Steps p.tables e below (T35.setTop (mkF m 226 #[.val (.int p0), .val (.int p1), .val (.int p2), .val (.int p3), .val (.int p4), .val (.int (gl p0)), .val (.int (gf p1)), .val (.int (gs p2)), .val (.ref b1), .val (.ref b8), .val (.int (1 : Int32)), .val (.int (1 : Int32)), .val (.int (gs p2)), .unset] [(.int (1 : Int32))])) _
          refine XS.goto X35.here hx rfl (pc0 := 226) (pc' := 230) rfl (hb hby at_226) (by decide) (by decide) ?_
          show Steps p.tables e below (T35.setTop (mkF m 230 #[.val (.int p0), .val (.int p1), .val (.int p2), .val (.int p3), .val (.int p4), .val (.int (gl p0)), .val (.int (gf p1)), .val (.int (gs p2)), .val (.ref b1), .val (.ref b8), .val (.int (1 : Int32)), .val (.int (1 : Int32)), .val (.int (gs p2)), .unset] [(.int (1 : Int32))])) _
          refine XS.istore X35.here hx rfl (hb hby at_230) rfl (l' := #[.val (.int p0), .val (.int p1), .val (.int p2), .val (.int p3), .val (.int p4), .val (.int (gl p0)), .val (.int (gf p1)), .val (.int (gs p2)), .val (.ref b1), .val (.ref b8), .val (.int (1 : Int32)), .val (.int (1 : Int32)), .val (.int (gs p2)), .unset]) rfl ?_
          show Steps p.tables e below (T35.setTop (mkF m 232 #[.val (.int p0), .val (.int p1), .val (.int p2), .val (.int p3), .val (.int p4), .val (.int (gl p0)), .val (.int (gf p1)), .val (.int (gs p2)), .val (.ref b1), .val (.ref b8), .val (.int (1 : Int32)), .val (.int (1 : Int32)), .val (.int (gs p2)), .unset] [])) _
          refine XS.aload X35.here hx rfl (hb hby at_232) rfl rfl ?_
          show Steps p.tables e below (T35.setTop (mkF m 234 #[.val (.int p0), .val (.int p1), .val (.int p2), .val (.int p3), .val (.int p4), .val (.int (gl p0)), .val (.int (gf p1)), .val (.int (gs p2)), .val (.ref b1), .val (.ref b8), .val (.int (1 : Int32)), .val (.int (1 : Int32)), .val (.int (gs p2)), .unset] [(.ref b8)])) _
          refine XS.iloadN X35.here hx rfl (hb hby at_234) rfl ?_
          show Steps p.tables e below (T35.setTop (mkF m 235 #[.val (.int p0), .val (.int p1), .val (.int p2), .val (.int p3), .val (.int p4), .val (.int (gl p0)), .val (.int (gf p1)), .val (.int (gs p2)), .val (.ref b1), .val (.ref b8), .val (.int (1 : Int32)), .val (.int (1 : Int32)), .val (.int (gs p2)), .unset] [(.int p3), (.ref b8)])) _
          refine XS.i2b X35.here hx rfl (hb hby at_235) rfl ?_
          show Steps p.tables e below (T35.setTop (mkF m 236 #[.val (.int p0), .val (.int p1), .val (.int p2), .val (.int p3), .val (.int p4), .val (.int (gl p0)), .val (.int (gf p1)), .val (.int (gs p2)), .val (.ref b1), .val (.ref b8), .val (.int (1 : Int32)), .val (.int (1 : Int32)), .val (.int (gs p2)), .unset] [(.int (p3.toInt8.toInt32)), (.ref b8)])) _
          refine st36.trans ?_
          exact kt
        rcases hr36 with ⟨rfl, hnO, rfl⟩ | ⟨rfl, hyO, rfl⟩
        · skip
          obtain ⟨cq38, kq38, q38a, q38b, q38c⟩ := isOf hZ rfl (own_bbE B36q)
          obtain ⟨_, _, ⟨T38, L38, k38, n38⟩, -, X38, ⟨Lc38, hQ38, l38, y38, z38⟩, st38⟩ := X36.virtualBack hx (y := (⟨"com/example/benchwire/benchwire/protocols/BoundedBuffer", "size", "()I"⟩ : MethodName)) (z := (⟨"com/example/benchwire/benchwire/protocols/BoundedBuffer", "size", "()I"⟩ : MethodName)) hown (mvT hZ (hw _ (List.mem_of_getElem? (i := 35) rfl))) (mvT hZ (hw _ (List.mem_of_getElem? (i := 36) rfl))) (notFace_of_selects (args := #[]) (mvT hZ (hw _ (List.mem_of_getElem? (i := 38) rfl)))) (mvT hZ (hw _ (List.mem_of_getElem? (i := 38) rfl))) (mvT hZ (hw _ (List.mem_of_getElem? (i := 37) rfl))) (by decide) (backOf (W := 0) (rm7 l Z a0 hw [] b8 b1 fs lim (0 + lenS) cap36 f36 T36.heap n0 Z36q B36q) hZ (hw _ (List.mem_of_getElem? (i := 39) rfl)) (hw _ (List.mem_of_getElem? (i := 4) rfl)) (by decide) (by decide)) q38a q38c (g := (mkF m 277 #[.val (.int p0), .val (.int p1), .val (.int p2), .val (.int p3), .val (.int p4), .val (.int (gl p0)), .val (.int (gf p1)), .val (.int (gs p2)), .val (.ref b1), .val (.ref b8), .val (.int (1 : Int32)), .val (.int (1 : Int32)), .val (.int (gs p2)), .val (.int (0 : Int32))] [(.ref b8)])) rfl (by rw [hml]; rfl) (Steps.refl _) (argsL := []) (rest := []) (lenOf pd_8 rfl) rfl (by show 2 * 0 + _ ≤ _; exact Nat.le_of_eq rfl) (hb hby at_277) (fun _ _ => ⟨rfl, rfl, (by decide : 7 + 0 ≤ _), (by decide : 2348 + 0 ≤ _)⟩)
          dsimp only [Pt.U, Pt.locs, Pt.cells, Pt.slots] at X38 l38 y38 z38 st38 hQ38
          subst l38 y38 z38
          obtain ⟨r38, rfl, hr38, rfl, e38⟩ := hQ38
          try rw [List.append_nil] at X38
          have K39 : ∀ t, Steps p.tables e below (T38.setTop (mkF m 305 #[.val (.int p0), .val (.int p1), .val (.int p2), .val (.int p3), .val (.int p4), .val (.int (gl p0)), .val (.int (gf p1)), .val (.int (gs p2)), .val (.ref b1), .val (.ref b8), .val (.int (1 : Int32)), .val (.int (1 : Int32)), .val (.int (gs p2)), .val (.int (0 : Int32))] [(.int (1 : Int32))])) t → Steps p.tables e below (s₁.setTop (mkF m 0 #[.val (.int p0), .val (.int p1), .val (.int p2), .val (.int p3), .val (.int p4), .unset, .unset, .unset, .unset, .unset, .unset, .unset, .unset, .unset] [])) t := by
            intro t kt
            refine K37 _ ?_
            show Steps p.tables e below (T36.setTop (mkF m 239 #[.val (.int p0), .val (.int p1), .val (.int p2), .val (.int p3), .val (.int p4), .val (.int (gl p0)), .val (.int (gf p1)), .val (.int (gs p2)), .val (.ref b1), .val (.ref b8), .val (.int (1 : Int32)), .val (.int (1 : Int32)), .val (.int (gs p2)), .unset] [(.int (0 : Int32))])) _
            refine XS.istore X36.here hx rfl (hb hby at_239) rfl (l' := #[.val (.int p0), .val (.int p1), .val (.int p2), .val (.int p3), .val (.int p4), .val (.int (gl p0)), .val (.int (gf p1)), .val (.int (gs p2)), .val (.ref b1), .val (.ref b8), .val (.int (1 : Int32)), .val (.int (1 : Int32)), .val (.int (gs p2)), .val (.int (0 : Int32))]) rfl ?_
            show Steps p.tables e below (T36.setTop (mkF m 241 #[.val (.int p0), .val (.int p1), .val (.int p2), .val (.int p3), .val (.int p4), .val (.int (gl p0)), .val (.int (gf p1)), .val (.int (gs p2)), .val (.ref b1), .val (.ref b8), .val (.int (1 : Int32)), .val (.int (1 : Int32)), .val (.int (gs p2)), .val (.int (0 : Int32))] [])) _
            refine XS.iload X36.here hx rfl (hb hby at_241) rfl ?_
            show Steps p.tables e below (T36.setTop (mkF m 243 #[.val (.int p0), .val (.int p1), .val (.int p2), .val (.int p3), .val (.int p4), .val (.int (gl p0)), .val (.int (gf p1)), .val (.int (gs p2)), .val (.ref b1), .val (.ref b8), .val (.int (1 : Int32)), .val (.int (1 : Int32)), .val (.int (gs p2)), .val (.int (0 : Int32))] [(.int (1 : Int32))])) _
            refine XS.ifNo X36.here hx rfl (hb hby at_243) rfl ((if0 _ _).trans (feq (by decide : ¬ ((1 : Int32) = (0 : Int32)))).1) ?_
            show Steps p.tables e below (T36.setTop (mkF m 246 #[.val (.int p0), .val (.int p1), .val (.int p2), .val (.int p3), .val (.int p4), .val (.int (gl p0)), .val (.int (gf p1)), .val (.int (gs p2)), .val (.ref b1), .val (.ref b8), .val (.int (1 : Int32)), .val (.int (1 : Int32)), .val (.int (gs p2)), .val (.int (0 : Int32))] [])) _
            refine XS.iload X36.here hx rfl (hb hby at_246) rfl ?_
            show Steps p.tables e below (T36.setTop (mkF m 248 #[.val (.int p0), .val (.int p1), .val (.int p2), .val (.int p3), .val (.int p4), .val (.int (gl p0)), .val (.int (gf p1)), .val (.int (gs p2)), .val (.ref b1), .val (.ref b8), .val (.int (1 : Int32)), .val (.int (1 : Int32)), .val (.int (gs p2)), .val (.int (0 : Int32))] [(.int (0 : Int32))])) _
            refine XS.iload X36.here hx rfl (hb hby at_248) rfl ?_
            show Steps p.tables e below (T36.setTop (mkF m 250 #[.val (.int p0), .val (.int p1), .val (.int p2), .val (.int p3), .val (.int p4), .val (.int (gl p0)), .val (.int (gf p1)), .val (.int (gs p2)), .val (.ref b1), .val (.ref b8), .val (.int (1 : Int32)), .val (.int (1 : Int32)), .val (.int (gs p2)), .val (.int (0 : Int32))] [(.int (gs p2)), (.int (0 : Int32))])) _
            refine XS.iload X36.here hx rfl (hb hby at_250) rfl ?_
            show Steps p.tables e below (T36.setTop (mkF m 252 #[.val (.int p0), .val (.int p1), .val (.int p2), .val (.int p3), .val (.int p4), .val (.int (gl p0)), .val (.int (gf p1)), .val (.int (gs p2)), .val (.ref b1), .val (.ref b8), .val (.int (1 : Int32)), .val (.int (1 : Int32)), .val (.int (gs p2)), .val (.int (0 : Int32))] [(.int (gl p0)), (.int (gs p2)), (.int (0 : Int32))])) _
            refine XS.icmpYes X36.here hx rfl (pc0 := 252) (pc' := 259) rfl (hb hby at_252) rfl (flt (show ¬ ((gs p2) < (gl p0)) from (own_nlt hlS hlm (by omega)))).2.1 (by decide) (by decide) ?_
            show Steps p.tables e below (T36.setTop (mkF m 259 #[.val (.int p0), .val (.int p1), .val (.int p2), .val (.int p3), .val (.int p4), .val (.int (gl p0)), .val (.int (gf p1)), .val (.int (gs p2)), .val (.ref b1), .val (.ref b8), .val (.int (1 : Int32)), .val (.int (1 : Int32)), .val (.int (gs p2)), .val (.int (0 : Int32))] [(.int (0 : Int32))])) _
            refine XS.iconst X36.here hx rfl (hb hby at_259) ?_
            show Steps p.tables e below (T36.setTop (mkF m 260 #[.val (.int p0), .val (.int p1), .val (.int p2), .val (.int p3), .val (.int p4), .val (.int (gl p0)), .val (.int (gf p1)), .val (.int (gs p2)), .val (.ref b1), .val (.ref b8), .val (.int (1 : Int32)), .val (.int (1 : Int32)), .val (.int (gs p2)), .val (.int (0 : Int32))] [(.int (0 : Int32)), (.int (0 : Int32))])) _
            refine XS.icmpNo X36.here hx rfl (hb hby at_260) rfl (teq (rfl : (0 : Int32) = (0 : Int32))).2 ?_
            show Steps p.tables e below (T36.setTop (mkF m 263 #[.val (.int p0), .val (.int p1), .val (.int p2), .val (.int p3), .val (.int p4), .val (.int (gl p0)), .val (.int (gf p1)), .val (.int (gs p2)), .val (.ref b1), .val (.ref b8), .val (.int (1 : Int32)), .val (.int (1 : Int32)), .val (.int (gs p2)), .val (.int (0 : Int32))] [])) _
            refine XS.iconst X36.here hx rfl (hb hby at_263) ?_
            show Steps p.tables e below (T36.setTop (mkF m 264 #[.val (.int p0), .val (.int p1), .val (.int p2), .val (.int p3), .val (.int p4), .val (.int (gl p0)), .val (.int (gf p1)), .val (.int (gs p2)), .val (.ref b1), .val (.ref b8), .val (.int (1 : Int32)), .val (.int (1 : Int32)), .val (.int (gs p2)), .val (.int (0 : Int32))] [(.int (1 : Int32))])) _
            refine XS.goto X36.here hx rfl (pc0 := 264) (pc' := 268) rfl (hb hby at_264) (by decide) (by decide) ?_
            show Steps p.tables e below (T36.setTop (mkF m 268 #[.val (.int p0), .val (.int p1), .val (.int p2), .val (.int p3), .val (.int p4), .val (.int (gl p0)), .val (.int (gf p1)), .val (.int (gs p2)), .val (.ref b1), .val (.ref b8), .val (.int (1 : Int32)), .val (.int (1 : Int32)), .val (.int (gs p2)), .val (.int (0 : Int32))] [(.int (1 : Int32))])) _
            refine XS.istore X36.here hx rfl (hb hby at_268) rfl (l' := #[.val (.int p0), .val (.int p1), .val (.int p2), .val (.int p3), .val (.int p4), .val (.int (gl p0)), .val (.int (gf p1)), .val (.int (gs p2)), .val (.ref b1), .val (.ref b8), .val (.int (1 : Int32)), .val (.int (1 : Int32)), .val (.int (gs p2)), .val (.int (0 : Int32))]) rfl ?_
            show Steps p.tables e below (T36.setTop (mkF m 270 #[.val (.int p0), .val (.int p1), .val (.int p2), .val (.int p3), .val (.int p4), .val (.int (gl p0)), .val (.int (gf p1)), .val (.int (gs p2)), .val (.ref b1), .val (.ref b8), .val (.int (1 : Int32)), .val (.int (1 : Int32)), .val (.int (gs p2)), .val (.int (0 : Int32))] [])) _
            refine XS.iload X36.here hx rfl (hb hby at_270) rfl ?_
            show Steps p.tables e below (T36.setTop (mkF m 272 #[.val (.int p0), .val (.int p1), .val (.int p2), .val (.int p3), .val (.int p4), .val (.int (gl p0)), .val (.int (gf p1)), .val (.int (gs p2)), .val (.ref b1), .val (.ref b8), .val (.int (1 : Int32)), .val (.int (1 : Int32)), .val (.int (gs p2)), .val (.int (0 : Int32))] [(.int (1 : Int32))])) _
            refine XS.ifNo X36.here hx rfl (hb hby at_272) rfl ((if0 _ _).trans (feq (by decide : ¬ ((1 : Int32) = (0 : Int32)))).1) ?_
            show Steps p.tables e below (T36.setTop (mkF m 275 #[.val (.int p0), .val (.int p1), .val (.int p2), .val (.int p3), .val (.int p4), .val (.int (gl p0)), .val (.int (gf p1)), .val (.int (gs p2)), .val (.ref b1), .val (.ref b8), .val (.int (1 : Int32)), .val (.int (1 : Int32)), .val (.int (gs p2)), .val (.int (0 : Int32))] [])) _
            refine XS.aload X36.here hx rfl (hb hby at_275) rfl rfl ?_
            show Steps p.tables e below (T36.setTop (mkF m 277 #[.val (.int p0), .val (.int p1), .val (.int p2), .val (.int p3), .val (.int p4), .val (.int (gl p0)), .val (.int (gf p1)), .val (.int (gs p2)), .val (.ref b1), .val (.ref b8), .val (.int (1 : Int32)), .val (.int (1 : Int32)), .val (.int (gs p2)), .val (.int (0 : Int32))] [(.ref b8)])) _
            refine st38.trans ?_
            show Steps p.tables e below (T38.setTop (mkF m 280 #[.val (.int p0), .val (.int p1), .val (.int p2), .val (.int p3), .val (.int p4), .val (.int (gl p0)), .val (.int (gf p1)), .val (.int (gs p2)), .val (.ref b1), .val (.ref b8), .val (.int (1 : Int32)), .val (.int (1 : Int32)), .val (.int (gs p2)), .val (.int (0 : Int32))] [(.int r38)])) _
            refine XS.iload X38.here hx rfl (hb hby at_280) rfl ?_
            show Steps p.tables e below (T38.setTop (mkF m 282 #[.val (.int p0), .val (.int p1), .val (.int p2), .val (.int p3), .val (.int p4), .val (.int (gl p0)), .val (.int (gf p1)), .val (.int (gs p2)), .val (.ref b1), .val (.ref b8), .val (.int (1 : Int32)), .val (.int (1 : Int32)), .val (.int (gs p2)), .val (.int (0 : Int32))] [(.int (gs p2)), (.int r38)])) _
            refine XS.iload X38.here hx rfl (hb hby at_282) rfl ?_
            show Steps p.tables e below (T38.setTop (mkF m 284 #[.val (.int p0), .val (.int p1), .val (.int p2), .val (.int p3), .val (.int p4), .val (.int (gl p0)), .val (.int (gf p1)), .val (.int (gs p2)), .val (.ref b1), .val (.ref b8), .val (.int (1 : Int32)), .val (.int (1 : Int32)), .val (.int (gs p2)), .val (.int (0 : Int32))] [(.int (0 : Int32)), (.int (gs p2)), (.int r38)])) _
            refine XS.ifYes X38.here hx rfl (pc0 := 284) (pc' := 291) rfl (hb hby at_284) rfl ((if0 _ _).trans (teq (rfl : (0 : Int32) = (0 : Int32))).1) (by decide) (by decide) ?_
            show Steps p.tables e below (T38.setTop (mkF m 291 #[.val (.int p0), .val (.int p1), .val (.int p2), .val (.int p3), .val (.int p4), .val (.int (gl p0)), .val (.int (gf p1)), .val (.int (gs p2)), .val (.ref b1), .val (.ref b8), .val (.int (1 : Int32)), .val (.int (1 : Int32)), .val (.int (gs p2)), .val (.int (0 : Int32))] [(.int (gs p2)), (.int r38)])) _
            refine XS.iconst X38.here hx rfl (hb hby at_291) ?_
            show Steps p.tables e below (T38.setTop (mkF m 292 #[.val (.int p0), .val (.int p1), .val (.int p2), .val (.int p3), .val (.int p4), .val (.int (gl p0)), .val (.int (gf p1)), .val (.int (gs p2)), .val (.ref b1), .val (.ref b8), .val (.int (1 : Int32)), .val (.int (1 : Int32)), .val (.int (gs p2)), .val (.int (0 : Int32))] [(.int (0 : Int32)), (.int (gs p2)), (.int r38)])) _
            refine XS.iadd X38.here hx rfl (hb hby at_292) rfl ?_
            show Steps p.tables e below (T38.setTop (mkF m 293 #[.val (.int p0), .val (.int p1), .val (.int p2), .val (.int p3), .val (.int p4), .val (.int (gl p0)), .val (.int (gf p1)), .val (.int (gs p2)), .val (.ref b1), .val (.ref b8), .val (.int (1 : Int32)), .val (.int (1 : Int32)), .val (.int (gs p2)), .val (.int (0 : Int32))] [(.int ((gs p2) + (0 : Int32))), (.int r38)])) _
            refine XS.icmpNo X38.here hx rfl (hb hby at_293) rfl (teq (show r38 = ((gs p2) + (0 : Int32)) from (own_eq0 hr38 (by rw [Int32.add_zero, hlS]; omega)))).2 ?_
            show Steps p.tables e below (T38.setTop (mkF m 296 #[.val (.int p0), .val (.int p1), .val (.int p2), .val (.int p3), .val (.int p4), .val (.int (gl p0)), .val (.int (gf p1)), .val (.int (gs p2)), .val (.ref b1), .val (.ref b8), .val (.int (1 : Int32)), .val (.int (1 : Int32)), .val (.int (gs p2)), .val (.int (0 : Int32))] [])) _
            refine XS.iconst X38.here hx rfl (hb hby at_296) ?_
            show Steps p.tables e below (T38.setTop (mkF m 297 #[.val (.int p0), .val (.int p1), .val (.int p2), .val (.int p3), .val (.int p4), .val (.int (gl p0)), .val (.int (gf p1)), .val (.int (gs p2)), .val (.ref b1), .val (.ref b8), .val (.int (1 : Int32)), .val (.int (1 : Int32)), .val (.int (gs p2)), .val (.int (0 : Int32))] [(.int (1 : Int32))])) _
            refine XS.goto X38.here hx rfl (pc0 := 297) (pc' := 301) rfl (hb hby at_297) (by decide) (by decide) ?_
            show Steps p.tables e below (T38.setTop (mkF m 301 #[.val (.int p0), .val (.int p1), .val (.int p2), .val (.int p3), .val (.int p4), .val (.int (gl p0)), .val (.int (gf p1)), .val (.int (gs p2)), .val (.ref b1), .val (.ref b8), .val (.int (1 : Int32)), .val (.int (1 : Int32)), .val (.int (gs p2)), .val (.int (0 : Int32))] [(.int (1 : Int32))])) _
            refine XS.istore X38.here hx rfl (hb hby at_301) rfl (l' := #[.val (.int p0), .val (.int p1), .val (.int p2), .val (.int p3), .val (.int p4), .val (.int (gl p0)), .val (.int (gf p1)), .val (.int (gs p2)), .val (.ref b1), .val (.ref b8), .val (.int (1 : Int32)), .val (.int (1 : Int32)), .val (.int (gs p2)), .val (.int (0 : Int32))]) rfl ?_
            show Steps p.tables e below (T38.setTop (mkF m 303 #[.val (.int p0), .val (.int p1), .val (.int p2), .val (.int p3), .val (.int p4), .val (.int (gl p0)), .val (.int (gf p1)), .val (.int (gs p2)), .val (.ref b1), .val (.ref b8), .val (.int (1 : Int32)), .val (.int (1 : Int32)), .val (.int (gs p2)), .val (.int (0 : Int32))] [])) _
            refine XS.iload X38.here hx rfl (hb hby at_303) rfl ?_
            exact kt
          obtain ⟨fsQ, hr, hrun, hended, hW, hsame⟩ := X38.leave (v := some (.int (1 : Int32))) (fun h => by rw [Bd.returns] at h; cases h)
          refine ⟨_, _, pre0 _ (K39 _ ?_), hrun, hended, _, _, rfl, ?_, ⟨_, rfl⟩, hW, hsame.mono (by decide) (by decide)⟩
          · show Steps p.tables e below (T38.setTop (mkF m 305 #[.val (.int p0), .val (.int p1), .val (.int p2), .val (.int p3), .val (.int p4), .val (.int (gl p0)), .val (.int (gf p1)), .val (.int (gs p2)), .val (.ref b1), .val (.ref b8), .val (.int (1 : Int32)), .val (.int (1 : Int32)), .val (.int (gs p2)), .val (.int (0 : Int32))] [(.int (1 : Int32))])) _
            exact retN X38 hx (t := .boolean) Bd.returns (by simp) (hb hby at_305) hr
          · show Q0 Z p0 p1 p2 p3 p4  h0 n0 _ T38.heap _
            rw [e38]
            exact ⟨rfl, N36⟩
        · skip
          obtain ⟨cq40, kq40, q40a, q40b, q40c⟩ := isOf hZ rfl (own_bbE B36q)
          obtain ⟨_, _, ⟨T40, L40, k40, n40⟩, -, X40, ⟨Lc40, hQ40, l40, y40, z40⟩, st40⟩ := X36.virtualBack hx (y := (⟨"com/example/benchwire/benchwire/protocols/BoundedBuffer", "size", "()I"⟩ : MethodName)) (z := (⟨"com/example/benchwire/benchwire/protocols/BoundedBuffer", "size", "()I"⟩ : MethodName)) hown (mvT hZ (hw _ (List.mem_of_getElem? (i := 35) rfl))) (mvT hZ (hw _ (List.mem_of_getElem? (i := 36) rfl))) (notFace_of_selects (args := #[]) (mvT hZ (hw _ (List.mem_of_getElem? (i := 38) rfl)))) (mvT hZ (hw _ (List.mem_of_getElem? (i := 38) rfl))) (mvT hZ (hw _ (List.mem_of_getElem? (i := 37) rfl))) (by decide) (backOf (W := 0) (rm7 l Z a0 hw [] b8 b1 fs lim ((0 + lenS) + 1) cap36 f36 T36.heap n0 Z36q B36q) hZ (hw _ (List.mem_of_getElem? (i := 39) rfl)) (hw _ (List.mem_of_getElem? (i := 4) rfl)) (by decide) (by decide)) q40a q40c (g := (mkF m 277 #[.val (.int p0), .val (.int p1), .val (.int p2), .val (.int p3), .val (.int p4), .val (.int (gl p0)), .val (.int (gf p1)), .val (.int (gs p2)), .val (.ref b1), .val (.ref b8), .val (.int (1 : Int32)), .val (.int (1 : Int32)), .val (.int (gs p2)), .val (.int (1 : Int32))] [(.ref b8)])) rfl (by rw [hml]; rfl) (Steps.refl _) (argsL := []) (rest := []) (lenOf pd_8 rfl) rfl (by show 2 * 0 + _ ≤ _; exact Nat.le_of_eq rfl) (hb hby at_277) (fun _ _ => ⟨rfl, rfl, (by decide : 7 + 0 ≤ _), (by decide : 2348 + 0 ≤ _)⟩)
          dsimp only [Pt.U, Pt.locs, Pt.cells, Pt.slots] at X40 l40 y40 z40 st40 hQ40
          subst l40 y40 z40
          obtain ⟨r40, rfl, hr40, rfl, e40⟩ := hQ40
          try rw [List.append_nil] at X40
          have K41 : ∀ t, Steps p.tables e below (T40.setTop (mkF m 305 #[.val (.int p0), .val (.int p1), .val (.int p2), .val (.int p3), .val (.int p4), .val (.int (gl p0)), .val (.int (gf p1)), .val (.int (gs p2)), .val (.ref b1), .val (.ref b8), .val (.int (1 : Int32)), .val (.int (1 : Int32)), .val (.int (gs p2)), .val (.int (1 : Int32))] [(.int (1 : Int32))])) t → Steps p.tables e below (s₁.setTop (mkF m 0 #[.val (.int p0), .val (.int p1), .val (.int p2), .val (.int p3), .val (.int p4), .unset, .unset, .unset, .unset, .unset, .unset, .unset, .unset, .unset] [])) t := by
            intro t kt
            refine K37 _ ?_
            show Steps p.tables e below (T36.setTop (mkF m 239 #[.val (.int p0), .val (.int p1), .val (.int p2), .val (.int p3), .val (.int p4), .val (.int (gl p0)), .val (.int (gf p1)), .val (.int (gs p2)), .val (.ref b1), .val (.ref b8), .val (.int (1 : Int32)), .val (.int (1 : Int32)), .val (.int (gs p2)), .unset] [(.int (1 : Int32))])) _
            refine XS.istore X36.here hx rfl (hb hby at_239) rfl (l' := #[.val (.int p0), .val (.int p1), .val (.int p2), .val (.int p3), .val (.int p4), .val (.int (gl p0)), .val (.int (gf p1)), .val (.int (gs p2)), .val (.ref b1), .val (.ref b8), .val (.int (1 : Int32)), .val (.int (1 : Int32)), .val (.int (gs p2)), .val (.int (1 : Int32))]) rfl ?_
            show Steps p.tables e below (T36.setTop (mkF m 241 #[.val (.int p0), .val (.int p1), .val (.int p2), .val (.int p3), .val (.int p4), .val (.int (gl p0)), .val (.int (gf p1)), .val (.int (gs p2)), .val (.ref b1), .val (.ref b8), .val (.int (1 : Int32)), .val (.int (1 : Int32)), .val (.int (gs p2)), .val (.int (1 : Int32))] [])) _
            refine XS.iload X36.here hx rfl (hb hby at_241) rfl ?_
            show Steps p.tables e below (T36.setTop (mkF m 243 #[.val (.int p0), .val (.int p1), .val (.int p2), .val (.int p3), .val (.int p4), .val (.int (gl p0)), .val (.int (gf p1)), .val (.int (gs p2)), .val (.ref b1), .val (.ref b8), .val (.int (1 : Int32)), .val (.int (1 : Int32)), .val (.int (gs p2)), .val (.int (1 : Int32))] [(.int (1 : Int32))])) _
            refine XS.ifNo X36.here hx rfl (hb hby at_243) rfl ((if0 _ _).trans (feq (by decide : ¬ ((1 : Int32) = (0 : Int32)))).1) ?_
            show Steps p.tables e below (T36.setTop (mkF m 246 #[.val (.int p0), .val (.int p1), .val (.int p2), .val (.int p3), .val (.int p4), .val (.int (gl p0)), .val (.int (gf p1)), .val (.int (gs p2)), .val (.ref b1), .val (.ref b8), .val (.int (1 : Int32)), .val (.int (1 : Int32)), .val (.int (gs p2)), .val (.int (1 : Int32))] [])) _
            refine XS.iload X36.here hx rfl (hb hby at_246) rfl ?_
            show Steps p.tables e below (T36.setTop (mkF m 248 #[.val (.int p0), .val (.int p1), .val (.int p2), .val (.int p3), .val (.int p4), .val (.int (gl p0)), .val (.int (gf p1)), .val (.int (gs p2)), .val (.ref b1), .val (.ref b8), .val (.int (1 : Int32)), .val (.int (1 : Int32)), .val (.int (gs p2)), .val (.int (1 : Int32))] [(.int (1 : Int32))])) _
            refine XS.iload X36.here hx rfl (hb hby at_248) rfl ?_
            show Steps p.tables e below (T36.setTop (mkF m 250 #[.val (.int p0), .val (.int p1), .val (.int p2), .val (.int p3), .val (.int p4), .val (.int (gl p0)), .val (.int (gf p1)), .val (.int (gs p2)), .val (.ref b1), .val (.ref b8), .val (.int (1 : Int32)), .val (.int (1 : Int32)), .val (.int (gs p2)), .val (.int (1 : Int32))] [(.int (gs p2)), (.int (1 : Int32))])) _
            refine XS.iload X36.here hx rfl (hb hby at_250) rfl ?_
            show Steps p.tables e below (T36.setTop (mkF m 252 #[.val (.int p0), .val (.int p1), .val (.int p2), .val (.int p3), .val (.int p4), .val (.int (gl p0)), .val (.int (gf p1)), .val (.int (gs p2)), .val (.ref b1), .val (.ref b8), .val (.int (1 : Int32)), .val (.int (1 : Int32)), .val (.int (gs p2)), .val (.int (1 : Int32))] [(.int (gl p0)), (.int (gs p2)), (.int (1 : Int32))])) _
            refine XS.icmpNo X36.here hx rfl (hb hby at_252) rfl (tlt (show (gs p2) < (gl p0) from (own_lt hlS hlm (by omega)))).2.1 ?_
            show Steps p.tables e below (T36.setTop (mkF m 255 #[.val (.int p0), .val (.int p1), .val (.int p2), .val (.int p3), .val (.int p4), .val (.int (gl p0)), .val (.int (gf p1)), .val (.int (gs p2)), .val (.ref b1), .val (.ref b8), .val (.int (1 : Int32)), .val (.int (1 : Int32)), .val (.int (gs p2)), .val (.int (1 : Int32))] [(.int (1 : Int32))])) _
            refine XS.iconst X36.here hx rfl (hb hby at_255) ?_
            show Steps p.tables e below (T36.setTop (mkF m 256 #[.val (.int p0), .val (.int p1), .val (.int p2), .val (.int p3), .val (.int p4), .val (.int (gl p0)), .val (.int (gf p1)), .val (.int (gs p2)), .val (.ref b1), .val (.ref b8), .val (.int (1 : Int32)), .val (.int (1 : Int32)), .val (.int (gs p2)), .val (.int (1 : Int32))] [(.int (1 : Int32)), (.int (1 : Int32))])) _
            refine XS.goto X36.here hx rfl (pc0 := 256) (pc' := 260) rfl (hb hby at_256) (by decide) (by decide) ?_
            show Steps p.tables e below (T36.setTop (mkF m 260 #[.val (.int p0), .val (.int p1), .val (.int p2), .val (.int p3), .val (.int p4), .val (.int (gl p0)), .val (.int (gf p1)), .val (.int (gs p2)), .val (.ref b1), .val (.ref b8), .val (.int (1 : Int32)), .val (.int (1 : Int32)), .val (.int (gs p2)), .val (.int (1 : Int32))] [(.int (1 : Int32)), (.int (1 : Int32))])) _
            refine XS.icmpNo X36.here hx rfl (hb hby at_260) rfl (teq (rfl : (1 : Int32) = (1 : Int32))).2 ?_
            show Steps p.tables e below (T36.setTop (mkF m 263 #[.val (.int p0), .val (.int p1), .val (.int p2), .val (.int p3), .val (.int p4), .val (.int (gl p0)), .val (.int (gf p1)), .val (.int (gs p2)), .val (.ref b1), .val (.ref b8), .val (.int (1 : Int32)), .val (.int (1 : Int32)), .val (.int (gs p2)), .val (.int (1 : Int32))] [])) _
            refine XS.iconst X36.here hx rfl (hb hby at_263) ?_
            show Steps p.tables e below (T36.setTop (mkF m 264 #[.val (.int p0), .val (.int p1), .val (.int p2), .val (.int p3), .val (.int p4), .val (.int (gl p0)), .val (.int (gf p1)), .val (.int (gs p2)), .val (.ref b1), .val (.ref b8), .val (.int (1 : Int32)), .val (.int (1 : Int32)), .val (.int (gs p2)), .val (.int (1 : Int32))] [(.int (1 : Int32))])) _
            refine XS.goto X36.here hx rfl (pc0 := 264) (pc' := 268) rfl (hb hby at_264) (by decide) (by decide) ?_
            show Steps p.tables e below (T36.setTop (mkF m 268 #[.val (.int p0), .val (.int p1), .val (.int p2), .val (.int p3), .val (.int p4), .val (.int (gl p0)), .val (.int (gf p1)), .val (.int (gs p2)), .val (.ref b1), .val (.ref b8), .val (.int (1 : Int32)), .val (.int (1 : Int32)), .val (.int (gs p2)), .val (.int (1 : Int32))] [(.int (1 : Int32))])) _
            refine XS.istore X36.here hx rfl (hb hby at_268) rfl (l' := #[.val (.int p0), .val (.int p1), .val (.int p2), .val (.int p3), .val (.int p4), .val (.int (gl p0)), .val (.int (gf p1)), .val (.int (gs p2)), .val (.ref b1), .val (.ref b8), .val (.int (1 : Int32)), .val (.int (1 : Int32)), .val (.int (gs p2)), .val (.int (1 : Int32))]) rfl ?_
            show Steps p.tables e below (T36.setTop (mkF m 270 #[.val (.int p0), .val (.int p1), .val (.int p2), .val (.int p3), .val (.int p4), .val (.int (gl p0)), .val (.int (gf p1)), .val (.int (gs p2)), .val (.ref b1), .val (.ref b8), .val (.int (1 : Int32)), .val (.int (1 : Int32)), .val (.int (gs p2)), .val (.int (1 : Int32))] [])) _
            refine XS.iload X36.here hx rfl (hb hby at_270) rfl ?_
            show Steps p.tables e below (T36.setTop (mkF m 272 #[.val (.int p0), .val (.int p1), .val (.int p2), .val (.int p3), .val (.int p4), .val (.int (gl p0)), .val (.int (gf p1)), .val (.int (gs p2)), .val (.ref b1), .val (.ref b8), .val (.int (1 : Int32)), .val (.int (1 : Int32)), .val (.int (gs p2)), .val (.int (1 : Int32))] [(.int (1 : Int32))])) _
            refine XS.ifNo X36.here hx rfl (hb hby at_272) rfl ((if0 _ _).trans (feq (by decide : ¬ ((1 : Int32) = (0 : Int32)))).1) ?_
            show Steps p.tables e below (T36.setTop (mkF m 275 #[.val (.int p0), .val (.int p1), .val (.int p2), .val (.int p3), .val (.int p4), .val (.int (gl p0)), .val (.int (gf p1)), .val (.int (gs p2)), .val (.ref b1), .val (.ref b8), .val (.int (1 : Int32)), .val (.int (1 : Int32)), .val (.int (gs p2)), .val (.int (1 : Int32))] [])) _
            refine XS.aload X36.here hx rfl (hb hby at_275) rfl rfl ?_
            show Steps p.tables e below (T36.setTop (mkF m 277 #[.val (.int p0), .val (.int p1), .val (.int p2), .val (.int p3), .val (.int p4), .val (.int (gl p0)), .val (.int (gf p1)), .val (.int (gs p2)), .val (.ref b1), .val (.ref b8), .val (.int (1 : Int32)), .val (.int (1 : Int32)), .val (.int (gs p2)), .val (.int (1 : Int32))] [(.ref b8)])) _
            refine st40.trans ?_
            show Steps p.tables e below (T40.setTop (mkF m 280 #[.val (.int p0), .val (.int p1), .val (.int p2), .val (.int p3), .val (.int p4), .val (.int (gl p0)), .val (.int (gf p1)), .val (.int (gs p2)), .val (.ref b1), .val (.ref b8), .val (.int (1 : Int32)), .val (.int (1 : Int32)), .val (.int (gs p2)), .val (.int (1 : Int32))] [(.int r40)])) _
            refine XS.iload X40.here hx rfl (hb hby at_280) rfl ?_
            show Steps p.tables e below (T40.setTop (mkF m 282 #[.val (.int p0), .val (.int p1), .val (.int p2), .val (.int p3), .val (.int p4), .val (.int (gl p0)), .val (.int (gf p1)), .val (.int (gs p2)), .val (.ref b1), .val (.ref b8), .val (.int (1 : Int32)), .val (.int (1 : Int32)), .val (.int (gs p2)), .val (.int (1 : Int32))] [(.int (gs p2)), (.int r40)])) _
            refine XS.iload X40.here hx rfl (hb hby at_282) rfl ?_
            show Steps p.tables e below (T40.setTop (mkF m 284 #[.val (.int p0), .val (.int p1), .val (.int p2), .val (.int p3), .val (.int p4), .val (.int (gl p0)), .val (.int (gf p1)), .val (.int (gs p2)), .val (.ref b1), .val (.ref b8), .val (.int (1 : Int32)), .val (.int (1 : Int32)), .val (.int (gs p2)), .val (.int (1 : Int32))] [(.int (1 : Int32)), (.int (gs p2)), (.int r40)])) _
            refine XS.ifNo X40.here hx rfl (hb hby at_284) rfl ((if0 _ _).trans (feq (by decide : ¬ ((1 : Int32) = (0 : Int32)))).1) ?_
            show Steps p.tables e below (T40.setTop (mkF m 287 #[.val (.int p0), .val (.int p1), .val (.int p2), .val (.int p3), .val (.int p4), .val (.int (gl p0)), .val (.int (gf p1)), .val (.int (gs p2)), .val (.ref b1), .val (.ref b8), .val (.int (1 : Int32)), .val (.int (1 : Int32)), .val (.int (gs p2)), .val (.int (1 : Int32))] [(.int (gs p2)), (.int r40)])) _
            refine XS.iconst X40.here hx rfl (hb hby at_287) ?_
            show Steps p.tables e below (T40.setTop (mkF m 288 #[.val (.int p0), .val (.int p1), .val (.int p2), .val (.int p3), .val (.int p4), .val (.int (gl p0)), .val (.int (gf p1)), .val (.int (gs p2)), .val (.ref b1), .val (.ref b8), .val (.int (1 : Int32)), .val (.int (1 : Int32)), .val (.int (gs p2)), .val (.int (1 : Int32))] [(.int (1 : Int32)), (.int (gs p2)), (.int r40)])) _
            refine XS.goto X40.here hx rfl (pc0 := 288) (pc' := 292) rfl (hb hby at_288) (by decide) (by decide) ?_
            show Steps p.tables e below (T40.setTop (mkF m 292 #[.val (.int p0), .val (.int p1), .val (.int p2), .val (.int p3), .val (.int p4), .val (.int (gl p0)), .val (.int (gf p1)), .val (.int (gs p2)), .val (.ref b1), .val (.ref b8), .val (.int (1 : Int32)), .val (.int (1 : Int32)), .val (.int (gs p2)), .val (.int (1 : Int32))] [(.int (1 : Int32)), (.int (gs p2)), (.int r40)])) _
            refine XS.iadd X40.here hx rfl (hb hby at_292) rfl ?_
            show Steps p.tables e below (T40.setTop (mkF m 293 #[.val (.int p0), .val (.int p1), .val (.int p2), .val (.int p3), .val (.int p4), .val (.int (gl p0)), .val (.int (gf p1)), .val (.int (gs p2)), .val (.ref b1), .val (.ref b8), .val (.int (1 : Int32)), .val (.int (1 : Int32)), .val (.int (gs p2)), .val (.int (1 : Int32))] [(.int ((gs p2) + (1 : Int32))), (.int r40)])) _
            refine XS.icmpNo X40.here hx rfl (hb hby at_293) rfl (teq (show r40 = ((gs p2) + (1 : Int32)) from (own_eq0 hr40 (by rw [own_add32 (by rw [hlS]; have : (1 : Int32).toInt = 1 := rfl; omega) (by rw [hlS]; have : (1 : Int32).toInt = 1 := rfl; omega), hlS, show (1 : Int32).toInt = 1 from rfl]; omega)))).2 ?_
            show Steps p.tables e below (T40.setTop (mkF m 296 #[.val (.int p0), .val (.int p1), .val (.int p2), .val (.int p3), .val (.int p4), .val (.int (gl p0)), .val (.int (gf p1)), .val (.int (gs p2)), .val (.ref b1), .val (.ref b8), .val (.int (1 : Int32)), .val (.int (1 : Int32)), .val (.int (gs p2)), .val (.int (1 : Int32))] [])) _
            refine XS.iconst X40.here hx rfl (hb hby at_296) ?_
            show Steps p.tables e below (T40.setTop (mkF m 297 #[.val (.int p0), .val (.int p1), .val (.int p2), .val (.int p3), .val (.int p4), .val (.int (gl p0)), .val (.int (gf p1)), .val (.int (gs p2)), .val (.ref b1), .val (.ref b8), .val (.int (1 : Int32)), .val (.int (1 : Int32)), .val (.int (gs p2)), .val (.int (1 : Int32))] [(.int (1 : Int32))])) _
            refine XS.goto X40.here hx rfl (pc0 := 297) (pc' := 301) rfl (hb hby at_297) (by decide) (by decide) ?_
            show Steps p.tables e below (T40.setTop (mkF m 301 #[.val (.int p0), .val (.int p1), .val (.int p2), .val (.int p3), .val (.int p4), .val (.int (gl p0)), .val (.int (gf p1)), .val (.int (gs p2)), .val (.ref b1), .val (.ref b8), .val (.int (1 : Int32)), .val (.int (1 : Int32)), .val (.int (gs p2)), .val (.int (1 : Int32))] [(.int (1 : Int32))])) _
            refine XS.istore X40.here hx rfl (hb hby at_301) rfl (l' := #[.val (.int p0), .val (.int p1), .val (.int p2), .val (.int p3), .val (.int p4), .val (.int (gl p0)), .val (.int (gf p1)), .val (.int (gs p2)), .val (.ref b1), .val (.ref b8), .val (.int (1 : Int32)), .val (.int (1 : Int32)), .val (.int (gs p2)), .val (.int (1 : Int32))]) rfl ?_
            show Steps p.tables e below (T40.setTop (mkF m 303 #[.val (.int p0), .val (.int p1), .val (.int p2), .val (.int p3), .val (.int p4), .val (.int (gl p0)), .val (.int (gf p1)), .val (.int (gs p2)), .val (.ref b1), .val (.ref b8), .val (.int (1 : Int32)), .val (.int (1 : Int32)), .val (.int (gs p2)), .val (.int (1 : Int32))] [])) _
            refine XS.iload X40.here hx rfl (hb hby at_303) rfl ?_
            exact kt
          obtain ⟨fsQ, hr, hrun, hended, hW, hsame⟩ := X40.leave (v := some (.int (1 : Int32))) (fun h => by rw [Bd.returns] at h; cases h)
          refine ⟨_, _, pre0 _ (K41 _ ?_), hrun, hended, _, _, rfl, ?_, ⟨_, rfl⟩, hW, hsame.mono (by decide) (by decide)⟩
          · show Steps p.tables e below (T40.setTop (mkF m 305 #[.val (.int p0), .val (.int p1), .val (.int p2), .val (.int p3), .val (.int p4), .val (.int (gl p0)), .val (.int (gf p1)), .val (.int (gs p2)), .val (.ref b1), .val (.ref b8), .val (.int (1 : Int32)), .val (.int (1 : Int32)), .val (.int (gs p2)), .val (.int (1 : Int32))] [(.int (1 : Int32))])) _
            exact retN X40 hx (t := .boolean) Bd.returns (by simp) (hb hby at_305) hr
          · show Q0 Z p0 p1 p2 p3 p4  h0 n0 _ T40.heap _
            rw [e40]
            exact ⟨rfl, N36⟩
  · skip
    obtain ⟨cq42, kq42, q42a, q42b, q42c⟩ := isOf hZ rfl (own_bbE B12q)
    obtain ⟨_, _, ⟨T42, L42, k42, n42⟩, -, X42, ⟨Lc42, hQ42, l42, y42, z42⟩, st42⟩ := X12.virtualBack hx (y := (⟨"com/example/benchwire/benchwire/protocols/BoundedBuffer", "clear", "()V"⟩ : MethodName)) (z := (⟨"com/example/benchwire/benchwire/protocols/BoundedBuffer", "clear", "()V"⟩ : MethodName)) hown (mvT hZ (hw _ (List.mem_of_getElem? (i := 30) rfl))) (mvT hZ (hw _ (List.mem_of_getElem? (i := 31) rfl))) (notFace_of_selects (args := #[]) (mvT hZ (hw _ (List.mem_of_getElem? (i := 33) rfl)))) (mvT hZ (hw _ (List.mem_of_getElem? (i := 33) rfl))) (mvT hZ (hw _ (List.mem_of_getElem? (i := 32) rfl))) (by decide) (backOf (W := 0) (rm6 l Z a0 hw [] b8 b1 fs lim (0 + lenF) cap12 f12 T12.heap n0 Z12q B12q) hZ (hw _ (List.mem_of_getElem? (i := 34) rfl)) (hw _ (List.mem_of_getElem? (i := 4) rfl)) (by decide) (by decide)) q42a q42c (g := (mkF m 92 #[.val (.int p0), .val (.int p1), .val (.int p2), .val (.int p3), .val (.int p4), .val (.int (gl p0)), .val (.int (gf p1)), .val (.int (gs p2)), .val (.ref b1), .val (.ref b8), .val (.int (1 : Int32)), .unset, .unset, .unset] [(.ref b8)])) rfl (by rw [hml]; rfl) (Steps.refl _) (argsL := []) (rest := []) (lenOf pd_7 rfl) rfl (by show 2 * 0 + _ ≤ _; exact Nat.le_of_eq rfl) (hb hby at_92) (fun _ _ => ⟨rfl, rfl, (by decide : 4 + 1 ≤ _), (by decide : 1070 + 256 ≤ _)⟩)
    dsimp only [Pt.U, Pt.locs, Pt.cells, Pt.slots] at X42 l42 y42 z42 st42 hQ42
    subst l42 y42 z42
    obtain ⟨cap42, f42, rfl, N42q, Z42q, B42q⟩ := hQ42
    have N42 := Fr.app N12 N42q
    obtain ⟨cq43, kq43, q43a, q43b, q43c⟩ := isOf hZ rfl (own_bbE B42q)
    obtain ⟨_, _, ⟨T43, L43, k43, n43⟩, -, X43, ⟨Lc43, hQ43, l43, y43, z43⟩, st43⟩ := X42.virtualBack hx (y := (⟨"com/example/benchwire/benchwire/protocols/BoundedBuffer", "size", "()I"⟩ : MethodName)) (z := (⟨"com/example/benchwire/benchwire/protocols/BoundedBuffer", "size", "()I"⟩ : MethodName)) hown (mvT hZ (hw _ (List.mem_of_getElem? (i := 35) rfl))) (mvT hZ (hw _ (List.mem_of_getElem? (i := 36) rfl))) (notFace_of_selects (args := #[]) (mvT hZ (hw _ (List.mem_of_getElem? (i := 38) rfl)))) (mvT hZ (hw _ (List.mem_of_getElem? (i := 38) rfl))) (mvT hZ (hw _ (List.mem_of_getElem? (i := 37) rfl))) (by decide) (backOf (W := 0) (rm7 l Z a0 hw [] b8 b1 fs lim 0 cap42 f42 T42.heap n0 Z42q B42q) hZ (hw _ (List.mem_of_getElem? (i := 39) rfl)) (hw _ (List.mem_of_getElem? (i := 4) rfl)) (by decide) (by decide)) q43a q43c (g := (mkF m 102 #[.val (.int p0), .val (.int p1), .val (.int p2), .val (.int p3), .val (.int p4), .val (.int (gl p0)), .val (.int (gf p1)), .val (.int (gs p2)), .val (.ref b1), .val (.ref b8), .val (.int (1 : Int32)), .unset, .unset, .unset] [(.ref b8)])) rfl (by rw [hml]; rfl) (Steps.refl _) (argsL := []) (rest := []) (lenOf pd_8 rfl) rfl (by show 2 * 0 + _ ≤ _; exact Nat.le_of_eq rfl) (hb hby at_102) (fun _ _ => ⟨rfl, rfl, (by decide : 5 + 0 ≤ _), (by decide : 1326 + 0 ≤ _)⟩)
    dsimp only [Pt.U, Pt.locs, Pt.cells, Pt.slots] at X43 l43 y43 z43 st43 hQ43
    subst l43 y43 z43
    obtain ⟨r43, rfl, hr43, rfl, e43⟩ := hQ43
    try rw [List.append_nil] at X43
    obtain ⟨cq44, kq44, q44a, q44b, q44c⟩ := isOf hZ e43 (own_bbE B42q)
    obtain ⟨_, _, ⟨T44, L44, k44, n44⟩, -, X44, ⟨Lc44, hQ44, l44, y44, z44⟩, st44⟩ := X43.virtualBack hx (y := (⟨"com/example/benchwire/benchwire/protocols/BoundedBuffer", "add", "([BII)Z"⟩ : MethodName)) (z := (⟨"com/example/benchwire/benchwire/protocols/BoundedBuffer", "add", "([BII)Z"⟩ : MethodName)) hown (mvT hZ (hw _ (List.mem_of_getElem? (i := 19) rfl))) (mvT hZ (hw _ (List.mem_of_getElem? (i := 20) rfl))) (notFace_of_selects (args := #[]) (mvT hZ (hw _ (List.mem_of_getElem? (i := 22) rfl)))) (mvT hZ (hw _ (List.mem_of_getElem? (i := 22) rfl))) (mvT hZ (hw _ (List.mem_of_getElem? (i := 21) rfl))) (by decide) (backOf (W := 0) (rm4 l Z a0 hw [] b8 b1 (0 : Int32) (gs p2) fs lim 0 cap42 f42 lenS T42.heap n0 Z42q B42q (by decide) hlS hlS3) hZ (hw _ (List.mem_of_getElem? (i := 23) rfl)) (hw _ (List.mem_of_getElem? (i := 4) rfl)) (by decide) (by decide)) q44a q44c (g := (mkF m 122 #[.val (.int p0), .val (.int p1), .val (.int p2), .val (.int p3), .val (.int p4), .val (.int (gl p0)), .val (.int (gf p1)), .val (.int (gs p2)), .val (.ref b1), .val (.ref b8), .val (.int (1 : Int32)), .unset, .unset, .unset] [(.int (gs p2)), (.int (0 : Int32)), (.ref b1), (.ref b8)])) rfl (by rw [hml]; rfl) (Steps.refl _) (argsL := [(.ref b1), (.int (0 : Int32)), (.int (gs p2))]) (rest := []) (lenOf pd_6 rfl) rfl (by show 2 * 0 + _ ≤ _; exact Nat.le_of_eq rfl) (hb hby at_122) (fun _ _ => ⟨rfl, e43, (by decide : 5 + 1 ≤ _), (by decide : 1326 + 511 ≤ _)⟩)
    dsimp only [Pt.U, Pt.locs, Pt.cells, Pt.slots] at X44 l44 y44 z44 st44 hQ44
    subst l44 y44 z44
    obtain ⟨r44, sz44, cap44, f44, rfl, N44q, Z44q, B44q, hr44⟩ := hQ44
    have N44 := Fr.app N42 N44q
    have K45 : ∀ t, Steps p.tables e below (T44.setTop (mkF m 125 #[.val (.int p0), .val (.int p1), .val (.int p2), .val (.int p3), .val (.int p4), .val (.int (gl p0)), .val (.int (gf p1)), .val (.int (gs p2)), .val (.ref b1), .val (.ref b8), .val (.int (1 : Int32)), .unset, .unset, .unset] [(.int r44)])) t → Steps p.tables e below (s₁.setTop (mkF m 0 #[.val (.int p0), .val (.int p1), .val (.int p2), .val (.int p3), .val (.int p4), .unset, .unset, .unset, .unset, .unset, .unset, .unset, .unset, .unset] [])) t := by
      intro t kt
      refine K13 _ ?_
      show Steps p.tables e below (T12.setTop (mkF m 68 #[.val (.int p0), .val (.int p1), .val (.int p2), .val (.int p3), .val (.int p4), .val (.int (gl p0)), .val (.int (gf p1)), .val (.int (gs p2)), .val (.ref b1), .val (.ref b8), .unset, .unset, .unset, .unset] [(.int (1 : Int32))])) _
      refine XS.iload X12.here hx rfl (hb hby at_68) rfl ?_
      show Steps p.tables e below (T12.setTop (mkF m 70 #[.val (.int p0), .val (.int p1), .val (.int p2), .val (.int p3), .val (.int p4), .val (.int (gl p0)), .val (.int (gf p1)), .val (.int (gs p2)), .val (.ref b1), .val (.ref b8), .unset, .unset, .unset, .unset] [(.int (gf p1)), (.int (1 : Int32))])) _
      refine XS.iload X12.here hx rfl (hb hby at_70) rfl ?_
      show Steps p.tables e below (T12.setTop (mkF m 72 #[.val (.int p0), .val (.int p1), .val (.int p2), .val (.int p3), .val (.int p4), .val (.int (gl p0)), .val (.int (gf p1)), .val (.int (gs p2)), .val (.ref b1), .val (.ref b8), .unset, .unset, .unset, .unset] [(.int (gl p0)), (.int (gf p1)), (.int (1 : Int32))])) _
      refine XS.icmpNo X12.here hx rfl (hb hby at_72) rfl (flt (show ¬ ((gl p0) < (gf p1)) from (own_nlt hlm hlF (by omega)))).2.2.1 ?_
      show Steps p.tables e below (T12.setTop (mkF m 75 #[.val (.int p0), .val (.int p1), .val (.int p2), .val (.int p3), .val (.int p4), .val (.int (gl p0)), .val (.int (gf p1)), .val (.int (gs p2)), .val (.ref b1), .val (.ref b8), .unset, .unset, .unset, .unset] [(.int (1 : Int32))])) _
      refine XS.iconst X12.here hx rfl (hb hby at_75) ?_
      show Steps p.tables e below (T12.setTop (mkF m 76 #[.val (.int p0), .val (.int p1), .val (.int p2), .val (.int p3), .val (.int p4), .val (.int (gl p0)), .val (.int (gf p1)), .val (.int (gs p2)), .val (.ref b1), .val (.ref b8), .unset, .unset, .unset, .unset] [(.int (1 : Int32)), (.int (1 : Int32))])) _
      refine XS.goto X12.here hx rfl (pc0 := 76) (pc' := 80) rfl (hb hby at_76) (by decide) (by decide) ?_
      show Steps p.tables e below (T12.setTop (mkF m 80 #[.val (.int p0), .val (.int p1), .val (.int p2), .val (.int p3), .val (.int p4), .val (.int (gl p0)), .val (.int (gf p1)), .val (.int (gs p2)), .val (.ref b1), .val (.ref b8), .unset, .unset, .unset, .unset] [(.int (1 : Int32)), (.int (1 : Int32))])) _
      refine XS.icmpNo X12.here hx rfl (hb hby at_80) rfl (teq (rfl : (1 : Int32) = (1 : Int32))).2 ?_
      show Steps p.tables e below (T12.setTop (mkF m 83 #[.val (.int p0), .val (.int p1), .val (.int p2), .val (.int p3), .val (.int p4), .val (.int (gl p0)), .val (.int (gf p1)), .val (.int (gs p2)), .val (.ref b1), .val (.ref b8), .unset, .unset, .unset, .unset] [])) _
      refine XS.iconst X12.here hx rfl (hb hby at_83) ?_
      show Steps p.tables e below (T12.setTop (mkF m 84 #[.val (.int p0), .val (.int p1), .val (.int p2), .val (.int p3), .val (.int p4), .val (.int (gl p0)), .val (.int (gf p1)), .val (.int (gs p2)), .val (.ref b1), .val (.ref b8), .unset, .unset, .unset, .unset] [(.int (1 : Int32))])) _
      refine XS.goto X12.here hx rfl (pc0 := 84) (pc' := 88) rfl (hb hby at_84) (by decide) (by decide) ?_
      show Steps p.tables e below (T12.setTop (mkF m 88 #[.val (.int p0), .val (.int p1), .val (.int p2), .val (.int p3), .val (.int p4), .val (.int (gl p0)), .val (.int (gf p1)), .val (.int (gs p2)), .val (.ref b1), .val (.ref b8), .unset, .unset, .unset, .unset] [(.int (1 : Int32))])) _
      refine XS.istore X12.here hx rfl (hb hby at_88) rfl (l' := #[.val (.int p0), .val (.int p1), .val (.int p2), .val (.int p3), .val (.int p4), .val (.int (gl p0)), .val (.int (gf p1)), .val (.int (gs p2)), .val (.ref b1), .val (.ref b8), .val (.int (1 : Int32)), .unset, .unset, .unset]) rfl ?_
      show Steps p.tables e below (T12.setTop (mkF m 90 #[.val (.int p0), .val (.int p1), .val (.int p2), .val (.int p3), .val (.int p4), .val (.int (gl p0)), .val (.int (gf p1)), .val (.int (gs p2)), .val (.ref b1), .val (.ref b8), .val (.int (1 : Int32)), .unset, .unset, .unset] [])) _
      refine XS.aload X12.here hx rfl (hb hby at_90) rfl rfl ?_
      show Steps p.tables e below (T12.setTop (mkF m 92 #[.val (.int p0), .val (.int p1), .val (.int p2), .val (.int p3), .val (.int p4), .val (.int (gl p0)), .val (.int (gf p1)), .val (.int (gs p2)), .val (.ref b1), .val (.ref b8), .val (.int (1 : Int32)), .unset, .unset, .unset] [(.ref b8)])) _
      refine st42.trans ?_
      show Steps p.tables e below (T42.setTop (mkF m 95 #[.val (.int p0), .val (.int p1), .val (.int p2), .val (.int p3), .val (.int p4), .val (.int (gl p0)), .val (.int (gf p1)), .val (.int (gs p2)), .val (.ref b1), .val (.ref b8), .val (.int (1 : Int32)), .unset, .unset, .unset] [])) _
      refine XS.iload X42.here hx rfl (hb hby at_95) rfl ?_
      show Steps p.tables e below (T42.setTop (mkF m 97 #[.val (.int p0), .val (.int p1), .val (.int p2), .val (.int p3), .val (.int p4), .val (.int (gl p0)), .val (.int (gf p1)), .val (.int (gs p2)), .val (.ref b1), .val (.ref b8), .val (.int (1 : Int32)), .unset, .unset, .unset] [(.int (1 : Int32))])) _
      refine XS.ifNo X42.here hx rfl (hb hby at_97) rfl ((if0 _ _).trans (feq (by decide : ¬ ((1 : Int32) = (0 : Int32)))).1) ?_
      show Steps p.tables e below (T42.setTop (mkF m 100 #[.val (.int p0), .val (.int p1), .val (.int p2), .val (.int p3), .val (.int p4), .val (.int (gl p0)), .val (.int (gf p1)), .val (.int (gs p2)), .val (.ref b1), .val (.ref b8), .val (.int (1 : Int32)), .unset, .unset, .unset] [])) _
      refine XS.aload X42.here hx rfl (hb hby at_100) rfl rfl ?_
      show Steps p.tables e below (T42.setTop (mkF m 102 #[.val (.int p0), .val (.int p1), .val (.int p2), .val (.int p3), .val (.int p4), .val (.int (gl p0)), .val (.int (gf p1)), .val (.int (gs p2)), .val (.ref b1), .val (.ref b8), .val (.int (1 : Int32)), .unset, .unset, .unset] [(.ref b8)])) _
      refine st43.trans ?_
      show Steps p.tables e below (T43.setTop (mkF m 105 #[.val (.int p0), .val (.int p1), .val (.int p2), .val (.int p3), .val (.int p4), .val (.int (gl p0)), .val (.int (gf p1)), .val (.int (gs p2)), .val (.ref b1), .val (.ref b8), .val (.int (1 : Int32)), .unset, .unset, .unset] [(.int r43)])) _
      refine XS.ifNo X43.here hx rfl (hb hby at_105) rfl ((if0 _ _).trans (teq (show r43 = (0 : Int32) from (own_eq0 hr43 rfl))).2) ?_
      show Steps p.tables e below (T43.setTop (mkF m 108 #[.val (.int p0), .val (.int p1), .val (.int p2), .val (.int p3), .val (.int p4), .val (.int (gl p0)), .val (.int (gf p1)), .val (.int (gs p2)), .val (.ref b1), .val (.ref b8), .val (.int (1 : Int32)), .unset, .unset, .unset] [])) _
      refine XS.iconst X43.here hx rfl (hb hby at_108) ?_
      show Steps p.tables e below (T43.setTop (mkF m 109 #[.val (.int p0), .val (.int p1), .val (.int p2), .val (.int p3), .val (.int p4), .val (.int (gl p0)), .val (.int (gf p1)), .val (.int (gs p2)), .val (.ref b1), .val (.ref b8), .val (.int (1 : Int32)), .unset, .unset, .unset] [(.int (1 : Int32))])) _
      refine XS.goto X43.here hx rfl (pc0 := 109) (pc' := 113) rfl (hb hby at_109) (by decide) (by decide) ?_
      show Steps p.tables e below (T43.setTop (mkF m 113 #[.val (.int p0), .val (.int p1), .val (.int p2), .val (.int p3), .val (.int p4), .val (.int (gl p0)), .val (.int (gf p1)), .val (.int (gs p2)), .val (.ref b1), .val (.ref b8), .val (.int (1 : Int32)), .unset, .unset, .unset] [(.int (1 : Int32))])) _
      refine XS.istore X43.here hx rfl (hb hby at_113) rfl (l' := #[.val (.int p0), .val (.int p1), .val (.int p2), .val (.int p3), .val (.int p4), .val (.int (gl p0)), .val (.int (gf p1)), .val (.int (gs p2)), .val (.ref b1), .val (.ref b8), .val (.int (1 : Int32)), .unset, .unset, .unset]) rfl ?_
      show Steps p.tables e below (T43.setTop (mkF m 115 #[.val (.int p0), .val (.int p1), .val (.int p2), .val (.int p3), .val (.int p4), .val (.int (gl p0)), .val (.int (gf p1)), .val (.int (gs p2)), .val (.ref b1), .val (.ref b8), .val (.int (1 : Int32)), .unset, .unset, .unset] [])) _
      refine XS.aload X43.here hx rfl (hb hby at_115) rfl rfl ?_
      show Steps p.tables e below (T43.setTop (mkF m 117 #[.val (.int p0), .val (.int p1), .val (.int p2), .val (.int p3), .val (.int p4), .val (.int (gl p0)), .val (.int (gf p1)), .val (.int (gs p2)), .val (.ref b1), .val (.ref b8), .val (.int (1 : Int32)), .unset, .unset, .unset] [(.ref b8)])) _
      refine XS.aload X43.here hx rfl (hb hby at_117) rfl rfl ?_
      show Steps p.tables e below (T43.setTop (mkF m 119 #[.val (.int p0), .val (.int p1), .val (.int p2), .val (.int p3), .val (.int p4), .val (.int (gl p0)), .val (.int (gf p1)), .val (.int (gs p2)), .val (.ref b1), .val (.ref b8), .val (.int (1 : Int32)), .unset, .unset, .unset] [(.ref b1), (.ref b8)])) _
      refine XS.iconst X43.here hx rfl (hb hby at_119) ?_
      show Steps p.tables e below (T43.setTop (mkF m 120 #[.val (.int p0), .val (.int p1), .val (.int p2), .val (.int p3), .val (.int p4), .val (.int (gl p0)), .val (.int (gf p1)), .val (.int (gs p2)), .val (.ref b1), .val (.ref b8), .val (.int (1 : Int32)), .unset, .unset, .unset] [(.int (0 : Int32)), (.ref b1), (.ref b8)])) _
      refine XS.iload X43.here hx rfl (hb hby at_120) rfl ?_
      show Steps p.tables e below (T43.setTop (mkF m 122 #[.val (.int p0), .val (.int p1), .val (.int p2), .val (.int p3), .val (.int p4), .val (.int (gl p0)), .val (.int (gf p1)), .val (.int (gs p2)), .val (.ref b1), .val (.ref b8), .val (.int (1 : Int32)), .unset, .unset, .unset] [(.int (gs p2)), (.int (0 : Int32)), (.ref b1), (.ref b8)])) _
      refine st44.trans ?_
      exact kt
    rcases hr44 with ⟨rfl, hnS, rfl⟩ | ⟨rfl, hyS, rfl, hcS⟩
    · skip
      obtain ⟨cq46, kq46, q46a, q46b, q46c⟩ := isOf hZ rfl (own_bbE B44q)
      obtain ⟨_, _, ⟨T46, L46, k46, n46⟩, -, X46, ⟨Lc46, hQ46, l46, y46, z46⟩, st46⟩ := X44.virtualBack hx (y := (⟨"com/example/benchwire/benchwire/protocols/BoundedBuffer", "size", "()I"⟩ : MethodName)) (z := (⟨"com/example/benchwire/benchwire/protocols/BoundedBuffer", "size", "()I"⟩ : MethodName)) hown (mvT hZ (hw _ (List.mem_of_getElem? (i := 35) rfl))) (mvT hZ (hw _ (List.mem_of_getElem? (i := 36) rfl))) (notFace_of_selects (args := #[]) (mvT hZ (hw _ (List.mem_of_getElem? (i := 38) rfl)))) (mvT hZ (hw _ (List.mem_of_getElem? (i := 38) rfl))) (mvT hZ (hw _ (List.mem_of_getElem? (i := 37) rfl))) (by decide) (backOf (W := 0) (rm7 l Z a0 hw [] b8 b1 fs lim 0 cap44 f44 T44.heap n0 Z44q B44q) hZ (hw _ (List.mem_of_getElem? (i := 39) rfl)) (hw _ (List.mem_of_getElem? (i := 4) rfl)) (by decide) (by decide)) q46a q46c (g := (mkF m 176 #[.val (.int p0), .val (.int p1), .val (.int p2), .val (.int p3), .val (.int p4), .val (.int (gl p0)), .val (.int (gf p1)), .val (.int (gs p2)), .val (.ref b1), .val (.ref b8), .val (.int (1 : Int32)), .val (.int (0 : Int32)), .val (.int (0 : Int32)), .unset] [(.ref b8)])) rfl (by rw [hml]; rfl) (Steps.refl _) (argsL := []) (rest := []) (lenOf pd_8 rfl) rfl (by show 2 * 0 + _ ≤ _; exact Nat.le_of_eq rfl) (hb hby at_176) (fun _ _ => ⟨rfl, rfl, (by decide : 6 + 0 ≤ _), (by decide : 1837 + 0 ≤ _)⟩)
      dsimp only [Pt.U, Pt.locs, Pt.cells, Pt.slots] at X46 l46 y46 z46 st46 hQ46
      subst l46 y46 z46
      obtain ⟨r46, rfl, hr46, rfl, e46⟩ := hQ46
      try rw [List.append_nil] at X46
      obtain ⟨cq47, kq47, q47a, q47b, q47c⟩ := isOf hZ e46 (own_bbE B44q)
      obtain ⟨_, _, ⟨T47, L47, k47, n47⟩, -, X47, ⟨Lc47, hQ47, l47, y47, z47⟩, st47⟩ := X46.virtualBack hx (y := (⟨"com/example/benchwire/benchwire/protocols/BoundedBuffer", "add", "(B)Z"⟩ : MethodName)) (z := (⟨"com/example/benchwire/benchwire/protocols/BoundedBuffer", "add", "(B)Z"⟩ : MethodName)) hown (mvT hZ (hw _ (List.mem_of_getElem? (i := 40) rfl))) (mvT hZ (hw _ (List.mem_of_getElem? (i := 41) rfl))) (notFace_of_selects (args := #[]) (mvT hZ (hw _ (List.mem_of_getElem? (i := 43) rfl)))) (mvT hZ (hw _ (List.mem_of_getElem? (i := 43) rfl))) (mvT hZ (hw _ (List.mem_of_getElem? (i := 42) rfl))) (by decide) (backOf (W := 0) (rm8 l Z a0 hw [] b8 (p3.toInt8.toInt32) b1 fs lim 0 cap44 f44 T44.heap n0 Z44q B44q) hZ (hw _ (List.mem_of_getElem? (i := 44) rfl)) (hw _ (List.mem_of_getElem? (i := 4) rfl)) (by decide) (by decide)) q47a q47c (g := (mkF m 236 #[.val (.int p0), .val (.int p1), .val (.int p2), .val (.int p3), .val (.int p4), .val (.int (gl p0)), .val (.int (gf p1)), .val (.int (gs p2)), .val (.ref b1), .val (.ref b8), .val (.int (1 : Int32)), .val (.int (0 : Int32)), .val (.int (0 : Int32)), .unset] [(.int (p3.toInt8.toInt32)), (.ref b8)])) rfl (by rw [hml]; rfl) (Steps.refl _) (argsL := [(.int (p3.toInt8.toInt32))]) (rest := []) (lenOf pd_9 rfl) rfl (by show 2 * 0 + _ ≤ _; exact Nat.le_of_eq rfl) (hb hby at_236) (fun _ _ => ⟨rfl, e46, (by decide : 6 + 1 ≤ _), (by decide : 1837 + 511 ≤ _)⟩)
      dsimp only [Pt.U, Pt.locs, Pt.cells, Pt.slots] at X47 l47 y47 z47 st47 hQ47
      subst l47 y47 z47
      obtain ⟨r47, sz47, cap47, f47, rfl, N47q, Z47q, B47q, hr47⟩ := hQ47
      have N47 := Fr.app N44 N47q
      have K48 : ∀ t, Steps p.tables e below (T47.setTop (mkF m 239 #[.val (.int p0), .val (.int p1), .val (.int p2), .val (.int p3), .val (.int p4), .val (.int (gl p0)), .val (.int (gf p1)), .val (.int (gs p2)), .val (.ref b1), .val (.ref b8), .val (.int (1 : Int32)), .val (.int (0 : Int32)), .val (.int (0 : Int32)), .unset] [(.int r47)])) t → Steps p.tables e below (s₁.setTop (mkF m 0 #[.val (.int p0), .val (.int p1), .val (.int p2), .val (.int p3), .val (.int p4), .unset, .unset, .unset, .unset, .unset, .unset, .unset, .unset, .unset] [])) t := by
        intro t kt
        refine K45 _ ?_
        show Steps p.tables e below (T44.setTop (mkF m 125 #[.val (.int p0), .val (.int p1), .val (.int p2), .val (.int p3), .val (.int p4), .val (.int (gl p0)), .val (.int (gf p1)), .val (.int (gs p2)), .val (.ref b1), .val (.ref b8), .val (.int (1 : Int32)), .unset, .unset, .unset] [(.int (0 : Int32))])) _
        refine XS.istore X44.here hx rfl (hb hby at_125) rfl (l' := #[.val (.int p0), .val (.int p1), .val (.int p2), .val (.int p3), .val (.int p4), .val (.int (gl p0)), .val (.int (gf p1)), .val (.int (gs p2)), .val (.ref b1), .val (.ref b8), .val (.int (1 : Int32)), .val (.int (0 : Int32)), .unset, .unset]) rfl ?_
        show Steps p.tables e below (T44.setTop (mkF m 127 #[.val (.int p0), .val (.int p1), .val (.int p2), .val (.int p3), .val (.int p4), .val (.int (gl p0)), .val (.int (gf p1)), .val (.int (gs p2)), .val (.ref b1), .val (.ref b8), .val (.int (1 : Int32)), .val (.int (0 : Int32)), .unset, .unset] [])) _
        refine XS.iload X44.here hx rfl (hb hby at_127) rfl ?_
        show Steps p.tables e below (T44.setTop (mkF m 129 #[.val (.int p0), .val (.int p1), .val (.int p2), .val (.int p3), .val (.int p4), .val (.int (gl p0)), .val (.int (gf p1)), .val (.int (gs p2)), .val (.ref b1), .val (.ref b8), .val (.int (1 : Int32)), .val (.int (0 : Int32)), .unset, .unset] [(.int (1 : Int32))])) _
        refine XS.ifNo X44.here hx rfl (hb hby at_129) rfl ((if0 _ _).trans (feq (by decide : ¬ ((1 : Int32) = (0 : Int32)))).1) ?_
        show Steps p.tables e below (T44.setTop (mkF m 132 #[.val (.int p0), .val (.int p1), .val (.int p2), .val (.int p3), .val (.int p4), .val (.int (gl p0)), .val (.int (gf p1)), .val (.int (gs p2)), .val (.ref b1), .val (.ref b8), .val (.int (1 : Int32)), .val (.int (0 : Int32)), .unset, .unset] [])) _
        refine XS.iload X44.here hx rfl (hb hby at_132) rfl ?_
        show Steps p.tables e below (T44.setTop (mkF m 134 #[.val (.int p0), .val (.int p1), .val (.int p2), .val (.int p3), .val (.int p4), .val (.int (gl p0)), .val (.int (gf p1)), .val (.int (gs p2)), .val (.ref b1), .val (.ref b8), .val (.int (1 : Int32)), .val (.int (0 : Int32)), .unset, .unset] [(.int (0 : Int32))])) _
        refine XS.iload X44.here hx rfl (hb hby at_134) rfl ?_
        show Steps p.tables e below (T44.setTop (mkF m 136 #[.val (.int p0), .val (.int p1), .val (.int p2), .val (.int p3), .val (.int p4), .val (.int (gl p0)), .val (.int (gf p1)), .val (.int (gs p2)), .val (.ref b1), .val (.ref b8), .val (.int (1 : Int32)), .val (.int (0 : Int32)), .unset, .unset] [(.int (gs p2)), (.int (0 : Int32))])) _
        refine XS.iload X44.here hx rfl (hb hby at_136) rfl ?_
        show Steps p.tables e below (T44.setTop (mkF m 138 #[.val (.int p0), .val (.int p1), .val (.int p2), .val (.int p3), .val (.int p4), .val (.int (gl p0)), .val (.int (gf p1)), .val (.int (gs p2)), .val (.ref b1), .val (.ref b8), .val (.int (1 : Int32)), .val (.int (0 : Int32)), .unset, .unset] [(.int (gl p0)), (.int (gs p2)), (.int (0 : Int32))])) _
        refine XS.icmpYes X44.here hx rfl (pc0 := 138) (pc' := 145) rfl (hb hby at_138) rfl (tlt (show (gl p0) < (gs p2) from (own_lt hlm hlS (by omega)))).2.2.1 (by decide) (by decide) ?_
        show Steps p.tables e below (T44.setTop (mkF m 145 #[.val (.int p0), .val (.int p1), .val (.int p2), .val (.int p3), .val (.int p4), .val (.int (gl p0)), .val (.int (gf p1)), .val (.int (gs p2)), .val (.ref b1), .val (.ref b8), .val (.int (1 : Int32)), .val (.int (0 : Int32)), .unset, .unset] [(.int (0 : Int32))])) _
        refine XS.iconst X44.here hx rfl (hb hby at_145) ?_
        show Steps p.tables e below (T44.setTop (mkF m 146 #[.val (.int p0), .val (.int p1), .val (.int p2), .val (.int p3), .val (.int p4), .val (.int (gl p0)), .val (.int (gf p1)), .val (.int (gs p2)), .val (.ref b1), .val (.ref b8), .val (.int (1 : Int32)), .val (.int (0 : Int32)), .unset, .unset] [(.int (0 : Int32)), (.int (0 : Int32))])) _
        refine XS.icmpNo X44.here hx rfl (hb hby at_146) rfl (teq (rfl : (0 : Int32) = (0 : Int32))).2 ?_
        show Steps p.tables e below (T44.setTop (mkF m 149 #[.val (.int p0), .val (.int p1), .val (.int p2), .val (.int p3), .val (.int p4), .val (.int (gl p0)), .val (.int (gf p1)), .val (.int (gs p2)), .val (.ref b1), .val (.ref b8), .val (.int (1 : Int32)), .val (.int (0 : Int32)), .unset, .unset] [])) _
        refine XS.iconst X44.here hx rfl (hb hby at_149) ?_
        show Steps p.tables e below (T44.setTop (mkF m 150 #[.val (.int p0), .val (.int p1), .val (.int p2), .val (.int p3), .val (.int p4), .val (.int (gl p0)), .val (.int (gf p1)), .val (.int (gs p2)), .val (.ref b1), .val (.ref b8), .val (.int (1 : Int32)), .val (.int (0 : Int32)), .unset, .unset] [(.int (1 : Int32))])) _
        refine XS.goto X44.here hx rfl (pc0 := 150) (pc' := 154) rfl (hb hby at_150) (by decide) (by decide) ?_
        show Steps p.tables e below (T44.setTop (mkF m 154 #[.val (.int p0), .val (.int p1), .val (.int p2), .val (.int p3), .val (.int p4), .val (.int (gl p0)), .val (.int (gf p1)), .val (.int (gs p2)), .val (.ref b1), .val (.ref b8), .val (.int (1 : Int32)), .val (.int (0 : Int32)), .unset, .unset] [(.int (1 : Int32))])) _
        refine XS.istore X44.here hx rfl (hb hby at_154) rfl (l' := #[.val (.int p0), .val (.int p1), .val (.int p2), .val (.int p3), .val (.int p4), .val (.int (gl p0)), .val (.int (gf p1)), .val (.int (gs p2)), .val (.ref b1), .val (.ref b8), .val (.int (1 : Int32)), .val (.int (0 : Int32)), .unset, .unset]) rfl ?_
        show Steps p.tables e below (T44.setTop (mkF m 156 #[.val (.int p0), .val (.int p1), .val (.int p2), .val (.int p3), .val (.int p4), .val (.int (gl p0)), .val (.int (gf p1)), .val (.int (gs p2)), .val (.ref b1), .val (.ref b8), .val (.int (1 : Int32)), .val (.int (0 : Int32)), .unset, .unset] [])) _
        refine XS.iload X44.here hx rfl (hb hby at_156) rfl ?_
        show Steps p.tables e below (T44.setTop (mkF m 158 #[.val (.int p0), .val (.int p1), .val (.int p2), .val (.int p3), .val (.int p4), .val (.int (gl p0)), .val (.int (gf p1)), .val (.int (gs p2)), .val (.ref b1), .val (.ref b8), .val (.int (1 : Int32)), .val (.int (0 : Int32)), .unset, .unset] [(.int (0 : Int32))])) _
        refine XS.ifYes X44.here hx rfl (pc0 := 158) (pc' := 166) rfl (hb hby at_158) rfl ((if0 _ _).trans (teq (rfl : (0 : Int32) = (0 : Int32))).1) (by decide) (by decide) ?_
        show Steps p.tables e below (T44.setTop (mkF m 166 #[.val (.int p0), .val (.int p1), .val (.int p2), .val (.int p3), .val (.int p4), .val (.int (gl p0)), .val (.int (gf p1)), .val (.int (gs p2)), .val (.ref b1), .val (.ref b8), .val (.int (1 : Int32)), .val (.int (0 : Int32)), .unset, .unset] [])) _
        refine XS.iconst X44.here hx rfl (hb hby at_166) ?_
        show Steps p.tables e below (T44.setTop (mkF m 167 #[.val (.int p0), .val (.int p1), .val (.int p2), .val (.int p3), .val (.int p4), .val (.int (gl p0)), .val (.int (gf p1)), .val (.int (gs p2)), .val (.ref b1), .val (.ref b8), .val (.int (1 : Int32)), .val (.int (0 : Int32)), .unset, .unset] [(.int (0 : Int32))])) _
        refine XS.istore X44.here hx rfl (hb hby at_167) rfl (l' := #[.val (.int p0), .val (.int p1), .val (.int p2), .val (.int p3), .val (.int p4), .val (.int (gl p0)), .val (.int (gf p1)), .val (.int (gs p2)), .val (.ref b1), .val (.ref b8), .val (.int (1 : Int32)), .val (.int (0 : Int32)), .val (.int (0 : Int32)), .unset]) rfl ?_
        show Steps p.tables e below (T44.setTop (mkF m 169 #[.val (.int p0), .val (.int p1), .val (.int p2), .val (.int p3), .val (.int p4), .val (.int (gl p0)), .val (.int (gf p1)), .val (.int (gs p2)), .val (.ref b1), .val (.ref b8), .val (.int (1 : Int32)), .val (.int (0 : Int32)), .val (.int (0 : Int32)), .unset] [])) _
        refine XS.iload X44.here hx rfl (hb hby at_169) rfl ?_
        show Steps p.tables e below (T44.setTop (mkF m 171 #[.val (.int p0), .val (.int p1), .val (.int p2), .val (.int p3), .val (.int p4), .val (.int (gl p0)), .val (.int (gf p1)), .val (.int (gs p2)), .val (.ref b1), .val (.ref b8), .val (.int (1 : Int32)), .val (.int (0 : Int32)), .val (.int (0 : Int32)), .unset] [(.int (1 : Int32))])) _
        refine XS.ifNo X44.here hx rfl (hb hby at_171) rfl ((if0 _ _).trans (feq (by decide : ¬ ((1 : Int32) = (0 : Int32)))).1) ?_
        show Steps p.tables e below (T44.setTop (mkF m 174 #[.val (.int p0), .val (.int p1), .val (.int p2), .val (.int p3), .val (.int p4), .val (.int (gl p0)), .val (.int (gf p1)), .val (.int (gs p2)), .val (.ref b1), .val (.ref b8), .val (.int (1 : Int32)), .val (.int (0 : Int32)), .val (.int (0 : Int32)), .unset] [])) _
        refine XS.aload X44.here hx rfl (hb hby at_174) rfl rfl ?_
        show Steps p.tables e below (T44.setTop (mkF m 176 #[.val (.int p0), .val (.int p1), .val (.int p2), .val (.int p3), .val (.int p4), .val (.int (gl p0)), .val (.int (gf p1)), .val (.int (gs p2)), .val (.ref b1), .val (.ref b8), .val (.int (1 : Int32)), .val (.int (0 : Int32)), .val (.int (0 : Int32)), .unset] [(.ref b8)])) _
        refine st46.trans ?_
        show Steps p.tables e below (T46.setTop (mkF m 179 #[.val (.int p0), .val (.int p1), .val (.int p2), .val (.int p3), .val (.int p4), .val (.int (gl p0)), .val (.int (gf p1)), .val (.int (gs p2)), .val (.ref b1), .val (.ref b8), .val (.int (1 : Int32)), .val (.int (0 : Int32)), .val (.int (0 : Int32)), .unset] [(.int r46)])) _
        refine XS.iload X46.here hx rfl (hb hby at_179) rfl ?_
        show Steps p.tables e below (T46.setTop (mkF m 181 #[.val (.int p0), .val (.int p1), .val (.int p2), .val (.int p3), .val (.int p4), .val (.int (gl p0)), .val (.int (gf p1)), .val (.int (gs p2)), .val (.ref b1), .val (.ref b8), .val (.int (1 : Int32)), .val (.int (0 : Int32)), .val (.int (0 : Int32)), .unset] [(.int (0 : Int32)), (.int r46)])) _
        refine XS.icmpNo X46.here hx rfl (hb hby at_181) rfl (teq (show r46 = (0 : Int32) from (own_eq0 hr46 rfl))).2 ?_
        show Steps p.tables e below (T46.setTop (mkF m 184 #[.val (.int p0), .val (.int p1), .val (.int p2), .val (.int p3), .val (.int p4), .val (.int (gl p0)), .val (.int (gf p1)), .val (.int (gs p2)), .val (.ref b1), .val (.ref b8), .val (.int (1 : Int32)), .val (.int (0 : Int32)), .val (.int (0 : Int32)), .unset] [])) _
        refine XS.iconst X46.here hx rfl (hb hby at_184) ?_
        show Steps p.tables e below (T46.setTop (mkF m 185 #[.val (.int p0), .val (.int p1), .val (.int p2), .val (.int p3), .val (.int p4), .val (.int (gl p0)), .val (.int (gf p1)), .val (.int (gs p2)), .val (.ref b1), .val (.ref b8), .val (.int (1 : Int32)), .val (.int (0 : Int32)), .val (.int (0 : Int32)), .unset] [(.int (1 : Int32))])) _
        refine XS.goto X46.here hx rfl (pc0 := 185) (pc' := 189) rfl (hb hby at_185) (by decide) (by decide) ?_
        show Steps p.tables e below (T46.setTop (mkF m 189 #[.val (.int p0), .val (.int p1), .val (.int p2), .val (.int p3), .val (.int p4), .val (.int (gl p0)), .val (.int (gf p1)), .val (.int (gs p2)), .val (.ref b1), .val (.ref b8), .val (.int (1 : Int32)), .val (.int (0 : Int32)), .val (.int (0 : Int32)), .unset] [(.int (1 : Int32))])) _
        refine XS.istore X46.here hx rfl (hb hby at_189) rfl (l' := #[.val (.int p0), .val (.int p1), .val (.int p2), .val (.int p3), .val (.int p4), .val (.int (gl p0)), .val (.int (gf p1)), .val (.int (gs p2)), .val (.ref b1), .val (.ref b8), .val (.int (1 : Int32)), .val (.int (0 : Int32)), .val (.int (0 : Int32)), .unset]) rfl ?_
        show Steps p.tables e below (T46.setTop (mkF m 191 #[.val (.int p0), .val (.int p1), .val (.int p2), .val (.int p3), .val (.int p4), .val (.int (gl p0)), .val (.int (gf p1)), .val (.int (gs p2)), .val (.ref b1), .val (.ref b8), .val (.int (1 : Int32)), .val (.int (0 : Int32)), .val (.int (0 : Int32)), .unset] [])) _
        refine XS.iload X46.here hx rfl (hb hby at_191) rfl ?_
        show Steps p.tables e below (T46.setTop (mkF m 193 #[.val (.int p0), .val (.int p1), .val (.int p2), .val (.int p3), .val (.int p4), .val (.int (gl p0)), .val (.int (gf p1)), .val (.int (gs p2)), .val (.ref b1), .val (.ref b8), .val (.int (1 : Int32)), .val (.int (0 : Int32)), .val (.int (0 : Int32)), .unset] [(.int (1 : Int32))])) _
        refine XS.ifNo X46.here hx rfl (hb hby at_193) rfl ((if0 _ _).trans (feq (by decide : ¬ ((1 : Int32) = (0 : Int32)))).1) ?_
        show Steps p.tables e below (T46.setTop (mkF m 196 #[.val (.int p0), .val (.int p1), .val (.int p2), .val (.int p3), .val (.int p4), .val (.int (gl p0)), .val (.int (gf p1)), .val (.int (gs p2)), .val (.ref b1), .val (.ref b8), .val (.int (1 : Int32)), .val (.int (0 : Int32)), .val (.int (0 : Int32)), .unset] [])) _
        refine XS.iload X46.here hx rfl (hb hby at_196) rfl ?_
        show Steps p.tables e below (T46.setTop (mkF m 198 #[.val (.int p0), .val (.int p1), .val (.int p2), .val (.int p3), .val (.int p4), .val (.int (gl p0)), .val (.int (gf p1)), .val (.int (gs p2)), .val (.ref b1), .val (.ref b8), .val (.int (1 : Int32)), .val (.int (0 : Int32)), .val (.int (0 : Int32)), .unset] [(.int (0 : Int32))])) _
        refine XS.iconst X46.here hx rfl (hb hby at_198) ?_
        show Steps p.tables e below (T46.setTop (mkF m 199 #[.val (.int p0), .val (.int p1), .val (.int p2), .val (.int p3), .val (.int p4), .val (.int (gl p0)), .val (.int (gf p1)), .val (.int (gs p2)), .val (.ref b1), .val (.ref b8), .val (.int (1 : Int32)), .val (.int (0 : Int32)), .val (.int (0 : Int32)), .unset] [(.int (2 : Int32)), (.int (0 : Int32))])) _
        refine XS.icmpYes X46.here hx rfl (pc0 := 199) (pc' := 232) rfl (hb hby at_199) rfl (tlt (by decide : (0 : Int32) < (2 : Int32))).1 (by decide) (by decide) ?_
        show Steps p.tables e below (T46.setTop (mkF m 232 #[.val (.int p0), .val (.int p1), .val (.int p2), .val (.int p3), .val (.int p4), .val (.int (gl p0)), .val (.int (gf p1)), .val (.int (gs p2)), .val (.ref b1), .val (.ref b8), .val (.int (1 : Int32)), .val (.int (0 : Int32)), .val (.int (0 : Int32)), .unset] [])) _
        refine XS.aload X46.here hx rfl (hb hby at_232) rfl rfl ?_
        show Steps p.tables e below (T46.setTop (mkF m 234 #[.val (.int p0), .val (.int p1), .val (.int p2), .val (.int p3), .val (.int p4), .val (.int (gl p0)), .val (.int (gf p1)), .val (.int (gs p2)), .val (.ref b1), .val (.ref b8), .val (.int (1 : Int32)), .val (.int (0 : Int32)), .val (.int (0 : Int32)), .unset] [(.ref b8)])) _
        refine XS.iloadN X46.here hx rfl (hb hby at_234) rfl ?_
        show Steps p.tables e below (T46.setTop (mkF m 235 #[.val (.int p0), .val (.int p1), .val (.int p2), .val (.int p3), .val (.int p4), .val (.int (gl p0)), .val (.int (gf p1)), .val (.int (gs p2)), .val (.ref b1), .val (.ref b8), .val (.int (1 : Int32)), .val (.int (0 : Int32)), .val (.int (0 : Int32)), .unset] [(.int p3), (.ref b8)])) _
        refine XS.i2b X46.here hx rfl (hb hby at_235) rfl ?_
        show Steps p.tables e below (T46.setTop (mkF m 236 #[.val (.int p0), .val (.int p1), .val (.int p2), .val (.int p3), .val (.int p4), .val (.int (gl p0)), .val (.int (gf p1)), .val (.int (gs p2)), .val (.ref b1), .val (.ref b8), .val (.int (1 : Int32)), .val (.int (0 : Int32)), .val (.int (0 : Int32)), .unset] [(.int (p3.toInt8.toInt32)), (.ref b8)])) _
        refine st47.trans ?_
        exact kt
      rcases hr47 with ⟨rfl, hnO, rfl⟩ | ⟨rfl, hyO, rfl⟩
      · skip
        obtain ⟨cq49, kq49, q49a, q49b, q49c⟩ := isOf hZ rfl (own_bbE B47q)
        obtain ⟨_, _, ⟨T49, L49, k49, n49⟩, -, X49, ⟨Lc49, hQ49, l49, y49, z49⟩, st49⟩ := X47.virtualBack hx (y := (⟨"com/example/benchwire/benchwire/protocols/BoundedBuffer", "size", "()I"⟩ : MethodName)) (z := (⟨"com/example/benchwire/benchwire/protocols/BoundedBuffer", "size", "()I"⟩ : MethodName)) hown (mvT hZ (hw _ (List.mem_of_getElem? (i := 35) rfl))) (mvT hZ (hw _ (List.mem_of_getElem? (i := 36) rfl))) (notFace_of_selects (args := #[]) (mvT hZ (hw _ (List.mem_of_getElem? (i := 38) rfl)))) (mvT hZ (hw _ (List.mem_of_getElem? (i := 38) rfl))) (mvT hZ (hw _ (List.mem_of_getElem? (i := 37) rfl))) (by decide) (backOf (W := 0) (rm7 l Z a0 hw [] b8 b1 fs lim 0 cap47 f47 T47.heap n0 Z47q B47q) hZ (hw _ (List.mem_of_getElem? (i := 39) rfl)) (hw _ (List.mem_of_getElem? (i := 4) rfl)) (by decide) (by decide)) q49a q49c (g := (mkF m 277 #[.val (.int p0), .val (.int p1), .val (.int p2), .val (.int p3), .val (.int p4), .val (.int (gl p0)), .val (.int (gf p1)), .val (.int (gs p2)), .val (.ref b1), .val (.ref b8), .val (.int (1 : Int32)), .val (.int (0 : Int32)), .val (.int (0 : Int32)), .val (.int (0 : Int32))] [(.ref b8)])) rfl (by rw [hml]; rfl) (Steps.refl _) (argsL := []) (rest := []) (lenOf pd_8 rfl) rfl (by show 2 * 0 + _ ≤ _; exact Nat.le_of_eq rfl) (hb hby at_277) (fun _ _ => ⟨rfl, rfl, (by decide : 7 + 0 ≤ _), (by decide : 2348 + 0 ≤ _)⟩)
        dsimp only [Pt.U, Pt.locs, Pt.cells, Pt.slots] at X49 l49 y49 z49 st49 hQ49
        subst l49 y49 z49
        obtain ⟨r49, rfl, hr49, rfl, e49⟩ := hQ49
        try rw [List.append_nil] at X49
        have K50 : ∀ t, Steps p.tables e below (T49.setTop (mkF m 305 #[.val (.int p0), .val (.int p1), .val (.int p2), .val (.int p3), .val (.int p4), .val (.int (gl p0)), .val (.int (gf p1)), .val (.int (gs p2)), .val (.ref b1), .val (.ref b8), .val (.int (1 : Int32)), .val (.int (0 : Int32)), .val (.int (0 : Int32)), .val (.int (0 : Int32))] [(.int (1 : Int32))])) t → Steps p.tables e below (s₁.setTop (mkF m 0 #[.val (.int p0), .val (.int p1), .val (.int p2), .val (.int p3), .val (.int p4), .unset, .unset, .unset, .unset, .unset, .unset, .unset, .unset, .unset] [])) t := by
          intro t kt
          refine K48 _ ?_
          show Steps p.tables e below (T47.setTop (mkF m 239 #[.val (.int p0), .val (.int p1), .val (.int p2), .val (.int p3), .val (.int p4), .val (.int (gl p0)), .val (.int (gf p1)), .val (.int (gs p2)), .val (.ref b1), .val (.ref b8), .val (.int (1 : Int32)), .val (.int (0 : Int32)), .val (.int (0 : Int32)), .unset] [(.int (0 : Int32))])) _
          refine XS.istore X47.here hx rfl (hb hby at_239) rfl (l' := #[.val (.int p0), .val (.int p1), .val (.int p2), .val (.int p3), .val (.int p4), .val (.int (gl p0)), .val (.int (gf p1)), .val (.int (gs p2)), .val (.ref b1), .val (.ref b8), .val (.int (1 : Int32)), .val (.int (0 : Int32)), .val (.int (0 : Int32)), .val (.int (0 : Int32))]) rfl ?_
          show Steps p.tables e below (T47.setTop (mkF m 241 #[.val (.int p0), .val (.int p1), .val (.int p2), .val (.int p3), .val (.int p4), .val (.int (gl p0)), .val (.int (gf p1)), .val (.int (gs p2)), .val (.ref b1), .val (.ref b8), .val (.int (1 : Int32)), .val (.int (0 : Int32)), .val (.int (0 : Int32)), .val (.int (0 : Int32))] [])) _
          refine XS.iload X47.here hx rfl (hb hby at_241) rfl ?_
          show Steps p.tables e below (T47.setTop (mkF m 243 #[.val (.int p0), .val (.int p1), .val (.int p2), .val (.int p3), .val (.int p4), .val (.int (gl p0)), .val (.int (gf p1)), .val (.int (gs p2)), .val (.ref b1), .val (.ref b8), .val (.int (1 : Int32)), .val (.int (0 : Int32)), .val (.int (0 : Int32)), .val (.int (0 : Int32))] [(.int (1 : Int32))])) _
          refine XS.ifNo X47.here hx rfl (hb hby at_243) rfl ((if0 _ _).trans (feq (by decide : ¬ ((1 : Int32) = (0 : Int32)))).1) ?_
          show Steps p.tables e below (T47.setTop (mkF m 246 #[.val (.int p0), .val (.int p1), .val (.int p2), .val (.int p3), .val (.int p4), .val (.int (gl p0)), .val (.int (gf p1)), .val (.int (gs p2)), .val (.ref b1), .val (.ref b8), .val (.int (1 : Int32)), .val (.int (0 : Int32)), .val (.int (0 : Int32)), .val (.int (0 : Int32))] [])) _
          refine XS.iload X47.here hx rfl (hb hby at_246) rfl ?_
          show Steps p.tables e below (T47.setTop (mkF m 248 #[.val (.int p0), .val (.int p1), .val (.int p2), .val (.int p3), .val (.int p4), .val (.int (gl p0)), .val (.int (gf p1)), .val (.int (gs p2)), .val (.ref b1), .val (.ref b8), .val (.int (1 : Int32)), .val (.int (0 : Int32)), .val (.int (0 : Int32)), .val (.int (0 : Int32))] [(.int (0 : Int32))])) _
          refine XS.iload X47.here hx rfl (hb hby at_248) rfl ?_
          show Steps p.tables e below (T47.setTop (mkF m 250 #[.val (.int p0), .val (.int p1), .val (.int p2), .val (.int p3), .val (.int p4), .val (.int (gl p0)), .val (.int (gf p1)), .val (.int (gs p2)), .val (.ref b1), .val (.ref b8), .val (.int (1 : Int32)), .val (.int (0 : Int32)), .val (.int (0 : Int32)), .val (.int (0 : Int32))] [(.int (0 : Int32)), (.int (0 : Int32))])) _
          refine XS.iload X47.here hx rfl (hb hby at_250) rfl ?_
          show Steps p.tables e below (T47.setTop (mkF m 252 #[.val (.int p0), .val (.int p1), .val (.int p2), .val (.int p3), .val (.int p4), .val (.int (gl p0)), .val (.int (gf p1)), .val (.int (gs p2)), .val (.ref b1), .val (.ref b8), .val (.int (1 : Int32)), .val (.int (0 : Int32)), .val (.int (0 : Int32)), .val (.int (0 : Int32))] [(.int (gl p0)), (.int (0 : Int32)), (.int (0 : Int32))])) _
          refine XS.icmpYes X47.here hx rfl (pc0 := 252) (pc' := 259) rfl (hb hby at_252) rfl (flt (show ¬ ((0 : Int32) < (gl p0)) from (own_nlt (show (0 : Int32).toInt = ((0 : Nat) : Int) from rfl) hlm (by omega)))).2.1 (by decide) (by decide) ?_
          show Steps p.tables e below (T47.setTop (mkF m 259 #[.val (.int p0), .val (.int p1), .val (.int p2), .val (.int p3), .val (.int p4), .val (.int (gl p0)), .val (.int (gf p1)), .val (.int (gs p2)), .val (.ref b1), .val (.ref b8), .val (.int (1 : Int32)), .val (.int (0 : Int32)), .val (.int (0 : Int32)), .val (.int (0 : Int32))] [(.int (0 : Int32))])) _
          refine XS.iconst X47.here hx rfl (hb hby at_259) ?_
          show Steps p.tables e below (T47.setTop (mkF m 260 #[.val (.int p0), .val (.int p1), .val (.int p2), .val (.int p3), .val (.int p4), .val (.int (gl p0)), .val (.int (gf p1)), .val (.int (gs p2)), .val (.ref b1), .val (.ref b8), .val (.int (1 : Int32)), .val (.int (0 : Int32)), .val (.int (0 : Int32)), .val (.int (0 : Int32))] [(.int (0 : Int32)), (.int (0 : Int32))])) _
          refine XS.icmpNo X47.here hx rfl (hb hby at_260) rfl (teq (rfl : (0 : Int32) = (0 : Int32))).2 ?_
          show Steps p.tables e below (T47.setTop (mkF m 263 #[.val (.int p0), .val (.int p1), .val (.int p2), .val (.int p3), .val (.int p4), .val (.int (gl p0)), .val (.int (gf p1)), .val (.int (gs p2)), .val (.ref b1), .val (.ref b8), .val (.int (1 : Int32)), .val (.int (0 : Int32)), .val (.int (0 : Int32)), .val (.int (0 : Int32))] [])) _
          refine XS.iconst X47.here hx rfl (hb hby at_263) ?_
          show Steps p.tables e below (T47.setTop (mkF m 264 #[.val (.int p0), .val (.int p1), .val (.int p2), .val (.int p3), .val (.int p4), .val (.int (gl p0)), .val (.int (gf p1)), .val (.int (gs p2)), .val (.ref b1), .val (.ref b8), .val (.int (1 : Int32)), .val (.int (0 : Int32)), .val (.int (0 : Int32)), .val (.int (0 : Int32))] [(.int (1 : Int32))])) _
          refine XS.goto X47.here hx rfl (pc0 := 264) (pc' := 268) rfl (hb hby at_264) (by decide) (by decide) ?_
          show Steps p.tables e below (T47.setTop (mkF m 268 #[.val (.int p0), .val (.int p1), .val (.int p2), .val (.int p3), .val (.int p4), .val (.int (gl p0)), .val (.int (gf p1)), .val (.int (gs p2)), .val (.ref b1), .val (.ref b8), .val (.int (1 : Int32)), .val (.int (0 : Int32)), .val (.int (0 : Int32)), .val (.int (0 : Int32))] [(.int (1 : Int32))])) _
          refine XS.istore X47.here hx rfl (hb hby at_268) rfl (l' := #[.val (.int p0), .val (.int p1), .val (.int p2), .val (.int p3), .val (.int p4), .val (.int (gl p0)), .val (.int (gf p1)), .val (.int (gs p2)), .val (.ref b1), .val (.ref b8), .val (.int (1 : Int32)), .val (.int (0 : Int32)), .val (.int (0 : Int32)), .val (.int (0 : Int32))]) rfl ?_
          show Steps p.tables e below (T47.setTop (mkF m 270 #[.val (.int p0), .val (.int p1), .val (.int p2), .val (.int p3), .val (.int p4), .val (.int (gl p0)), .val (.int (gf p1)), .val (.int (gs p2)), .val (.ref b1), .val (.ref b8), .val (.int (1 : Int32)), .val (.int (0 : Int32)), .val (.int (0 : Int32)), .val (.int (0 : Int32))] [])) _
          refine XS.iload X47.here hx rfl (hb hby at_270) rfl ?_
          show Steps p.tables e below (T47.setTop (mkF m 272 #[.val (.int p0), .val (.int p1), .val (.int p2), .val (.int p3), .val (.int p4), .val (.int (gl p0)), .val (.int (gf p1)), .val (.int (gs p2)), .val (.ref b1), .val (.ref b8), .val (.int (1 : Int32)), .val (.int (0 : Int32)), .val (.int (0 : Int32)), .val (.int (0 : Int32))] [(.int (1 : Int32))])) _
          refine XS.ifNo X47.here hx rfl (hb hby at_272) rfl ((if0 _ _).trans (feq (by decide : ¬ ((1 : Int32) = (0 : Int32)))).1) ?_
          show Steps p.tables e below (T47.setTop (mkF m 275 #[.val (.int p0), .val (.int p1), .val (.int p2), .val (.int p3), .val (.int p4), .val (.int (gl p0)), .val (.int (gf p1)), .val (.int (gs p2)), .val (.ref b1), .val (.ref b8), .val (.int (1 : Int32)), .val (.int (0 : Int32)), .val (.int (0 : Int32)), .val (.int (0 : Int32))] [])) _
          refine XS.aload X47.here hx rfl (hb hby at_275) rfl rfl ?_
          show Steps p.tables e below (T47.setTop (mkF m 277 #[.val (.int p0), .val (.int p1), .val (.int p2), .val (.int p3), .val (.int p4), .val (.int (gl p0)), .val (.int (gf p1)), .val (.int (gs p2)), .val (.ref b1), .val (.ref b8), .val (.int (1 : Int32)), .val (.int (0 : Int32)), .val (.int (0 : Int32)), .val (.int (0 : Int32))] [(.ref b8)])) _
          refine st49.trans ?_
          show Steps p.tables e below (T49.setTop (mkF m 280 #[.val (.int p0), .val (.int p1), .val (.int p2), .val (.int p3), .val (.int p4), .val (.int (gl p0)), .val (.int (gf p1)), .val (.int (gs p2)), .val (.ref b1), .val (.ref b8), .val (.int (1 : Int32)), .val (.int (0 : Int32)), .val (.int (0 : Int32)), .val (.int (0 : Int32))] [(.int r49)])) _
          refine XS.iload X49.here hx rfl (hb hby at_280) rfl ?_
          show Steps p.tables e below (T49.setTop (mkF m 282 #[.val (.int p0), .val (.int p1), .val (.int p2), .val (.int p3), .val (.int p4), .val (.int (gl p0)), .val (.int (gf p1)), .val (.int (gs p2)), .val (.ref b1), .val (.ref b8), .val (.int (1 : Int32)), .val (.int (0 : Int32)), .val (.int (0 : Int32)), .val (.int (0 : Int32))] [(.int (0 : Int32)), (.int r49)])) _
          refine XS.iload X49.here hx rfl (hb hby at_282) rfl ?_
          show Steps p.tables e below (T49.setTop (mkF m 284 #[.val (.int p0), .val (.int p1), .val (.int p2), .val (.int p3), .val (.int p4), .val (.int (gl p0)), .val (.int (gf p1)), .val (.int (gs p2)), .val (.ref b1), .val (.ref b8), .val (.int (1 : Int32)), .val (.int (0 : Int32)), .val (.int (0 : Int32)), .val (.int (0 : Int32))] [(.int (0 : Int32)), (.int (0 : Int32)), (.int r49)])) _
          refine XS.ifYes X49.here hx rfl (pc0 := 284) (pc' := 291) rfl (hb hby at_284) rfl ((if0 _ _).trans (teq (rfl : (0 : Int32) = (0 : Int32))).1) (by decide) (by decide) ?_
          show Steps p.tables e below (T49.setTop (mkF m 291 #[.val (.int p0), .val (.int p1), .val (.int p2), .val (.int p3), .val (.int p4), .val (.int (gl p0)), .val (.int (gf p1)), .val (.int (gs p2)), .val (.ref b1), .val (.ref b8), .val (.int (1 : Int32)), .val (.int (0 : Int32)), .val (.int (0 : Int32)), .val (.int (0 : Int32))] [(.int (0 : Int32)), (.int r49)])) _
          refine XS.iconst X49.here hx rfl (hb hby at_291) ?_
          show Steps p.tables e below (T49.setTop (mkF m 292 #[.val (.int p0), .val (.int p1), .val (.int p2), .val (.int p3), .val (.int p4), .val (.int (gl p0)), .val (.int (gf p1)), .val (.int (gs p2)), .val (.ref b1), .val (.ref b8), .val (.int (1 : Int32)), .val (.int (0 : Int32)), .val (.int (0 : Int32)), .val (.int (0 : Int32))] [(.int (0 : Int32)), (.int (0 : Int32)), (.int r49)])) _
          refine XS.iadd X49.here hx rfl (hb hby at_292) rfl ?_
          show Steps p.tables e below (T49.setTop (mkF m 293 #[.val (.int p0), .val (.int p1), .val (.int p2), .val (.int p3), .val (.int p4), .val (.int (gl p0)), .val (.int (gf p1)), .val (.int (gs p2)), .val (.ref b1), .val (.ref b8), .val (.int (1 : Int32)), .val (.int (0 : Int32)), .val (.int (0 : Int32)), .val (.int (0 : Int32))] [(.int ((0 : Int32) + (0 : Int32))), (.int r49)])) _
          refine XS.icmpNo X49.here hx rfl (hb hby at_293) rfl (teq (show r49 = ((0 : Int32) + (0 : Int32)) from (own_eq0 hr49 (by rfl)))).2 ?_
          show Steps p.tables e below (T49.setTop (mkF m 296 #[.val (.int p0), .val (.int p1), .val (.int p2), .val (.int p3), .val (.int p4), .val (.int (gl p0)), .val (.int (gf p1)), .val (.int (gs p2)), .val (.ref b1), .val (.ref b8), .val (.int (1 : Int32)), .val (.int (0 : Int32)), .val (.int (0 : Int32)), .val (.int (0 : Int32))] [])) _
          refine XS.iconst X49.here hx rfl (hb hby at_296) ?_
          show Steps p.tables e below (T49.setTop (mkF m 297 #[.val (.int p0), .val (.int p1), .val (.int p2), .val (.int p3), .val (.int p4), .val (.int (gl p0)), .val (.int (gf p1)), .val (.int (gs p2)), .val (.ref b1), .val (.ref b8), .val (.int (1 : Int32)), .val (.int (0 : Int32)), .val (.int (0 : Int32)), .val (.int (0 : Int32))] [(.int (1 : Int32))])) _
          refine XS.goto X49.here hx rfl (pc0 := 297) (pc' := 301) rfl (hb hby at_297) (by decide) (by decide) ?_
          show Steps p.tables e below (T49.setTop (mkF m 301 #[.val (.int p0), .val (.int p1), .val (.int p2), .val (.int p3), .val (.int p4), .val (.int (gl p0)), .val (.int (gf p1)), .val (.int (gs p2)), .val (.ref b1), .val (.ref b8), .val (.int (1 : Int32)), .val (.int (0 : Int32)), .val (.int (0 : Int32)), .val (.int (0 : Int32))] [(.int (1 : Int32))])) _
          refine XS.istore X49.here hx rfl (hb hby at_301) rfl (l' := #[.val (.int p0), .val (.int p1), .val (.int p2), .val (.int p3), .val (.int p4), .val (.int (gl p0)), .val (.int (gf p1)), .val (.int (gs p2)), .val (.ref b1), .val (.ref b8), .val (.int (1 : Int32)), .val (.int (0 : Int32)), .val (.int (0 : Int32)), .val (.int (0 : Int32))]) rfl ?_
          show Steps p.tables e below (T49.setTop (mkF m 303 #[.val (.int p0), .val (.int p1), .val (.int p2), .val (.int p3), .val (.int p4), .val (.int (gl p0)), .val (.int (gf p1)), .val (.int (gs p2)), .val (.ref b1), .val (.ref b8), .val (.int (1 : Int32)), .val (.int (0 : Int32)), .val (.int (0 : Int32)), .val (.int (0 : Int32))] [])) _
          refine XS.iload X49.here hx rfl (hb hby at_303) rfl ?_
          exact kt
        obtain ⟨fsQ, hr, hrun, hended, hW, hsame⟩ := X49.leave (v := some (.int (1 : Int32))) (fun h => by rw [Bd.returns] at h; cases h)
        refine ⟨_, _, pre0 _ (K50 _ ?_), hrun, hended, _, _, rfl, ?_, ⟨_, rfl⟩, hW, hsame.mono (by decide) (by decide)⟩
        · show Steps p.tables e below (T49.setTop (mkF m 305 #[.val (.int p0), .val (.int p1), .val (.int p2), .val (.int p3), .val (.int p4), .val (.int (gl p0)), .val (.int (gf p1)), .val (.int (gs p2)), .val (.ref b1), .val (.ref b8), .val (.int (1 : Int32)), .val (.int (0 : Int32)), .val (.int (0 : Int32)), .val (.int (0 : Int32))] [(.int (1 : Int32))])) _
          exact retN X49 hx (t := .boolean) Bd.returns (by simp) (hb hby at_305) hr
        · show Q0 Z p0 p1 p2 p3 p4  h0 n0 _ T49.heap _
          rw [e49]
          exact ⟨rfl, N47⟩
      · skip
        obtain ⟨cq51, kq51, q51a, q51b, q51c⟩ := isOf hZ rfl (own_bbE B47q)
        obtain ⟨_, _, ⟨T51, L51, k51, n51⟩, -, X51, ⟨Lc51, hQ51, l51, y51, z51⟩, st51⟩ := X47.virtualBack hx (y := (⟨"com/example/benchwire/benchwire/protocols/BoundedBuffer", "size", "()I"⟩ : MethodName)) (z := (⟨"com/example/benchwire/benchwire/protocols/BoundedBuffer", "size", "()I"⟩ : MethodName)) hown (mvT hZ (hw _ (List.mem_of_getElem? (i := 35) rfl))) (mvT hZ (hw _ (List.mem_of_getElem? (i := 36) rfl))) (notFace_of_selects (args := #[]) (mvT hZ (hw _ (List.mem_of_getElem? (i := 38) rfl)))) (mvT hZ (hw _ (List.mem_of_getElem? (i := 38) rfl))) (mvT hZ (hw _ (List.mem_of_getElem? (i := 37) rfl))) (by decide) (backOf (W := 0) (rm7 l Z a0 hw [] b8 b1 fs lim (0 + 1) cap47 f47 T47.heap n0 Z47q B47q) hZ (hw _ (List.mem_of_getElem? (i := 39) rfl)) (hw _ (List.mem_of_getElem? (i := 4) rfl)) (by decide) (by decide)) q51a q51c (g := (mkF m 277 #[.val (.int p0), .val (.int p1), .val (.int p2), .val (.int p3), .val (.int p4), .val (.int (gl p0)), .val (.int (gf p1)), .val (.int (gs p2)), .val (.ref b1), .val (.ref b8), .val (.int (1 : Int32)), .val (.int (0 : Int32)), .val (.int (0 : Int32)), .val (.int (1 : Int32))] [(.ref b8)])) rfl (by rw [hml]; rfl) (Steps.refl _) (argsL := []) (rest := []) (lenOf pd_8 rfl) rfl (by show 2 * 0 + _ ≤ _; exact Nat.le_of_eq rfl) (hb hby at_277) (fun _ _ => ⟨rfl, rfl, (by decide : 7 + 0 ≤ _), (by decide : 2348 + 0 ≤ _)⟩)
        dsimp only [Pt.U, Pt.locs, Pt.cells, Pt.slots] at X51 l51 y51 z51 st51 hQ51
        subst l51 y51 z51
        obtain ⟨r51, rfl, hr51, rfl, e51⟩ := hQ51
        try rw [List.append_nil] at X51
        have K52 : ∀ t, Steps p.tables e below (T51.setTop (mkF m 305 #[.val (.int p0), .val (.int p1), .val (.int p2), .val (.int p3), .val (.int p4), .val (.int (gl p0)), .val (.int (gf p1)), .val (.int (gs p2)), .val (.ref b1), .val (.ref b8), .val (.int (1 : Int32)), .val (.int (0 : Int32)), .val (.int (0 : Int32)), .val (.int (1 : Int32))] [(.int (1 : Int32))])) t → Steps p.tables e below (s₁.setTop (mkF m 0 #[.val (.int p0), .val (.int p1), .val (.int p2), .val (.int p3), .val (.int p4), .unset, .unset, .unset, .unset, .unset, .unset, .unset, .unset, .unset] [])) t := by
          intro t kt
          refine K48 _ ?_
          show Steps p.tables e below (T47.setTop (mkF m 239 #[.val (.int p0), .val (.int p1), .val (.int p2), .val (.int p3), .val (.int p4), .val (.int (gl p0)), .val (.int (gf p1)), .val (.int (gs p2)), .val (.ref b1), .val (.ref b8), .val (.int (1 : Int32)), .val (.int (0 : Int32)), .val (.int (0 : Int32)), .unset] [(.int (1 : Int32))])) _
          refine XS.istore X47.here hx rfl (hb hby at_239) rfl (l' := #[.val (.int p0), .val (.int p1), .val (.int p2), .val (.int p3), .val (.int p4), .val (.int (gl p0)), .val (.int (gf p1)), .val (.int (gs p2)), .val (.ref b1), .val (.ref b8), .val (.int (1 : Int32)), .val (.int (0 : Int32)), .val (.int (0 : Int32)), .val (.int (1 : Int32))]) rfl ?_
          show Steps p.tables e below (T47.setTop (mkF m 241 #[.val (.int p0), .val (.int p1), .val (.int p2), .val (.int p3), .val (.int p4), .val (.int (gl p0)), .val (.int (gf p1)), .val (.int (gs p2)), .val (.ref b1), .val (.ref b8), .val (.int (1 : Int32)), .val (.int (0 : Int32)), .val (.int (0 : Int32)), .val (.int (1 : Int32))] [])) _
          refine XS.iload X47.here hx rfl (hb hby at_241) rfl ?_
          show Steps p.tables e below (T47.setTop (mkF m 243 #[.val (.int p0), .val (.int p1), .val (.int p2), .val (.int p3), .val (.int p4), .val (.int (gl p0)), .val (.int (gf p1)), .val (.int (gs p2)), .val (.ref b1), .val (.ref b8), .val (.int (1 : Int32)), .val (.int (0 : Int32)), .val (.int (0 : Int32)), .val (.int (1 : Int32))] [(.int (1 : Int32))])) _
          refine XS.ifNo X47.here hx rfl (hb hby at_243) rfl ((if0 _ _).trans (feq (by decide : ¬ ((1 : Int32) = (0 : Int32)))).1) ?_
          show Steps p.tables e below (T47.setTop (mkF m 246 #[.val (.int p0), .val (.int p1), .val (.int p2), .val (.int p3), .val (.int p4), .val (.int (gl p0)), .val (.int (gf p1)), .val (.int (gs p2)), .val (.ref b1), .val (.ref b8), .val (.int (1 : Int32)), .val (.int (0 : Int32)), .val (.int (0 : Int32)), .val (.int (1 : Int32))] [])) _
          refine XS.iload X47.here hx rfl (hb hby at_246) rfl ?_
          show Steps p.tables e below (T47.setTop (mkF m 248 #[.val (.int p0), .val (.int p1), .val (.int p2), .val (.int p3), .val (.int p4), .val (.int (gl p0)), .val (.int (gf p1)), .val (.int (gs p2)), .val (.ref b1), .val (.ref b8), .val (.int (1 : Int32)), .val (.int (0 : Int32)), .val (.int (0 : Int32)), .val (.int (1 : Int32))] [(.int (1 : Int32))])) _
          refine XS.iload X47.here hx rfl (hb hby at_248) rfl ?_
          show Steps p.tables e below (T47.setTop (mkF m 250 #[.val (.int p0), .val (.int p1), .val (.int p2), .val (.int p3), .val (.int p4), .val (.int (gl p0)), .val (.int (gf p1)), .val (.int (gs p2)), .val (.ref b1), .val (.ref b8), .val (.int (1 : Int32)), .val (.int (0 : Int32)), .val (.int (0 : Int32)), .val (.int (1 : Int32))] [(.int (0 : Int32)), (.int (1 : Int32))])) _
          refine XS.iload X47.here hx rfl (hb hby at_250) rfl ?_
          show Steps p.tables e below (T47.setTop (mkF m 252 #[.val (.int p0), .val (.int p1), .val (.int p2), .val (.int p3), .val (.int p4), .val (.int (gl p0)), .val (.int (gf p1)), .val (.int (gs p2)), .val (.ref b1), .val (.ref b8), .val (.int (1 : Int32)), .val (.int (0 : Int32)), .val (.int (0 : Int32)), .val (.int (1 : Int32))] [(.int (gl p0)), (.int (0 : Int32)), (.int (1 : Int32))])) _
          refine XS.icmpNo X47.here hx rfl (hb hby at_252) rfl (tlt (show (0 : Int32) < (gl p0) from (own_lt (show (0 : Int32).toInt = ((0 : Nat) : Int) from rfl) hlm (by omega)))).2.1 ?_
          show Steps p.tables e below (T47.setTop (mkF m 255 #[.val (.int p0), .val (.int p1), .val (.int p2), .val (.int p3), .val (.int p4), .val (.int (gl p0)), .val (.int (gf p1)), .val (.int (gs p2)), .val (.ref b1), .val (.ref b8), .val (.int (1 : Int32)), .val (.int (0 : Int32)), .val (.int (0 : Int32)), .val (.int (1 : Int32))] [(.int (1 : Int32))])) _
          refine XS.iconst X47.here hx rfl (hb hby at_255) ?_
          show Steps p.tables e below (T47.setTop (mkF m 256 #[.val (.int p0), .val (.int p1), .val (.int p2), .val (.int p3), .val (.int p4), .val (.int (gl p0)), .val (.int (gf p1)), .val (.int (gs p2)), .val (.ref b1), .val (.ref b8), .val (.int (1 : Int32)), .val (.int (0 : Int32)), .val (.int (0 : Int32)), .val (.int (1 : Int32))] [(.int (1 : Int32)), (.int (1 : Int32))])) _
          refine XS.goto X47.here hx rfl (pc0 := 256) (pc' := 260) rfl (hb hby at_256) (by decide) (by decide) ?_
          show Steps p.tables e below (T47.setTop (mkF m 260 #[.val (.int p0), .val (.int p1), .val (.int p2), .val (.int p3), .val (.int p4), .val (.int (gl p0)), .val (.int (gf p1)), .val (.int (gs p2)), .val (.ref b1), .val (.ref b8), .val (.int (1 : Int32)), .val (.int (0 : Int32)), .val (.int (0 : Int32)), .val (.int (1 : Int32))] [(.int (1 : Int32)), (.int (1 : Int32))])) _
          refine XS.icmpNo X47.here hx rfl (hb hby at_260) rfl (teq (rfl : (1 : Int32) = (1 : Int32))).2 ?_
          show Steps p.tables e below (T47.setTop (mkF m 263 #[.val (.int p0), .val (.int p1), .val (.int p2), .val (.int p3), .val (.int p4), .val (.int (gl p0)), .val (.int (gf p1)), .val (.int (gs p2)), .val (.ref b1), .val (.ref b8), .val (.int (1 : Int32)), .val (.int (0 : Int32)), .val (.int (0 : Int32)), .val (.int (1 : Int32))] [])) _
          refine XS.iconst X47.here hx rfl (hb hby at_263) ?_
          show Steps p.tables e below (T47.setTop (mkF m 264 #[.val (.int p0), .val (.int p1), .val (.int p2), .val (.int p3), .val (.int p4), .val (.int (gl p0)), .val (.int (gf p1)), .val (.int (gs p2)), .val (.ref b1), .val (.ref b8), .val (.int (1 : Int32)), .val (.int (0 : Int32)), .val (.int (0 : Int32)), .val (.int (1 : Int32))] [(.int (1 : Int32))])) _
          refine XS.goto X47.here hx rfl (pc0 := 264) (pc' := 268) rfl (hb hby at_264) (by decide) (by decide) ?_
          show Steps p.tables e below (T47.setTop (mkF m 268 #[.val (.int p0), .val (.int p1), .val (.int p2), .val (.int p3), .val (.int p4), .val (.int (gl p0)), .val (.int (gf p1)), .val (.int (gs p2)), .val (.ref b1), .val (.ref b8), .val (.int (1 : Int32)), .val (.int (0 : Int32)), .val (.int (0 : Int32)), .val (.int (1 : Int32))] [(.int (1 : Int32))])) _
          refine XS.istore X47.here hx rfl (hb hby at_268) rfl (l' := #[.val (.int p0), .val (.int p1), .val (.int p2), .val (.int p3), .val (.int p4), .val (.int (gl p0)), .val (.int (gf p1)), .val (.int (gs p2)), .val (.ref b1), .val (.ref b8), .val (.int (1 : Int32)), .val (.int (0 : Int32)), .val (.int (0 : Int32)), .val (.int (1 : Int32))]) rfl ?_
          show Steps p.tables e below (T47.setTop (mkF m 270 #[.val (.int p0), .val (.int p1), .val (.int p2), .val (.int p3), .val (.int p4), .val (.int (gl p0)), .val (.int (gf p1)), .val (.int (gs p2)), .val (.ref b1), .val (.ref b8), .val (.int (1 : Int32)), .val (.int (0 : Int32)), .val (.int (0 : Int32)), .val (.int (1 : Int32))] [])) _
          refine XS.iload X47.here hx rfl (hb hby at_270) rfl ?_
          show Steps p.tables e below (T47.setTop (mkF m 272 #[.val (.int p0), .val (.int p1), .val (.int p2), .val (.int p3), .val (.int p4), .val (.int (gl p0)), .val (.int (gf p1)), .val (.int (gs p2)), .val (.ref b1), .val (.ref b8), .val (.int (1 : Int32)), .val (.int (0 : Int32)), .val (.int (0 : Int32)), .val (.int (1 : Int32))] [(.int (1 : Int32))])) _
          refine XS.ifNo X47.here hx rfl (hb hby at_272) rfl ((if0 _ _).trans (feq (by decide : ¬ ((1 : Int32) = (0 : Int32)))).1) ?_
          show Steps p.tables e below (T47.setTop (mkF m 275 #[.val (.int p0), .val (.int p1), .val (.int p2), .val (.int p3), .val (.int p4), .val (.int (gl p0)), .val (.int (gf p1)), .val (.int (gs p2)), .val (.ref b1), .val (.ref b8), .val (.int (1 : Int32)), .val (.int (0 : Int32)), .val (.int (0 : Int32)), .val (.int (1 : Int32))] [])) _
          refine XS.aload X47.here hx rfl (hb hby at_275) rfl rfl ?_
          show Steps p.tables e below (T47.setTop (mkF m 277 #[.val (.int p0), .val (.int p1), .val (.int p2), .val (.int p3), .val (.int p4), .val (.int (gl p0)), .val (.int (gf p1)), .val (.int (gs p2)), .val (.ref b1), .val (.ref b8), .val (.int (1 : Int32)), .val (.int (0 : Int32)), .val (.int (0 : Int32)), .val (.int (1 : Int32))] [(.ref b8)])) _
          refine st51.trans ?_
          show Steps p.tables e below (T51.setTop (mkF m 280 #[.val (.int p0), .val (.int p1), .val (.int p2), .val (.int p3), .val (.int p4), .val (.int (gl p0)), .val (.int (gf p1)), .val (.int (gs p2)), .val (.ref b1), .val (.ref b8), .val (.int (1 : Int32)), .val (.int (0 : Int32)), .val (.int (0 : Int32)), .val (.int (1 : Int32))] [(.int r51)])) _
          refine XS.iload X51.here hx rfl (hb hby at_280) rfl ?_
          show Steps p.tables e below (T51.setTop (mkF m 282 #[.val (.int p0), .val (.int p1), .val (.int p2), .val (.int p3), .val (.int p4), .val (.int (gl p0)), .val (.int (gf p1)), .val (.int (gs p2)), .val (.ref b1), .val (.ref b8), .val (.int (1 : Int32)), .val (.int (0 : Int32)), .val (.int (0 : Int32)), .val (.int (1 : Int32))] [(.int (0 : Int32)), (.int r51)])) _
          refine XS.iload X51.here hx rfl (hb hby at_282) rfl ?_
          show Steps p.tables e below (T51.setTop (mkF m 284 #[.val (.int p0), .val (.int p1), .val (.int p2), .val (.int p3), .val (.int p4), .val (.int (gl p0)), .val (.int (gf p1)), .val (.int (gs p2)), .val (.ref b1), .val (.ref b8), .val (.int (1 : Int32)), .val (.int (0 : Int32)), .val (.int (0 : Int32)), .val (.int (1 : Int32))] [(.int (1 : Int32)), (.int (0 : Int32)), (.int r51)])) _
          refine XS.ifNo X51.here hx rfl (hb hby at_284) rfl ((if0 _ _).trans (feq (by decide : ¬ ((1 : Int32) = (0 : Int32)))).1) ?_
          show Steps p.tables e below (T51.setTop (mkF m 287 #[.val (.int p0), .val (.int p1), .val (.int p2), .val (.int p3), .val (.int p4), .val (.int (gl p0)), .val (.int (gf p1)), .val (.int (gs p2)), .val (.ref b1), .val (.ref b8), .val (.int (1 : Int32)), .val (.int (0 : Int32)), .val (.int (0 : Int32)), .val (.int (1 : Int32))] [(.int (0 : Int32)), (.int r51)])) _
          refine XS.iconst X51.here hx rfl (hb hby at_287) ?_
          show Steps p.tables e below (T51.setTop (mkF m 288 #[.val (.int p0), .val (.int p1), .val (.int p2), .val (.int p3), .val (.int p4), .val (.int (gl p0)), .val (.int (gf p1)), .val (.int (gs p2)), .val (.ref b1), .val (.ref b8), .val (.int (1 : Int32)), .val (.int (0 : Int32)), .val (.int (0 : Int32)), .val (.int (1 : Int32))] [(.int (1 : Int32)), (.int (0 : Int32)), (.int r51)])) _
          refine XS.goto X51.here hx rfl (pc0 := 288) (pc' := 292) rfl (hb hby at_288) (by decide) (by decide) ?_
          show Steps p.tables e below (T51.setTop (mkF m 292 #[.val (.int p0), .val (.int p1), .val (.int p2), .val (.int p3), .val (.int p4), .val (.int (gl p0)), .val (.int (gf p1)), .val (.int (gs p2)), .val (.ref b1), .val (.ref b8), .val (.int (1 : Int32)), .val (.int (0 : Int32)), .val (.int (0 : Int32)), .val (.int (1 : Int32))] [(.int (1 : Int32)), (.int (0 : Int32)), (.int r51)])) _
          refine XS.iadd X51.here hx rfl (hb hby at_292) rfl ?_
          show Steps p.tables e below (T51.setTop (mkF m 293 #[.val (.int p0), .val (.int p1), .val (.int p2), .val (.int p3), .val (.int p4), .val (.int (gl p0)), .val (.int (gf p1)), .val (.int (gs p2)), .val (.ref b1), .val (.ref b8), .val (.int (1 : Int32)), .val (.int (0 : Int32)), .val (.int (0 : Int32)), .val (.int (1 : Int32))] [(.int ((0 : Int32) + (1 : Int32))), (.int r51)])) _
          refine XS.icmpNo X51.here hx rfl (hb hby at_293) rfl (teq (show r51 = ((0 : Int32) + (1 : Int32)) from (own_eq0 hr51 (by rfl)))).2 ?_
          show Steps p.tables e below (T51.setTop (mkF m 296 #[.val (.int p0), .val (.int p1), .val (.int p2), .val (.int p3), .val (.int p4), .val (.int (gl p0)), .val (.int (gf p1)), .val (.int (gs p2)), .val (.ref b1), .val (.ref b8), .val (.int (1 : Int32)), .val (.int (0 : Int32)), .val (.int (0 : Int32)), .val (.int (1 : Int32))] [])) _
          refine XS.iconst X51.here hx rfl (hb hby at_296) ?_
          show Steps p.tables e below (T51.setTop (mkF m 297 #[.val (.int p0), .val (.int p1), .val (.int p2), .val (.int p3), .val (.int p4), .val (.int (gl p0)), .val (.int (gf p1)), .val (.int (gs p2)), .val (.ref b1), .val (.ref b8), .val (.int (1 : Int32)), .val (.int (0 : Int32)), .val (.int (0 : Int32)), .val (.int (1 : Int32))] [(.int (1 : Int32))])) _
          refine XS.goto X51.here hx rfl (pc0 := 297) (pc' := 301) rfl (hb hby at_297) (by decide) (by decide) ?_
          show Steps p.tables e below (T51.setTop (mkF m 301 #[.val (.int p0), .val (.int p1), .val (.int p2), .val (.int p3), .val (.int p4), .val (.int (gl p0)), .val (.int (gf p1)), .val (.int (gs p2)), .val (.ref b1), .val (.ref b8), .val (.int (1 : Int32)), .val (.int (0 : Int32)), .val (.int (0 : Int32)), .val (.int (1 : Int32))] [(.int (1 : Int32))])) _
          refine XS.istore X51.here hx rfl (hb hby at_301) rfl (l' := #[.val (.int p0), .val (.int p1), .val (.int p2), .val (.int p3), .val (.int p4), .val (.int (gl p0)), .val (.int (gf p1)), .val (.int (gs p2)), .val (.ref b1), .val (.ref b8), .val (.int (1 : Int32)), .val (.int (0 : Int32)), .val (.int (0 : Int32)), .val (.int (1 : Int32))]) rfl ?_
          show Steps p.tables e below (T51.setTop (mkF m 303 #[.val (.int p0), .val (.int p1), .val (.int p2), .val (.int p3), .val (.int p4), .val (.int (gl p0)), .val (.int (gf p1)), .val (.int (gs p2)), .val (.ref b1), .val (.ref b8), .val (.int (1 : Int32)), .val (.int (0 : Int32)), .val (.int (0 : Int32)), .val (.int (1 : Int32))] [])) _
          refine XS.iload X51.here hx rfl (hb hby at_303) rfl ?_
          exact kt
        obtain ⟨fsQ, hr, hrun, hended, hW, hsame⟩ := X51.leave (v := some (.int (1 : Int32))) (fun h => by rw [Bd.returns] at h; cases h)
        refine ⟨_, _, pre0 _ (K52 _ ?_), hrun, hended, _, _, rfl, ?_, ⟨_, rfl⟩, hW, hsame.mono (by decide) (by decide)⟩
        · show Steps p.tables e below (T51.setTop (mkF m 305 #[.val (.int p0), .val (.int p1), .val (.int p2), .val (.int p3), .val (.int p4), .val (.int (gl p0)), .val (.int (gf p1)), .val (.int (gs p2)), .val (.ref b1), .val (.ref b8), .val (.int (1 : Int32)), .val (.int (0 : Int32)), .val (.int (0 : Int32)), .val (.int (1 : Int32))] [(.int (1 : Int32))])) _
          exact retN X51 hx (t := .boolean) Bd.returns (by simp) (hb hby at_305) hr
        · show Q0 Z p0 p1 p2 p3 p4  h0 n0 _ T51.heap _
          rw [e51]
          exact ⟨rfl, N47⟩
    · skip
      obtain ⟨cq53, kq53, q53a, q53b, q53c⟩ := isOf hZ rfl (own_bbE B44q)
      obtain ⟨_, _, ⟨T53, L53, k53, n53⟩, -, X53, ⟨Lc53, hQ53, l53, y53, z53⟩, st53⟩ := X44.virtualBack hx (y := (⟨"com/example/benchwire/benchwire/protocols/BoundedBuffer", "size", "()I"⟩ : MethodName)) (z := (⟨"com/example/benchwire/benchwire/protocols/BoundedBuffer", "size", "()I"⟩ : MethodName)) hown (mvT hZ (hw _ (List.mem_of_getElem? (i := 35) rfl))) (mvT hZ (hw _ (List.mem_of_getElem? (i := 36) rfl))) (notFace_of_selects (args := #[]) (mvT hZ (hw _ (List.mem_of_getElem? (i := 38) rfl)))) (mvT hZ (hw _ (List.mem_of_getElem? (i := 38) rfl))) (mvT hZ (hw _ (List.mem_of_getElem? (i := 37) rfl))) (by decide) (backOf (W := 0) (rm7 l Z a0 hw [] b8 b1 fs lim (0 + lenS) cap44 f44 T44.heap n0 Z44q B44q) hZ (hw _ (List.mem_of_getElem? (i := 39) rfl)) (hw _ (List.mem_of_getElem? (i := 4) rfl)) (by decide) (by decide)) q53a q53c (g := (mkF m 176 #[.val (.int p0), .val (.int p1), .val (.int p2), .val (.int p3), .val (.int p4), .val (.int (gl p0)), .val (.int (gf p1)), .val (.int (gs p2)), .val (.ref b1), .val (.ref b8), .val (.int (1 : Int32)), .val (.int (1 : Int32)), .val (.int (gs p2)), .unset] [(.ref b8)])) rfl (by rw [hml]; rfl) (Steps.refl _) (argsL := []) (rest := []) (lenOf pd_8 rfl) rfl (by show 2 * 0 + _ ≤ _; exact Nat.le_of_eq rfl) (hb hby at_176) (fun _ _ => ⟨rfl, rfl, (by decide : 6 + 0 ≤ _), (by decide : 1837 + 0 ≤ _)⟩)
      dsimp only [Pt.U, Pt.locs, Pt.cells, Pt.slots] at X53 l53 y53 z53 st53 hQ53
      subst l53 y53 z53
      obtain ⟨r53, rfl, hr53, rfl, e53⟩ := hQ53
      try rw [List.append_nil] at X53
      have K54 : ∀ t, Steps p.tables e below (T53.setTop (mkF m 199 #[.val (.int p0), .val (.int p1), .val (.int p2), .val (.int p3), .val (.int p4), .val (.int (gl p0)), .val (.int (gf p1)), .val (.int (gs p2)), .val (.ref b1), .val (.ref b8), .val (.int (1 : Int32)), .val (.int (1 : Int32)), .val (.int (gs p2)), .unset] [(.int (2 : Int32)), (.int (gs p2))])) t → Steps p.tables e below (s₁.setTop (mkF m 0 #[.val (.int p0), .val (.int p1), .val (.int p2), .val (.int p3), .val (.int p4), .unset, .unset, .unset, .unset, .unset, .unset, .unset, .unset, .unset] [])) t := by
        intro t kt
        refine K45 _ ?_
        show Steps p.tables e below (T44.setTop (mkF m 125 #[.val (.int p0), .val (.int p1), .val (.int p2), .val (.int p3), .val (.int p4), .val (.int (gl p0)), .val (.int (gf p1)), .val (.int (gs p2)), .val (.ref b1), .val (.ref b8), .val (.int (1 : Int32)), .unset, .unset, .unset] [(.int (1 : Int32))])) _
        refine XS.istore X44.here hx rfl (hb hby at_125) rfl (l' := #[.val (.int p0), .val (.int p1), .val (.int p2), .val (.int p3), .val (.int p4), .val (.int (gl p0)), .val (.int (gf p1)), .val (.int (gs p2)), .val (.ref b1), .val (.ref b8), .val (.int (1 : Int32)), .val (.int (1 : Int32)), .unset, .unset]) rfl ?_
        show Steps p.tables e below (T44.setTop (mkF m 127 #[.val (.int p0), .val (.int p1), .val (.int p2), .val (.int p3), .val (.int p4), .val (.int (gl p0)), .val (.int (gf p1)), .val (.int (gs p2)), .val (.ref b1), .val (.ref b8), .val (.int (1 : Int32)), .val (.int (1 : Int32)), .unset, .unset] [])) _
        refine XS.iload X44.here hx rfl (hb hby at_127) rfl ?_
        show Steps p.tables e below (T44.setTop (mkF m 129 #[.val (.int p0), .val (.int p1), .val (.int p2), .val (.int p3), .val (.int p4), .val (.int (gl p0)), .val (.int (gf p1)), .val (.int (gs p2)), .val (.ref b1), .val (.ref b8), .val (.int (1 : Int32)), .val (.int (1 : Int32)), .unset, .unset] [(.int (1 : Int32))])) _
        refine XS.ifNo X44.here hx rfl (hb hby at_129) rfl ((if0 _ _).trans (feq (by decide : ¬ ((1 : Int32) = (0 : Int32)))).1) ?_
        show Steps p.tables e below (T44.setTop (mkF m 132 #[.val (.int p0), .val (.int p1), .val (.int p2), .val (.int p3), .val (.int p4), .val (.int (gl p0)), .val (.int (gf p1)), .val (.int (gs p2)), .val (.ref b1), .val (.ref b8), .val (.int (1 : Int32)), .val (.int (1 : Int32)), .unset, .unset] [])) _
        refine XS.iload X44.here hx rfl (hb hby at_132) rfl ?_
        show Steps p.tables e below (T44.setTop (mkF m 134 #[.val (.int p0), .val (.int p1), .val (.int p2), .val (.int p3), .val (.int p4), .val (.int (gl p0)), .val (.int (gf p1)), .val (.int (gs p2)), .val (.ref b1), .val (.ref b8), .val (.int (1 : Int32)), .val (.int (1 : Int32)), .unset, .unset] [(.int (1 : Int32))])) _
        refine XS.iload X44.here hx rfl (hb hby at_134) rfl ?_
        show Steps p.tables e below (T44.setTop (mkF m 136 #[.val (.int p0), .val (.int p1), .val (.int p2), .val (.int p3), .val (.int p4), .val (.int (gl p0)), .val (.int (gf p1)), .val (.int (gs p2)), .val (.ref b1), .val (.ref b8), .val (.int (1 : Int32)), .val (.int (1 : Int32)), .unset, .unset] [(.int (gs p2)), (.int (1 : Int32))])) _
        refine XS.iload X44.here hx rfl (hb hby at_136) rfl ?_
        show Steps p.tables e below (T44.setTop (mkF m 138 #[.val (.int p0), .val (.int p1), .val (.int p2), .val (.int p3), .val (.int p4), .val (.int (gl p0)), .val (.int (gf p1)), .val (.int (gs p2)), .val (.ref b1), .val (.ref b8), .val (.int (1 : Int32)), .val (.int (1 : Int32)), .unset, .unset] [(.int (gl p0)), (.int (gs p2)), (.int (1 : Int32))])) _
        refine XS.icmpNo X44.here hx rfl (hb hby at_138) rfl (flt (show ¬ ((gl p0) < (gs p2)) from (own_nlt hlm hlS (by omega)))).2.2.1 ?_
        show Steps p.tables e below (T44.setTop (mkF m 141 #[.val (.int p0), .val (.int p1), .val (.int p2), .val (.int p3), .val (.int p4), .val (.int (gl p0)), .val (.int (gf p1)), .val (.int (gs p2)), .val (.ref b1), .val (.ref b8), .val (.int (1 : Int32)), .val (.int (1 : Int32)), .unset, .unset] [(.int (1 : Int32))])) _
        refine XS.iconst X44.here hx rfl (hb hby at_141) ?_
        show Steps p.tables e below (T44.setTop (mkF m 142 #[.val (.int p0), .val (.int p1), .val (.int p2), .val (.int p3), .val (.int p4), .val (.int (gl p0)), .val (.int (gf p1)), .val (.int (gs p2)), .val (.ref b1), .val (.ref b8), .val (.int (1 : Int32)), .val (.int (1 : Int32)), .unset, .unset] [(.int (1 : Int32)), (.int (1 : Int32))])) _
        refine XS.goto X44.here hx rfl (pc0 := 142) (pc' := 146) rfl (hb hby at_142) (by decide) (by decide) ?_
        show Steps p.tables e below (T44.setTop (mkF m 146 #[.val (.int p0), .val (.int p1), .val (.int p2), .val (.int p3), .val (.int p4), .val (.int (gl p0)), .val (.int (gf p1)), .val (.int (gs p2)), .val (.ref b1), .val (.ref b8), .val (.int (1 : Int32)), .val (.int (1 : Int32)), .unset, .unset] [(.int (1 : Int32)), (.int (1 : Int32))])) _
        refine XS.icmpNo X44.here hx rfl (hb hby at_146) rfl (teq (rfl : (1 : Int32) = (1 : Int32))).2 ?_
        show Steps p.tables e below (T44.setTop (mkF m 149 #[.val (.int p0), .val (.int p1), .val (.int p2), .val (.int p3), .val (.int p4), .val (.int (gl p0)), .val (.int (gf p1)), .val (.int (gs p2)), .val (.ref b1), .val (.ref b8), .val (.int (1 : Int32)), .val (.int (1 : Int32)), .unset, .unset] [])) _
        refine XS.iconst X44.here hx rfl (hb hby at_149) ?_
        show Steps p.tables e below (T44.setTop (mkF m 150 #[.val (.int p0), .val (.int p1), .val (.int p2), .val (.int p3), .val (.int p4), .val (.int (gl p0)), .val (.int (gf p1)), .val (.int (gs p2)), .val (.ref b1), .val (.ref b8), .val (.int (1 : Int32)), .val (.int (1 : Int32)), .unset, .unset] [(.int (1 : Int32))])) _
        refine XS.goto X44.here hx rfl (pc0 := 150) (pc' := 154) rfl (hb hby at_150) (by decide) (by decide) ?_
        show Steps p.tables e below (T44.setTop (mkF m 154 #[.val (.int p0), .val (.int p1), .val (.int p2), .val (.int p3), .val (.int p4), .val (.int (gl p0)), .val (.int (gf p1)), .val (.int (gs p2)), .val (.ref b1), .val (.ref b8), .val (.int (1 : Int32)), .val (.int (1 : Int32)), .unset, .unset] [(.int (1 : Int32))])) _
        refine XS.istore X44.here hx rfl (hb hby at_154) rfl (l' := #[.val (.int p0), .val (.int p1), .val (.int p2), .val (.int p3), .val (.int p4), .val (.int (gl p0)), .val (.int (gf p1)), .val (.int (gs p2)), .val (.ref b1), .val (.ref b8), .val (.int (1 : Int32)), .val (.int (1 : Int32)), .unset, .unset]) rfl ?_
        show Steps p.tables e below (T44.setTop (mkF m 156 #[.val (.int p0), .val (.int p1), .val (.int p2), .val (.int p3), .val (.int p4), .val (.int (gl p0)), .val (.int (gf p1)), .val (.int (gs p2)), .val (.ref b1), .val (.ref b8), .val (.int (1 : Int32)), .val (.int (1 : Int32)), .unset, .unset] [])) _
        refine XS.iload X44.here hx rfl (hb hby at_156) rfl ?_
        show Steps p.tables e below (T44.setTop (mkF m 158 #[.val (.int p0), .val (.int p1), .val (.int p2), .val (.int p3), .val (.int p4), .val (.int (gl p0)), .val (.int (gf p1)), .val (.int (gs p2)), .val (.ref b1), .val (.ref b8), .val (.int (1 : Int32)), .val (.int (1 : Int32)), .unset, .unset] [(.int (1 : Int32))])) _
        refine XS.ifNo X44.here hx rfl (hb hby at_158) rfl ((if0 _ _).trans (feq (by decide : ¬ ((1 : Int32) = (0 : Int32)))).1) ?_
        show Steps p.tables e below (T44.setTop (mkF m 161 #[.val (.int p0), .val (.int p1), .val (.int p2), .val (.int p3), .val (.int p4), .val (.int (gl p0)), .val (.int (gf p1)), .val (.int (gs p2)), .val (.ref b1), .val (.ref b8), .val (.int (1 : Int32)), .val (.int (1 : Int32)), .unset, .unset] [])) _
        refine XS.iload X44.here hx rfl (hb hby at_161) rfl ?_
        show Steps p.tables e below (T44.setTop (mkF m 163 #[.val (.int p0), .val (.int p1), .val (.int p2), .val (.int p3), .val (.int p4), .val (.int (gl p0)), .val (.int (gf p1)), .val (.int (gs p2)), .val (.ref b1), .val (.ref b8), .val (.int (1 : Int32)), .val (.int (1 : Int32)), .unset, .unset] [(.int (gs p2))])) _
        refine XS.goto X44.here hx rfl (pc0 := 163) (pc' := 167) rfl (hb hby at_163) (by decide) (by decide) ?_
        show Steps p.tables e below (T44.setTop (mkF m 167 #[.val (.int p0), .val (.int p1), .val (.int p2), .val (.int p3), .val (.int p4), .val (.int (gl p0)), .val (.int (gf p1)), .val (.int (gs p2)), .val (.ref b1), .val (.ref b8), .val (.int (1 : Int32)), .val (.int (1 : Int32)), .unset, .unset] [(.int (gs p2))])) _
        refine XS.istore X44.here hx rfl (hb hby at_167) rfl (l' := #[.val (.int p0), .val (.int p1), .val (.int p2), .val (.int p3), .val (.int p4), .val (.int (gl p0)), .val (.int (gf p1)), .val (.int (gs p2)), .val (.ref b1), .val (.ref b8), .val (.int (1 : Int32)), .val (.int (1 : Int32)), .val (.int (gs p2)), .unset]) rfl ?_
        show Steps p.tables e below (T44.setTop (mkF m 169 #[.val (.int p0), .val (.int p1), .val (.int p2), .val (.int p3), .val (.int p4), .val (.int (gl p0)), .val (.int (gf p1)), .val (.int (gs p2)), .val (.ref b1), .val (.ref b8), .val (.int (1 : Int32)), .val (.int (1 : Int32)), .val (.int (gs p2)), .unset] [])) _
        refine XS.iload X44.here hx rfl (hb hby at_169) rfl ?_
        show Steps p.tables e below (T44.setTop (mkF m 171 #[.val (.int p0), .val (.int p1), .val (.int p2), .val (.int p3), .val (.int p4), .val (.int (gl p0)), .val (.int (gf p1)), .val (.int (gs p2)), .val (.ref b1), .val (.ref b8), .val (.int (1 : Int32)), .val (.int (1 : Int32)), .val (.int (gs p2)), .unset] [(.int (1 : Int32))])) _
        refine XS.ifNo X44.here hx rfl (hb hby at_171) rfl ((if0 _ _).trans (feq (by decide : ¬ ((1 : Int32) = (0 : Int32)))).1) ?_
        show Steps p.tables e below (T44.setTop (mkF m 174 #[.val (.int p0), .val (.int p1), .val (.int p2), .val (.int p3), .val (.int p4), .val (.int (gl p0)), .val (.int (gf p1)), .val (.int (gs p2)), .val (.ref b1), .val (.ref b8), .val (.int (1 : Int32)), .val (.int (1 : Int32)), .val (.int (gs p2)), .unset] [])) _
        refine XS.aload X44.here hx rfl (hb hby at_174) rfl rfl ?_
        show Steps p.tables e below (T44.setTop (mkF m 176 #[.val (.int p0), .val (.int p1), .val (.int p2), .val (.int p3), .val (.int p4), .val (.int (gl p0)), .val (.int (gf p1)), .val (.int (gs p2)), .val (.ref b1), .val (.ref b8), .val (.int (1 : Int32)), .val (.int (1 : Int32)), .val (.int (gs p2)), .unset] [(.ref b8)])) _
        refine st53.trans ?_
        show Steps p.tables e below (T53.setTop (mkF m 179 #[.val (.int p0), .val (.int p1), .val (.int p2), .val (.int p3), .val (.int p4), .val (.int (gl p0)), .val (.int (gf p1)), .val (.int (gs p2)), .val (.ref b1), .val (.ref b8), .val (.int (1 : Int32)), .val (.int (1 : Int32)), .val (.int (gs p2)), .unset] [(.int r53)])) _
        refine XS.iload X53.here hx rfl (hb hby at_179) rfl ?_
        show Steps p.tables e below (T53.setTop (mkF m 181 #[.val (.int p0), .val (.int p1), .val (.int p2), .val (.int p3), .val (.int p4), .val (.int (gl p0)), .val (.int (gf p1)), .val (.int (gs p2)), .val (.ref b1), .val (.ref b8), .val (.int (1 : Int32)), .val (.int (1 : Int32)), .val (.int (gs p2)), .unset] [(.int (gs p2)), (.int r53)])) _
        refine XS.icmpNo X53.here hx rfl (hb hby at_181) rfl (teq (show r53 = (gs p2) from (own_eq0 hr53 (by rw [hlS]; omega)))).2 ?_
        show Steps p.tables e below (T53.setTop (mkF m 184 #[.val (.int p0), .val (.int p1), .val (.int p2), .val (.int p3), .val (.int p4), .val (.int (gl p0)), .val (.int (gf p1)), .val (.int (gs p2)), .val (.ref b1), .val (.ref b8), .val (.int (1 : Int32)), .val (.int (1 : Int32)), .val (.int (gs p2)), .unset] [])) _
        refine XS.iconst X53.here hx rfl (hb hby at_184) ?_
        show Steps p.tables e below (T53.setTop (mkF m 185 #[.val (.int p0), .val (.int p1), .val (.int p2), .val (.int p3), .val (.int p4), .val (.int (gl p0)), .val (.int (gf p1)), .val (.int (gs p2)), .val (.ref b1), .val (.ref b8), .val (.int (1 : Int32)), .val (.int (1 : Int32)), .val (.int (gs p2)), .unset] [(.int (1 : Int32))])) _
        refine XS.goto X53.here hx rfl (pc0 := 185) (pc' := 189) rfl (hb hby at_185) (by decide) (by decide) ?_
        show Steps p.tables e below (T53.setTop (mkF m 189 #[.val (.int p0), .val (.int p1), .val (.int p2), .val (.int p3), .val (.int p4), .val (.int (gl p0)), .val (.int (gf p1)), .val (.int (gs p2)), .val (.ref b1), .val (.ref b8), .val (.int (1 : Int32)), .val (.int (1 : Int32)), .val (.int (gs p2)), .unset] [(.int (1 : Int32))])) _
        refine XS.istore X53.here hx rfl (hb hby at_189) rfl (l' := #[.val (.int p0), .val (.int p1), .val (.int p2), .val (.int p3), .val (.int p4), .val (.int (gl p0)), .val (.int (gf p1)), .val (.int (gs p2)), .val (.ref b1), .val (.ref b8), .val (.int (1 : Int32)), .val (.int (1 : Int32)), .val (.int (gs p2)), .unset]) rfl ?_
        show Steps p.tables e below (T53.setTop (mkF m 191 #[.val (.int p0), .val (.int p1), .val (.int p2), .val (.int p3), .val (.int p4), .val (.int (gl p0)), .val (.int (gf p1)), .val (.int (gs p2)), .val (.ref b1), .val (.ref b8), .val (.int (1 : Int32)), .val (.int (1 : Int32)), .val (.int (gs p2)), .unset] [])) _
        refine XS.iload X53.here hx rfl (hb hby at_191) rfl ?_
        show Steps p.tables e below (T53.setTop (mkF m 193 #[.val (.int p0), .val (.int p1), .val (.int p2), .val (.int p3), .val (.int p4), .val (.int (gl p0)), .val (.int (gf p1)), .val (.int (gs p2)), .val (.ref b1), .val (.ref b8), .val (.int (1 : Int32)), .val (.int (1 : Int32)), .val (.int (gs p2)), .unset] [(.int (1 : Int32))])) _
        refine XS.ifNo X53.here hx rfl (hb hby at_193) rfl ((if0 _ _).trans (feq (by decide : ¬ ((1 : Int32) = (0 : Int32)))).1) ?_
        show Steps p.tables e below (T53.setTop (mkF m 196 #[.val (.int p0), .val (.int p1), .val (.int p2), .val (.int p3), .val (.int p4), .val (.int (gl p0)), .val (.int (gf p1)), .val (.int (gs p2)), .val (.ref b1), .val (.ref b8), .val (.int (1 : Int32)), .val (.int (1 : Int32)), .val (.int (gs p2)), .unset] [])) _
        refine XS.iload X53.here hx rfl (hb hby at_196) rfl ?_
        show Steps p.tables e below (T53.setTop (mkF m 198 #[.val (.int p0), .val (.int p1), .val (.int p2), .val (.int p3), .val (.int p4), .val (.int (gl p0)), .val (.int (gf p1)), .val (.int (gs p2)), .val (.ref b1), .val (.ref b8), .val (.int (1 : Int32)), .val (.int (1 : Int32)), .val (.int (gs p2)), .unset] [(.int (gs p2))])) _
        refine XS.iconst X53.here hx rfl (hb hby at_198) ?_
        exact kt
      by_cases hc55 : (gs p2) < (2 : Int32)
      · skip
        obtain ⟨cq56, kq56, q56a, q56b, q56c⟩ := isOf hZ e53 (own_bbE B44q)
        obtain ⟨_, _, ⟨T56, L56, k56, n56⟩, -, X56, ⟨Lc56, hQ56, l56, y56, z56⟩, st56⟩ := X53.virtualBack hx (y := (⟨"com/example/benchwire/benchwire/protocols/BoundedBuffer", "add", "(B)Z"⟩ : MethodName)) (z := (⟨"com/example/benchwire/benchwire/protocols/BoundedBuffer", "add", "(B)Z"⟩ : MethodName)) hown (mvT hZ (hw _ (List.mem_of_getElem? (i := 40) rfl))) (mvT hZ (hw _ (List.mem_of_getElem? (i := 41) rfl))) (notFace_of_selects (args := #[]) (mvT hZ (hw _ (List.mem_of_getElem? (i := 43) rfl)))) (mvT hZ (hw _ (List.mem_of_getElem? (i := 43) rfl))) (mvT hZ (hw _ (List.mem_of_getElem? (i := 42) rfl))) (by decide) (backOf (W := 0) (rm8 l Z a0 hw [] b8 (p3.toInt8.toInt32) b1 fs lim (0 + lenS) cap44 f44 T44.heap n0 Z44q B44q) hZ (hw _ (List.mem_of_getElem? (i := 44) rfl)) (hw _ (List.mem_of_getElem? (i := 4) rfl)) (by decide) (by decide)) q56a q56c (g := (mkF m 236 #[.val (.int p0), .val (.int p1), .val (.int p2), .val (.int p3), .val (.int p4), .val (.int (gl p0)), .val (.int (gf p1)), .val (.int (gs p2)), .val (.ref b1), .val (.ref b8), .val (.int (1 : Int32)), .val (.int (1 : Int32)), .val (.int (gs p2)), .unset] [(.int (p3.toInt8.toInt32)), (.ref b8)])) rfl (by rw [hml]; rfl) (Steps.refl _) (argsL := [(.int (p3.toInt8.toInt32))]) (rest := []) (lenOf pd_9 rfl) rfl (by show 2 * 0 + _ ≤ _; exact Nat.le_of_eq rfl) (hb hby at_236) (fun _ _ => ⟨rfl, e53, (by decide : 6 + 1 ≤ _), (by decide : 1837 + 511 ≤ _)⟩)
        dsimp only [Pt.U, Pt.locs, Pt.cells, Pt.slots] at X56 l56 y56 z56 st56 hQ56
        subst l56 y56 z56
        obtain ⟨r56, sz56, cap56, f56, rfl, N56q, Z56q, B56q, hr56⟩ := hQ56
        have N56 := Fr.app N44 N56q
        have K57 : ∀ t, Steps p.tables e below (T56.setTop (mkF m 239 #[.val (.int p0), .val (.int p1), .val (.int p2), .val (.int p3), .val (.int p4), .val (.int (gl p0)), .val (.int (gf p1)), .val (.int (gs p2)), .val (.ref b1), .val (.ref b8), .val (.int (1 : Int32)), .val (.int (1 : Int32)), .val (.int (gs p2)), .unset] [(.int r56)])) t → Steps p.tables e below (s₁.setTop (mkF m 0 #[.val (.int p0), .val (.int p1), .val (.int p2), .val (.int p3), .val (.int p4), .unset, .unset, .unset, .unset, .unset, .unset, .unset, .unset, .unset] [])) t := by
          intro t kt
          refine K54 _ ?_
          show Steps p.tables e below (T53.setTop (mkF m 199 #[.val (.int p0), .val (.int p1), .val (.int p2), .val (.int p3), .val (.int p4), .val (.int (gl p0)), .val (.int (gf p1)), .val (.int (gs p2)), .val (.ref b1), .val (.ref b8), .val (.int (1 : Int32)), .val (.int (1 : Int32)), .val (.int (gs p2)), .unset] [(.int (2 : Int32)), (.int (gs p2))])) _
          refine XS.icmpYes X53.here hx rfl (pc0 := 199) (pc' := 232) rfl (hb hby at_199) rfl (tlt hc55).1 (by decide) (by decide) ?_
          show Steps p.tables e below (T53.setTop (mkF m 232 #[.val (.int p0), .val (.int p1), .val (.int p2), .val (.int p3), .val (.int p4), .val (.int (gl p0)), .val (.int (gf p1)), .val (.int (gs p2)), .val (.ref b1), .val (.ref b8), .val (.int (1 : Int32)), .val (.int (1 : Int32)), .val (.int (gs p2)), .unset] [])) _
          refine XS.aload X53.here hx rfl (hb hby at_232) rfl rfl ?_
          show Steps p.tables e below (T53.setTop (mkF m 234 #[.val (.int p0), .val (.int p1), .val (.int p2), .val (.int p3), .val (.int p4), .val (.int (gl p0)), .val (.int (gf p1)), .val (.int (gs p2)), .val (.ref b1), .val (.ref b8), .val (.int (1 : Int32)), .val (.int (1 : Int32)), .val (.int (gs p2)), .unset] [(.ref b8)])) _
          refine XS.iloadN X53.here hx rfl (hb hby at_234) rfl ?_
          show Steps p.tables e below (T53.setTop (mkF m 235 #[.val (.int p0), .val (.int p1), .val (.int p2), .val (.int p3), .val (.int p4), .val (.int (gl p0)), .val (.int (gf p1)), .val (.int (gs p2)), .val (.ref b1), .val (.ref b8), .val (.int (1 : Int32)), .val (.int (1 : Int32)), .val (.int (gs p2)), .unset] [(.int p3), (.ref b8)])) _
          refine XS.i2b X53.here hx rfl (hb hby at_235) rfl ?_
          show Steps p.tables e below (T53.setTop (mkF m 236 #[.val (.int p0), .val (.int p1), .val (.int p2), .val (.int p3), .val (.int p4), .val (.int (gl p0)), .val (.int (gf p1)), .val (.int (gs p2)), .val (.ref b1), .val (.ref b8), .val (.int (1 : Int32)), .val (.int (1 : Int32)), .val (.int (gs p2)), .unset] [(.int (p3.toInt8.toInt32)), (.ref b8)])) _
          refine st56.trans ?_
          exact kt
        rcases hr56 with ⟨rfl, hnO, rfl⟩ | ⟨rfl, hyO, rfl⟩
        · skip
          obtain ⟨cq58, kq58, q58a, q58b, q58c⟩ := isOf hZ rfl (own_bbE B56q)
          obtain ⟨_, _, ⟨T58, L58, k58, n58⟩, -, X58, ⟨Lc58, hQ58, l58, y58, z58⟩, st58⟩ := X56.virtualBack hx (y := (⟨"com/example/benchwire/benchwire/protocols/BoundedBuffer", "size", "()I"⟩ : MethodName)) (z := (⟨"com/example/benchwire/benchwire/protocols/BoundedBuffer", "size", "()I"⟩ : MethodName)) hown (mvT hZ (hw _ (List.mem_of_getElem? (i := 35) rfl))) (mvT hZ (hw _ (List.mem_of_getElem? (i := 36) rfl))) (notFace_of_selects (args := #[]) (mvT hZ (hw _ (List.mem_of_getElem? (i := 38) rfl)))) (mvT hZ (hw _ (List.mem_of_getElem? (i := 38) rfl))) (mvT hZ (hw _ (List.mem_of_getElem? (i := 37) rfl))) (by decide) (backOf (W := 0) (rm7 l Z a0 hw [] b8 b1 fs lim (0 + lenS) cap56 f56 T56.heap n0 Z56q B56q) hZ (hw _ (List.mem_of_getElem? (i := 39) rfl)) (hw _ (List.mem_of_getElem? (i := 4) rfl)) (by decide) (by decide)) q58a q58c (g := (mkF m 277 #[.val (.int p0), .val (.int p1), .val (.int p2), .val (.int p3), .val (.int p4), .val (.int (gl p0)), .val (.int (gf p1)), .val (.int (gs p2)), .val (.ref b1), .val (.ref b8), .val (.int (1 : Int32)), .val (.int (1 : Int32)), .val (.int (gs p2)), .val (.int (0 : Int32))] [(.ref b8)])) rfl (by rw [hml]; rfl) (Steps.refl _) (argsL := []) (rest := []) (lenOf pd_8 rfl) rfl (by show 2 * 0 + _ ≤ _; exact Nat.le_of_eq rfl) (hb hby at_277) (fun _ _ => ⟨rfl, rfl, (by decide : 7 + 0 ≤ _), (by decide : 2348 + 0 ≤ _)⟩)
          dsimp only [Pt.U, Pt.locs, Pt.cells, Pt.slots] at X58 l58 y58 z58 st58 hQ58
          subst l58 y58 z58
          obtain ⟨r58, rfl, hr58, rfl, e58⟩ := hQ58
          try rw [List.append_nil] at X58
          have K59 : ∀ t, Steps p.tables e below (T58.setTop (mkF m 305 #[.val (.int p0), .val (.int p1), .val (.int p2), .val (.int p3), .val (.int p4), .val (.int (gl p0)), .val (.int (gf p1)), .val (.int (gs p2)), .val (.ref b1), .val (.ref b8), .val (.int (1 : Int32)), .val (.int (1 : Int32)), .val (.int (gs p2)), .val (.int (0 : Int32))] [(.int (1 : Int32))])) t → Steps p.tables e below (s₁.setTop (mkF m 0 #[.val (.int p0), .val (.int p1), .val (.int p2), .val (.int p3), .val (.int p4), .unset, .unset, .unset, .unset, .unset, .unset, .unset, .unset, .unset] [])) t := by
            intro t kt
            refine K57 _ ?_
            show Steps p.tables e below (T56.setTop (mkF m 239 #[.val (.int p0), .val (.int p1), .val (.int p2), .val (.int p3), .val (.int p4), .val (.int (gl p0)), .val (.int (gf p1)), .val (.int (gs p2)), .val (.ref b1), .val (.ref b8), .val (.int (1 : Int32)), .val (.int (1 : Int32)), .val (.int (gs p2)), .unset] [(.int (0 : Int32))])) _
            refine XS.istore X56.here hx rfl (hb hby at_239) rfl (l' := #[.val (.int p0), .val (.int p1), .val (.int p2), .val (.int p3), .val (.int p4), .val (.int (gl p0)), .val (.int (gf p1)), .val (.int (gs p2)), .val (.ref b1), .val (.ref b8), .val (.int (1 : Int32)), .val (.int (1 : Int32)), .val (.int (gs p2)), .val (.int (0 : Int32))]) rfl ?_
            show Steps p.tables e below (T56.setTop (mkF m 241 #[.val (.int p0), .val (.int p1), .val (.int p2), .val (.int p3), .val (.int p4), .val (.int (gl p0)), .val (.int (gf p1)), .val (.int (gs p2)), .val (.ref b1), .val (.ref b8), .val (.int (1 : Int32)), .val (.int (1 : Int32)), .val (.int (gs p2)), .val (.int (0 : Int32))] [])) _
            refine XS.iload X56.here hx rfl (hb hby at_241) rfl ?_
            show Steps p.tables e below (T56.setTop (mkF m 243 #[.val (.int p0), .val (.int p1), .val (.int p2), .val (.int p3), .val (.int p4), .val (.int (gl p0)), .val (.int (gf p1)), .val (.int (gs p2)), .val (.ref b1), .val (.ref b8), .val (.int (1 : Int32)), .val (.int (1 : Int32)), .val (.int (gs p2)), .val (.int (0 : Int32))] [(.int (1 : Int32))])) _
            refine XS.ifNo X56.here hx rfl (hb hby at_243) rfl ((if0 _ _).trans (feq (by decide : ¬ ((1 : Int32) = (0 : Int32)))).1) ?_
            show Steps p.tables e below (T56.setTop (mkF m 246 #[.val (.int p0), .val (.int p1), .val (.int p2), .val (.int p3), .val (.int p4), .val (.int (gl p0)), .val (.int (gf p1)), .val (.int (gs p2)), .val (.ref b1), .val (.ref b8), .val (.int (1 : Int32)), .val (.int (1 : Int32)), .val (.int (gs p2)), .val (.int (0 : Int32))] [])) _
            refine XS.iload X56.here hx rfl (hb hby at_246) rfl ?_
            show Steps p.tables e below (T56.setTop (mkF m 248 #[.val (.int p0), .val (.int p1), .val (.int p2), .val (.int p3), .val (.int p4), .val (.int (gl p0)), .val (.int (gf p1)), .val (.int (gs p2)), .val (.ref b1), .val (.ref b8), .val (.int (1 : Int32)), .val (.int (1 : Int32)), .val (.int (gs p2)), .val (.int (0 : Int32))] [(.int (0 : Int32))])) _
            refine XS.iload X56.here hx rfl (hb hby at_248) rfl ?_
            show Steps p.tables e below (T56.setTop (mkF m 250 #[.val (.int p0), .val (.int p1), .val (.int p2), .val (.int p3), .val (.int p4), .val (.int (gl p0)), .val (.int (gf p1)), .val (.int (gs p2)), .val (.ref b1), .val (.ref b8), .val (.int (1 : Int32)), .val (.int (1 : Int32)), .val (.int (gs p2)), .val (.int (0 : Int32))] [(.int (gs p2)), (.int (0 : Int32))])) _
            refine XS.iload X56.here hx rfl (hb hby at_250) rfl ?_
            show Steps p.tables e below (T56.setTop (mkF m 252 #[.val (.int p0), .val (.int p1), .val (.int p2), .val (.int p3), .val (.int p4), .val (.int (gl p0)), .val (.int (gf p1)), .val (.int (gs p2)), .val (.ref b1), .val (.ref b8), .val (.int (1 : Int32)), .val (.int (1 : Int32)), .val (.int (gs p2)), .val (.int (0 : Int32))] [(.int (gl p0)), (.int (gs p2)), (.int (0 : Int32))])) _
            refine XS.icmpYes X56.here hx rfl (pc0 := 252) (pc' := 259) rfl (hb hby at_252) rfl (flt (show ¬ ((gs p2) < (gl p0)) from (own_nlt hlS hlm (by omega)))).2.1 (by decide) (by decide) ?_
            show Steps p.tables e below (T56.setTop (mkF m 259 #[.val (.int p0), .val (.int p1), .val (.int p2), .val (.int p3), .val (.int p4), .val (.int (gl p0)), .val (.int (gf p1)), .val (.int (gs p2)), .val (.ref b1), .val (.ref b8), .val (.int (1 : Int32)), .val (.int (1 : Int32)), .val (.int (gs p2)), .val (.int (0 : Int32))] [(.int (0 : Int32))])) _
            refine XS.iconst X56.here hx rfl (hb hby at_259) ?_
            show Steps p.tables e below (T56.setTop (mkF m 260 #[.val (.int p0), .val (.int p1), .val (.int p2), .val (.int p3), .val (.int p4), .val (.int (gl p0)), .val (.int (gf p1)), .val (.int (gs p2)), .val (.ref b1), .val (.ref b8), .val (.int (1 : Int32)), .val (.int (1 : Int32)), .val (.int (gs p2)), .val (.int (0 : Int32))] [(.int (0 : Int32)), (.int (0 : Int32))])) _
            refine XS.icmpNo X56.here hx rfl (hb hby at_260) rfl (teq (rfl : (0 : Int32) = (0 : Int32))).2 ?_
            show Steps p.tables e below (T56.setTop (mkF m 263 #[.val (.int p0), .val (.int p1), .val (.int p2), .val (.int p3), .val (.int p4), .val (.int (gl p0)), .val (.int (gf p1)), .val (.int (gs p2)), .val (.ref b1), .val (.ref b8), .val (.int (1 : Int32)), .val (.int (1 : Int32)), .val (.int (gs p2)), .val (.int (0 : Int32))] [])) _
            refine XS.iconst X56.here hx rfl (hb hby at_263) ?_
            show Steps p.tables e below (T56.setTop (mkF m 264 #[.val (.int p0), .val (.int p1), .val (.int p2), .val (.int p3), .val (.int p4), .val (.int (gl p0)), .val (.int (gf p1)), .val (.int (gs p2)), .val (.ref b1), .val (.ref b8), .val (.int (1 : Int32)), .val (.int (1 : Int32)), .val (.int (gs p2)), .val (.int (0 : Int32))] [(.int (1 : Int32))])) _
            refine XS.goto X56.here hx rfl (pc0 := 264) (pc' := 268) rfl (hb hby at_264) (by decide) (by decide) ?_
            show Steps p.tables e below (T56.setTop (mkF m 268 #[.val (.int p0), .val (.int p1), .val (.int p2), .val (.int p3), .val (.int p4), .val (.int (gl p0)), .val (.int (gf p1)), .val (.int (gs p2)), .val (.ref b1), .val (.ref b8), .val (.int (1 : Int32)), .val (.int (1 : Int32)), .val (.int (gs p2)), .val (.int (0 : Int32))] [(.int (1 : Int32))])) _
            refine XS.istore X56.here hx rfl (hb hby at_268) rfl (l' := #[.val (.int p0), .val (.int p1), .val (.int p2), .val (.int p3), .val (.int p4), .val (.int (gl p0)), .val (.int (gf p1)), .val (.int (gs p2)), .val (.ref b1), .val (.ref b8), .val (.int (1 : Int32)), .val (.int (1 : Int32)), .val (.int (gs p2)), .val (.int (0 : Int32))]) rfl ?_
            show Steps p.tables e below (T56.setTop (mkF m 270 #[.val (.int p0), .val (.int p1), .val (.int p2), .val (.int p3), .val (.int p4), .val (.int (gl p0)), .val (.int (gf p1)), .val (.int (gs p2)), .val (.ref b1), .val (.ref b8), .val (.int (1 : Int32)), .val (.int (1 : Int32)), .val (.int (gs p2)), .val (.int (0 : Int32))] [])) _
            refine XS.iload X56.here hx rfl (hb hby at_270) rfl ?_
            show Steps p.tables e below (T56.setTop (mkF m 272 #[.val (.int p0), .val (.int p1), .val (.int p2), .val (.int p3), .val (.int p4), .val (.int (gl p0)), .val (.int (gf p1)), .val (.int (gs p2)), .val (.ref b1), .val (.ref b8), .val (.int (1 : Int32)), .val (.int (1 : Int32)), .val (.int (gs p2)), .val (.int (0 : Int32))] [(.int (1 : Int32))])) _
            refine XS.ifNo X56.here hx rfl (hb hby at_272) rfl ((if0 _ _).trans (feq (by decide : ¬ ((1 : Int32) = (0 : Int32)))).1) ?_
            show Steps p.tables e below (T56.setTop (mkF m 275 #[.val (.int p0), .val (.int p1), .val (.int p2), .val (.int p3), .val (.int p4), .val (.int (gl p0)), .val (.int (gf p1)), .val (.int (gs p2)), .val (.ref b1), .val (.ref b8), .val (.int (1 : Int32)), .val (.int (1 : Int32)), .val (.int (gs p2)), .val (.int (0 : Int32))] [])) _
            refine XS.aload X56.here hx rfl (hb hby at_275) rfl rfl ?_
            show Steps p.tables e below (T56.setTop (mkF m 277 #[.val (.int p0), .val (.int p1), .val (.int p2), .val (.int p3), .val (.int p4), .val (.int (gl p0)), .val (.int (gf p1)), .val (.int (gs p2)), .val (.ref b1), .val (.ref b8), .val (.int (1 : Int32)), .val (.int (1 : Int32)), .val (.int (gs p2)), .val (.int (0 : Int32))] [(.ref b8)])) _
            refine st58.trans ?_
            show Steps p.tables e below (T58.setTop (mkF m 280 #[.val (.int p0), .val (.int p1), .val (.int p2), .val (.int p3), .val (.int p4), .val (.int (gl p0)), .val (.int (gf p1)), .val (.int (gs p2)), .val (.ref b1), .val (.ref b8), .val (.int (1 : Int32)), .val (.int (1 : Int32)), .val (.int (gs p2)), .val (.int (0 : Int32))] [(.int r58)])) _
            refine XS.iload X58.here hx rfl (hb hby at_280) rfl ?_
            show Steps p.tables e below (T58.setTop (mkF m 282 #[.val (.int p0), .val (.int p1), .val (.int p2), .val (.int p3), .val (.int p4), .val (.int (gl p0)), .val (.int (gf p1)), .val (.int (gs p2)), .val (.ref b1), .val (.ref b8), .val (.int (1 : Int32)), .val (.int (1 : Int32)), .val (.int (gs p2)), .val (.int (0 : Int32))] [(.int (gs p2)), (.int r58)])) _
            refine XS.iload X58.here hx rfl (hb hby at_282) rfl ?_
            show Steps p.tables e below (T58.setTop (mkF m 284 #[.val (.int p0), .val (.int p1), .val (.int p2), .val (.int p3), .val (.int p4), .val (.int (gl p0)), .val (.int (gf p1)), .val (.int (gs p2)), .val (.ref b1), .val (.ref b8), .val (.int (1 : Int32)), .val (.int (1 : Int32)), .val (.int (gs p2)), .val (.int (0 : Int32))] [(.int (0 : Int32)), (.int (gs p2)), (.int r58)])) _
            refine XS.ifYes X58.here hx rfl (pc0 := 284) (pc' := 291) rfl (hb hby at_284) rfl ((if0 _ _).trans (teq (rfl : (0 : Int32) = (0 : Int32))).1) (by decide) (by decide) ?_
            show Steps p.tables e below (T58.setTop (mkF m 291 #[.val (.int p0), .val (.int p1), .val (.int p2), .val (.int p3), .val (.int p4), .val (.int (gl p0)), .val (.int (gf p1)), .val (.int (gs p2)), .val (.ref b1), .val (.ref b8), .val (.int (1 : Int32)), .val (.int (1 : Int32)), .val (.int (gs p2)), .val (.int (0 : Int32))] [(.int (gs p2)), (.int r58)])) _
            refine XS.iconst X58.here hx rfl (hb hby at_291) ?_
            show Steps p.tables e below (T58.setTop (mkF m 292 #[.val (.int p0), .val (.int p1), .val (.int p2), .val (.int p3), .val (.int p4), .val (.int (gl p0)), .val (.int (gf p1)), .val (.int (gs p2)), .val (.ref b1), .val (.ref b8), .val (.int (1 : Int32)), .val (.int (1 : Int32)), .val (.int (gs p2)), .val (.int (0 : Int32))] [(.int (0 : Int32)), (.int (gs p2)), (.int r58)])) _
            refine XS.iadd X58.here hx rfl (hb hby at_292) rfl ?_
            show Steps p.tables e below (T58.setTop (mkF m 293 #[.val (.int p0), .val (.int p1), .val (.int p2), .val (.int p3), .val (.int p4), .val (.int (gl p0)), .val (.int (gf p1)), .val (.int (gs p2)), .val (.ref b1), .val (.ref b8), .val (.int (1 : Int32)), .val (.int (1 : Int32)), .val (.int (gs p2)), .val (.int (0 : Int32))] [(.int ((gs p2) + (0 : Int32))), (.int r58)])) _
            refine XS.icmpNo X58.here hx rfl (hb hby at_293) rfl (teq (show r58 = ((gs p2) + (0 : Int32)) from (own_eq0 hr58 (by rw [Int32.add_zero, hlS]; omega)))).2 ?_
            show Steps p.tables e below (T58.setTop (mkF m 296 #[.val (.int p0), .val (.int p1), .val (.int p2), .val (.int p3), .val (.int p4), .val (.int (gl p0)), .val (.int (gf p1)), .val (.int (gs p2)), .val (.ref b1), .val (.ref b8), .val (.int (1 : Int32)), .val (.int (1 : Int32)), .val (.int (gs p2)), .val (.int (0 : Int32))] [])) _
            refine XS.iconst X58.here hx rfl (hb hby at_296) ?_
            show Steps p.tables e below (T58.setTop (mkF m 297 #[.val (.int p0), .val (.int p1), .val (.int p2), .val (.int p3), .val (.int p4), .val (.int (gl p0)), .val (.int (gf p1)), .val (.int (gs p2)), .val (.ref b1), .val (.ref b8), .val (.int (1 : Int32)), .val (.int (1 : Int32)), .val (.int (gs p2)), .val (.int (0 : Int32))] [(.int (1 : Int32))])) _
            refine XS.goto X58.here hx rfl (pc0 := 297) (pc' := 301) rfl (hb hby at_297) (by decide) (by decide) ?_
            show Steps p.tables e below (T58.setTop (mkF m 301 #[.val (.int p0), .val (.int p1), .val (.int p2), .val (.int p3), .val (.int p4), .val (.int (gl p0)), .val (.int (gf p1)), .val (.int (gs p2)), .val (.ref b1), .val (.ref b8), .val (.int (1 : Int32)), .val (.int (1 : Int32)), .val (.int (gs p2)), .val (.int (0 : Int32))] [(.int (1 : Int32))])) _
            refine XS.istore X58.here hx rfl (hb hby at_301) rfl (l' := #[.val (.int p0), .val (.int p1), .val (.int p2), .val (.int p3), .val (.int p4), .val (.int (gl p0)), .val (.int (gf p1)), .val (.int (gs p2)), .val (.ref b1), .val (.ref b8), .val (.int (1 : Int32)), .val (.int (1 : Int32)), .val (.int (gs p2)), .val (.int (0 : Int32))]) rfl ?_
            show Steps p.tables e below (T58.setTop (mkF m 303 #[.val (.int p0), .val (.int p1), .val (.int p2), .val (.int p3), .val (.int p4), .val (.int (gl p0)), .val (.int (gf p1)), .val (.int (gs p2)), .val (.ref b1), .val (.ref b8), .val (.int (1 : Int32)), .val (.int (1 : Int32)), .val (.int (gs p2)), .val (.int (0 : Int32))] [])) _
            refine XS.iload X58.here hx rfl (hb hby at_303) rfl ?_
            exact kt
          obtain ⟨fsQ, hr, hrun, hended, hW, hsame⟩ := X58.leave (v := some (.int (1 : Int32))) (fun h => by rw [Bd.returns] at h; cases h)
          refine ⟨_, _, pre0 _ (K59 _ ?_), hrun, hended, _, _, rfl, ?_, ⟨_, rfl⟩, hW, hsame.mono (by decide) (by decide)⟩
          · show Steps p.tables e below (T58.setTop (mkF m 305 #[.val (.int p0), .val (.int p1), .val (.int p2), .val (.int p3), .val (.int p4), .val (.int (gl p0)), .val (.int (gf p1)), .val (.int (gs p2)), .val (.ref b1), .val (.ref b8), .val (.int (1 : Int32)), .val (.int (1 : Int32)), .val (.int (gs p2)), .val (.int (0 : Int32))] [(.int (1 : Int32))])) _
            exact retN X58 hx (t := .boolean) Bd.returns (by simp) (hb hby at_305) hr
          · show Q0 Z p0 p1 p2 p3 p4  h0 n0 _ T58.heap _
            rw [e58]
            exact ⟨rfl, N56⟩
        · skip
          obtain ⟨cq60, kq60, q60a, q60b, q60c⟩ := isOf hZ rfl (own_bbE B56q)
          obtain ⟨_, _, ⟨T60, L60, k60, n60⟩, -, X60, ⟨Lc60, hQ60, l60, y60, z60⟩, st60⟩ := X56.virtualBack hx (y := (⟨"com/example/benchwire/benchwire/protocols/BoundedBuffer", "size", "()I"⟩ : MethodName)) (z := (⟨"com/example/benchwire/benchwire/protocols/BoundedBuffer", "size", "()I"⟩ : MethodName)) hown (mvT hZ (hw _ (List.mem_of_getElem? (i := 35) rfl))) (mvT hZ (hw _ (List.mem_of_getElem? (i := 36) rfl))) (notFace_of_selects (args := #[]) (mvT hZ (hw _ (List.mem_of_getElem? (i := 38) rfl)))) (mvT hZ (hw _ (List.mem_of_getElem? (i := 38) rfl))) (mvT hZ (hw _ (List.mem_of_getElem? (i := 37) rfl))) (by decide) (backOf (W := 0) (rm7 l Z a0 hw [] b8 b1 fs lim ((0 + lenS) + 1) cap56 f56 T56.heap n0 Z56q B56q) hZ (hw _ (List.mem_of_getElem? (i := 39) rfl)) (hw _ (List.mem_of_getElem? (i := 4) rfl)) (by decide) (by decide)) q60a q60c (g := (mkF m 277 #[.val (.int p0), .val (.int p1), .val (.int p2), .val (.int p3), .val (.int p4), .val (.int (gl p0)), .val (.int (gf p1)), .val (.int (gs p2)), .val (.ref b1), .val (.ref b8), .val (.int (1 : Int32)), .val (.int (1 : Int32)), .val (.int (gs p2)), .val (.int (1 : Int32))] [(.ref b8)])) rfl (by rw [hml]; rfl) (Steps.refl _) (argsL := []) (rest := []) (lenOf pd_8 rfl) rfl (by show 2 * 0 + _ ≤ _; exact Nat.le_of_eq rfl) (hb hby at_277) (fun _ _ => ⟨rfl, rfl, (by decide : 7 + 0 ≤ _), (by decide : 2348 + 0 ≤ _)⟩)
          dsimp only [Pt.U, Pt.locs, Pt.cells, Pt.slots] at X60 l60 y60 z60 st60 hQ60
          subst l60 y60 z60
          obtain ⟨r60, rfl, hr60, rfl, e60⟩ := hQ60
          try rw [List.append_nil] at X60
          have K61 : ∀ t, Steps p.tables e below (T60.setTop (mkF m 305 #[.val (.int p0), .val (.int p1), .val (.int p2), .val (.int p3), .val (.int p4), .val (.int (gl p0)), .val (.int (gf p1)), .val (.int (gs p2)), .val (.ref b1), .val (.ref b8), .val (.int (1 : Int32)), .val (.int (1 : Int32)), .val (.int (gs p2)), .val (.int (1 : Int32))] [(.int (1 : Int32))])) t → Steps p.tables e below (s₁.setTop (mkF m 0 #[.val (.int p0), .val (.int p1), .val (.int p2), .val (.int p3), .val (.int p4), .unset, .unset, .unset, .unset, .unset, .unset, .unset, .unset, .unset] [])) t := by
            intro t kt
            refine K57 _ ?_
            show Steps p.tables e below (T56.setTop (mkF m 239 #[.val (.int p0), .val (.int p1), .val (.int p2), .val (.int p3), .val (.int p4), .val (.int (gl p0)), .val (.int (gf p1)), .val (.int (gs p2)), .val (.ref b1), .val (.ref b8), .val (.int (1 : Int32)), .val (.int (1 : Int32)), .val (.int (gs p2)), .unset] [(.int (1 : Int32))])) _
            refine XS.istore X56.here hx rfl (hb hby at_239) rfl (l' := #[.val (.int p0), .val (.int p1), .val (.int p2), .val (.int p3), .val (.int p4), .val (.int (gl p0)), .val (.int (gf p1)), .val (.int (gs p2)), .val (.ref b1), .val (.ref b8), .val (.int (1 : Int32)), .val (.int (1 : Int32)), .val (.int (gs p2)), .val (.int (1 : Int32))]) rfl ?_
            show Steps p.tables e below (T56.setTop (mkF m 241 #[.val (.int p0), .val (.int p1), .val (.int p2), .val (.int p3), .val (.int p4), .val (.int (gl p0)), .val (.int (gf p1)), .val (.int (gs p2)), .val (.ref b1), .val (.ref b8), .val (.int (1 : Int32)), .val (.int (1 : Int32)), .val (.int (gs p2)), .val (.int (1 : Int32))] [])) _
            refine XS.iload X56.here hx rfl (hb hby at_241) rfl ?_
            show Steps p.tables e below (T56.setTop (mkF m 243 #[.val (.int p0), .val (.int p1), .val (.int p2), .val (.int p3), .val (.int p4), .val (.int (gl p0)), .val (.int (gf p1)), .val (.int (gs p2)), .val (.ref b1), .val (.ref b8), .val (.int (1 : Int32)), .val (.int (1 : Int32)), .val (.int (gs p2)), .val (.int (1 : Int32))] [(.int (1 : Int32))])) _
            refine XS.ifNo X56.here hx rfl (hb hby at_243) rfl ((if0 _ _).trans (feq (by decide : ¬ ((1 : Int32) = (0 : Int32)))).1) ?_
            show Steps p.tables e below (T56.setTop (mkF m 246 #[.val (.int p0), .val (.int p1), .val (.int p2), .val (.int p3), .val (.int p4), .val (.int (gl p0)), .val (.int (gf p1)), .val (.int (gs p2)), .val (.ref b1), .val (.ref b8), .val (.int (1 : Int32)), .val (.int (1 : Int32)), .val (.int (gs p2)), .val (.int (1 : Int32))] [])) _
            refine XS.iload X56.here hx rfl (hb hby at_246) rfl ?_
            show Steps p.tables e below (T56.setTop (mkF m 248 #[.val (.int p0), .val (.int p1), .val (.int p2), .val (.int p3), .val (.int p4), .val (.int (gl p0)), .val (.int (gf p1)), .val (.int (gs p2)), .val (.ref b1), .val (.ref b8), .val (.int (1 : Int32)), .val (.int (1 : Int32)), .val (.int (gs p2)), .val (.int (1 : Int32))] [(.int (1 : Int32))])) _
            refine XS.iload X56.here hx rfl (hb hby at_248) rfl ?_
            show Steps p.tables e below (T56.setTop (mkF m 250 #[.val (.int p0), .val (.int p1), .val (.int p2), .val (.int p3), .val (.int p4), .val (.int (gl p0)), .val (.int (gf p1)), .val (.int (gs p2)), .val (.ref b1), .val (.ref b8), .val (.int (1 : Int32)), .val (.int (1 : Int32)), .val (.int (gs p2)), .val (.int (1 : Int32))] [(.int (gs p2)), (.int (1 : Int32))])) _
            refine XS.iload X56.here hx rfl (hb hby at_250) rfl ?_
            show Steps p.tables e below (T56.setTop (mkF m 252 #[.val (.int p0), .val (.int p1), .val (.int p2), .val (.int p3), .val (.int p4), .val (.int (gl p0)), .val (.int (gf p1)), .val (.int (gs p2)), .val (.ref b1), .val (.ref b8), .val (.int (1 : Int32)), .val (.int (1 : Int32)), .val (.int (gs p2)), .val (.int (1 : Int32))] [(.int (gl p0)), (.int (gs p2)), (.int (1 : Int32))])) _
            refine XS.icmpNo X56.here hx rfl (hb hby at_252) rfl (tlt (show (gs p2) < (gl p0) from (own_lt hlS hlm (by omega)))).2.1 ?_
            show Steps p.tables e below (T56.setTop (mkF m 255 #[.val (.int p0), .val (.int p1), .val (.int p2), .val (.int p3), .val (.int p4), .val (.int (gl p0)), .val (.int (gf p1)), .val (.int (gs p2)), .val (.ref b1), .val (.ref b8), .val (.int (1 : Int32)), .val (.int (1 : Int32)), .val (.int (gs p2)), .val (.int (1 : Int32))] [(.int (1 : Int32))])) _
            refine XS.iconst X56.here hx rfl (hb hby at_255) ?_
            show Steps p.tables e below (T56.setTop (mkF m 256 #[.val (.int p0), .val (.int p1), .val (.int p2), .val (.int p3), .val (.int p4), .val (.int (gl p0)), .val (.int (gf p1)), .val (.int (gs p2)), .val (.ref b1), .val (.ref b8), .val (.int (1 : Int32)), .val (.int (1 : Int32)), .val (.int (gs p2)), .val (.int (1 : Int32))] [(.int (1 : Int32)), (.int (1 : Int32))])) _
            refine XS.goto X56.here hx rfl (pc0 := 256) (pc' := 260) rfl (hb hby at_256) (by decide) (by decide) ?_
            show Steps p.tables e below (T56.setTop (mkF m 260 #[.val (.int p0), .val (.int p1), .val (.int p2), .val (.int p3), .val (.int p4), .val (.int (gl p0)), .val (.int (gf p1)), .val (.int (gs p2)), .val (.ref b1), .val (.ref b8), .val (.int (1 : Int32)), .val (.int (1 : Int32)), .val (.int (gs p2)), .val (.int (1 : Int32))] [(.int (1 : Int32)), (.int (1 : Int32))])) _
            refine XS.icmpNo X56.here hx rfl (hb hby at_260) rfl (teq (rfl : (1 : Int32) = (1 : Int32))).2 ?_
            show Steps p.tables e below (T56.setTop (mkF m 263 #[.val (.int p0), .val (.int p1), .val (.int p2), .val (.int p3), .val (.int p4), .val (.int (gl p0)), .val (.int (gf p1)), .val (.int (gs p2)), .val (.ref b1), .val (.ref b8), .val (.int (1 : Int32)), .val (.int (1 : Int32)), .val (.int (gs p2)), .val (.int (1 : Int32))] [])) _
            refine XS.iconst X56.here hx rfl (hb hby at_263) ?_
            show Steps p.tables e below (T56.setTop (mkF m 264 #[.val (.int p0), .val (.int p1), .val (.int p2), .val (.int p3), .val (.int p4), .val (.int (gl p0)), .val (.int (gf p1)), .val (.int (gs p2)), .val (.ref b1), .val (.ref b8), .val (.int (1 : Int32)), .val (.int (1 : Int32)), .val (.int (gs p2)), .val (.int (1 : Int32))] [(.int (1 : Int32))])) _
            refine XS.goto X56.here hx rfl (pc0 := 264) (pc' := 268) rfl (hb hby at_264) (by decide) (by decide) ?_
            show Steps p.tables e below (T56.setTop (mkF m 268 #[.val (.int p0), .val (.int p1), .val (.int p2), .val (.int p3), .val (.int p4), .val (.int (gl p0)), .val (.int (gf p1)), .val (.int (gs p2)), .val (.ref b1), .val (.ref b8), .val (.int (1 : Int32)), .val (.int (1 : Int32)), .val (.int (gs p2)), .val (.int (1 : Int32))] [(.int (1 : Int32))])) _
            refine XS.istore X56.here hx rfl (hb hby at_268) rfl (l' := #[.val (.int p0), .val (.int p1), .val (.int p2), .val (.int p3), .val (.int p4), .val (.int (gl p0)), .val (.int (gf p1)), .val (.int (gs p2)), .val (.ref b1), .val (.ref b8), .val (.int (1 : Int32)), .val (.int (1 : Int32)), .val (.int (gs p2)), .val (.int (1 : Int32))]) rfl ?_
            show Steps p.tables e below (T56.setTop (mkF m 270 #[.val (.int p0), .val (.int p1), .val (.int p2), .val (.int p3), .val (.int p4), .val (.int (gl p0)), .val (.int (gf p1)), .val (.int (gs p2)), .val (.ref b1), .val (.ref b8), .val (.int (1 : Int32)), .val (.int (1 : Int32)), .val (.int (gs p2)), .val (.int (1 : Int32))] [])) _
            refine XS.iload X56.here hx rfl (hb hby at_270) rfl ?_
            show Steps p.tables e below (T56.setTop (mkF m 272 #[.val (.int p0), .val (.int p1), .val (.int p2), .val (.int p3), .val (.int p4), .val (.int (gl p0)), .val (.int (gf p1)), .val (.int (gs p2)), .val (.ref b1), .val (.ref b8), .val (.int (1 : Int32)), .val (.int (1 : Int32)), .val (.int (gs p2)), .val (.int (1 : Int32))] [(.int (1 : Int32))])) _
            refine XS.ifNo X56.here hx rfl (hb hby at_272) rfl ((if0 _ _).trans (feq (by decide : ¬ ((1 : Int32) = (0 : Int32)))).1) ?_
            show Steps p.tables e below (T56.setTop (mkF m 275 #[.val (.int p0), .val (.int p1), .val (.int p2), .val (.int p3), .val (.int p4), .val (.int (gl p0)), .val (.int (gf p1)), .val (.int (gs p2)), .val (.ref b1), .val (.ref b8), .val (.int (1 : Int32)), .val (.int (1 : Int32)), .val (.int (gs p2)), .val (.int (1 : Int32))] [])) _
            refine XS.aload X56.here hx rfl (hb hby at_275) rfl rfl ?_
            show Steps p.tables e below (T56.setTop (mkF m 277 #[.val (.int p0), .val (.int p1), .val (.int p2), .val (.int p3), .val (.int p4), .val (.int (gl p0)), .val (.int (gf p1)), .val (.int (gs p2)), .val (.ref b1), .val (.ref b8), .val (.int (1 : Int32)), .val (.int (1 : Int32)), .val (.int (gs p2)), .val (.int (1 : Int32))] [(.ref b8)])) _
            refine st60.trans ?_
            show Steps p.tables e below (T60.setTop (mkF m 280 #[.val (.int p0), .val (.int p1), .val (.int p2), .val (.int p3), .val (.int p4), .val (.int (gl p0)), .val (.int (gf p1)), .val (.int (gs p2)), .val (.ref b1), .val (.ref b8), .val (.int (1 : Int32)), .val (.int (1 : Int32)), .val (.int (gs p2)), .val (.int (1 : Int32))] [(.int r60)])) _
            refine XS.iload X60.here hx rfl (hb hby at_280) rfl ?_
            show Steps p.tables e below (T60.setTop (mkF m 282 #[.val (.int p0), .val (.int p1), .val (.int p2), .val (.int p3), .val (.int p4), .val (.int (gl p0)), .val (.int (gf p1)), .val (.int (gs p2)), .val (.ref b1), .val (.ref b8), .val (.int (1 : Int32)), .val (.int (1 : Int32)), .val (.int (gs p2)), .val (.int (1 : Int32))] [(.int (gs p2)), (.int r60)])) _
            refine XS.iload X60.here hx rfl (hb hby at_282) rfl ?_
            show Steps p.tables e below (T60.setTop (mkF m 284 #[.val (.int p0), .val (.int p1), .val (.int p2), .val (.int p3), .val (.int p4), .val (.int (gl p0)), .val (.int (gf p1)), .val (.int (gs p2)), .val (.ref b1), .val (.ref b8), .val (.int (1 : Int32)), .val (.int (1 : Int32)), .val (.int (gs p2)), .val (.int (1 : Int32))] [(.int (1 : Int32)), (.int (gs p2)), (.int r60)])) _
            refine XS.ifNo X60.here hx rfl (hb hby at_284) rfl ((if0 _ _).trans (feq (by decide : ¬ ((1 : Int32) = (0 : Int32)))).1) ?_
            show Steps p.tables e below (T60.setTop (mkF m 287 #[.val (.int p0), .val (.int p1), .val (.int p2), .val (.int p3), .val (.int p4), .val (.int (gl p0)), .val (.int (gf p1)), .val (.int (gs p2)), .val (.ref b1), .val (.ref b8), .val (.int (1 : Int32)), .val (.int (1 : Int32)), .val (.int (gs p2)), .val (.int (1 : Int32))] [(.int (gs p2)), (.int r60)])) _
            refine XS.iconst X60.here hx rfl (hb hby at_287) ?_
            show Steps p.tables e below (T60.setTop (mkF m 288 #[.val (.int p0), .val (.int p1), .val (.int p2), .val (.int p3), .val (.int p4), .val (.int (gl p0)), .val (.int (gf p1)), .val (.int (gs p2)), .val (.ref b1), .val (.ref b8), .val (.int (1 : Int32)), .val (.int (1 : Int32)), .val (.int (gs p2)), .val (.int (1 : Int32))] [(.int (1 : Int32)), (.int (gs p2)), (.int r60)])) _
            refine XS.goto X60.here hx rfl (pc0 := 288) (pc' := 292) rfl (hb hby at_288) (by decide) (by decide) ?_
            show Steps p.tables e below (T60.setTop (mkF m 292 #[.val (.int p0), .val (.int p1), .val (.int p2), .val (.int p3), .val (.int p4), .val (.int (gl p0)), .val (.int (gf p1)), .val (.int (gs p2)), .val (.ref b1), .val (.ref b8), .val (.int (1 : Int32)), .val (.int (1 : Int32)), .val (.int (gs p2)), .val (.int (1 : Int32))] [(.int (1 : Int32)), (.int (gs p2)), (.int r60)])) _
            refine XS.iadd X60.here hx rfl (hb hby at_292) rfl ?_
            show Steps p.tables e below (T60.setTop (mkF m 293 #[.val (.int p0), .val (.int p1), .val (.int p2), .val (.int p3), .val (.int p4), .val (.int (gl p0)), .val (.int (gf p1)), .val (.int (gs p2)), .val (.ref b1), .val (.ref b8), .val (.int (1 : Int32)), .val (.int (1 : Int32)), .val (.int (gs p2)), .val (.int (1 : Int32))] [(.int ((gs p2) + (1 : Int32))), (.int r60)])) _
            refine XS.icmpNo X60.here hx rfl (hb hby at_293) rfl (teq (show r60 = ((gs p2) + (1 : Int32)) from (own_eq0 hr60 (by rw [own_add32 (by rw [hlS]; have : (1 : Int32).toInt = 1 := rfl; omega) (by rw [hlS]; have : (1 : Int32).toInt = 1 := rfl; omega), hlS, show (1 : Int32).toInt = 1 from rfl]; omega)))).2 ?_
            show Steps p.tables e below (T60.setTop (mkF m 296 #[.val (.int p0), .val (.int p1), .val (.int p2), .val (.int p3), .val (.int p4), .val (.int (gl p0)), .val (.int (gf p1)), .val (.int (gs p2)), .val (.ref b1), .val (.ref b8), .val (.int (1 : Int32)), .val (.int (1 : Int32)), .val (.int (gs p2)), .val (.int (1 : Int32))] [])) _
            refine XS.iconst X60.here hx rfl (hb hby at_296) ?_
            show Steps p.tables e below (T60.setTop (mkF m 297 #[.val (.int p0), .val (.int p1), .val (.int p2), .val (.int p3), .val (.int p4), .val (.int (gl p0)), .val (.int (gf p1)), .val (.int (gs p2)), .val (.ref b1), .val (.ref b8), .val (.int (1 : Int32)), .val (.int (1 : Int32)), .val (.int (gs p2)), .val (.int (1 : Int32))] [(.int (1 : Int32))])) _
            refine XS.goto X60.here hx rfl (pc0 := 297) (pc' := 301) rfl (hb hby at_297) (by decide) (by decide) ?_
            show Steps p.tables e below (T60.setTop (mkF m 301 #[.val (.int p0), .val (.int p1), .val (.int p2), .val (.int p3), .val (.int p4), .val (.int (gl p0)), .val (.int (gf p1)), .val (.int (gs p2)), .val (.ref b1), .val (.ref b8), .val (.int (1 : Int32)), .val (.int (1 : Int32)), .val (.int (gs p2)), .val (.int (1 : Int32))] [(.int (1 : Int32))])) _
            refine XS.istore X60.here hx rfl (hb hby at_301) rfl (l' := #[.val (.int p0), .val (.int p1), .val (.int p2), .val (.int p3), .val (.int p4), .val (.int (gl p0)), .val (.int (gf p1)), .val (.int (gs p2)), .val (.ref b1), .val (.ref b8), .val (.int (1 : Int32)), .val (.int (1 : Int32)), .val (.int (gs p2)), .val (.int (1 : Int32))]) rfl ?_
            show Steps p.tables e below (T60.setTop (mkF m 303 #[.val (.int p0), .val (.int p1), .val (.int p2), .val (.int p3), .val (.int p4), .val (.int (gl p0)), .val (.int (gf p1)), .val (.int (gs p2)), .val (.ref b1), .val (.ref b8), .val (.int (1 : Int32)), .val (.int (1 : Int32)), .val (.int (gs p2)), .val (.int (1 : Int32))] [])) _
            refine XS.iload X60.here hx rfl (hb hby at_303) rfl ?_
            exact kt
          obtain ⟨fsQ, hr, hrun, hended, hW, hsame⟩ := X60.leave (v := some (.int (1 : Int32))) (fun h => by rw [Bd.returns] at h; cases h)
          refine ⟨_, _, pre0 _ (K61 _ ?_), hrun, hended, _, _, rfl, ?_, ⟨_, rfl⟩, hW, hsame.mono (by decide) (by decide)⟩
          · show Steps p.tables e below (T60.setTop (mkF m 305 #[.val (.int p0), .val (.int p1), .val (.int p2), .val (.int p3), .val (.int p4), .val (.int (gl p0)), .val (.int (gf p1)), .val (.int (gs p2)), .val (.ref b1), .val (.ref b8), .val (.int (1 : Int32)), .val (.int (1 : Int32)), .val (.int (gs p2)), .val (.int (1 : Int32))] [(.int (1 : Int32))])) _
            exact retN X60 hx (t := .boolean) Bd.returns (by simp) (hb hby at_305) hr
          · show Q0 Z p0 p1 p2 p3 p4  h0 n0 _ T60.heap _
            rw [e60]
            exact ⟨rfl, N56⟩
      · skip
        have hge2 := own_ge2 hc55 hlS
        obtain ⟨cq62, kq62, q62a, q62b, q62c⟩ := isOf hZ e53 (own_bbE B44q)
        obtain ⟨_, _, ⟨T62, L62, k62, n62⟩, -, X62, ⟨Lc62, hQ62, l62, y62, z62⟩, st62⟩ := X53.virtualBack hx (y := (⟨"com/example/benchwire/benchwire/protocols/BoundedBuffer", "get", "(I)B"⟩ : MethodName)) (z := (⟨"com/example/benchwire/benchwire/protocols/BoundedBuffer", "get", "(I)B"⟩ : MethodName)) hown (mvT hZ (hw _ (List.mem_of_getElem? (i := 49) rfl))) (mvT hZ (hw _ (List.mem_of_getElem? (i := 50) rfl))) (notFace_of_selects (args := #[]) (mvT hZ (hw _ (List.mem_of_getElem? (i := 52) rfl)))) (mvT hZ (hw _ (List.mem_of_getElem? (i := 52) rfl))) (mvT hZ (hw _ (List.mem_of_getElem? (i := 51) rfl))) (by decide) (backOf (W := 0) (rm9 l Z a0 hw [] b8 (0 : Int32) b1 fs lim (0 + lenS) cap44 f44 0 T44.heap n0 Z44q B44q rfl (by omega)) hZ (hw _ (List.mem_of_getElem? (i := 53) rfl)) (hw _ (List.mem_of_getElem? (i := 4) rfl)) (by decide) (by decide)) q62a q62c (g := (mkF m 205 #[.val (.int p0), .val (.int p1), .val (.int p2), .val (.int p3), .val (.int p4), .val (.int (gl p0)), .val (.int (gf p1)), .val (.int (gs p2)), .val (.ref b1), .val (.ref b8), .val (.int (1 : Int32)), .val (.int (1 : Int32)), .val (.int (gs p2)), .unset] [(.int (0 : Int32)), (.ref b8)])) rfl (by rw [hml]; rfl) (Steps.refl _) (argsL := [(.int (0 : Int32))]) (rest := []) (lenOf pd_10 rfl) rfl (by show 2 * 0 + _ ≤ _; exact Nat.le_of_eq rfl) (hb hby at_205) (fun _ _ => ⟨rfl, e53, (by decide : 6 + 0 ≤ _), (by decide : 1837 + 0 ≤ _)⟩)
        dsimp only [Pt.U, Pt.locs, Pt.cells, Pt.slots] at X62 l62 y62 z62 st62 hQ62
        subst l62 y62 z62
        obtain ⟨rfl, rfl, e62⟩ := hQ62
        try rw [List.append_nil] at X62
        obtain ⟨cq63, kq63, q63a, q63b, q63c⟩ := isOf hZ e62 (own_bbE B44q)
        obtain ⟨_, _, ⟨T63, L63, k63, n63⟩, -, X63, ⟨Lc63, hQ63, l63, y63, z63⟩, st63⟩ := X62.virtualBack hx (y := (⟨"com/example/benchwire/benchwire/protocols/BoundedBuffer", "get", "(I)B"⟩ : MethodName)) (z := (⟨"com/example/benchwire/benchwire/protocols/BoundedBuffer", "get", "(I)B"⟩ : MethodName)) hown (mvT hZ (hw _ (List.mem_of_getElem? (i := 49) rfl))) (mvT hZ (hw _ (List.mem_of_getElem? (i := 50) rfl))) (notFace_of_selects (args := #[]) (mvT hZ (hw _ (List.mem_of_getElem? (i := 52) rfl)))) (mvT hZ (hw _ (List.mem_of_getElem? (i := 52) rfl))) (mvT hZ (hw _ (List.mem_of_getElem? (i := 51) rfl))) (by decide) (backOf (W := 0) (rm9 l Z a0 hw [] b8 (1 : Int32) b1 fs lim (0 + lenS) cap44 f44 1 T44.heap n0 Z44q B44q rfl (by omega)) hZ (hw _ (List.mem_of_getElem? (i := 53) rfl)) (hw _ (List.mem_of_getElem? (i := 4) rfl)) (by decide) (by decide)) q63a q63c (g := (mkF m 216 #[.val (.int p0), .val (.int p1), .val (.int p2), .val (.int p3), .val (.int p4), .val (.int (gl p0)), .val (.int (gf p1)), .val (.int (gs p2)), .val (.ref b1), .val (.ref b8), .val (.int (1 : Int32)), .val (.int (1 : Int32)), .val (.int (gs p2)), .unset] [(.int (1 : Int32)), (.ref b8)])) rfl (by rw [hml]; rfl) (Steps.refl _) (argsL := [(.int (1 : Int32))]) (rest := []) (lenOf pd_10 rfl) rfl (by show 2 * 0 + _ ≤ _; exact Nat.le_of_eq rfl) (hb hby at_216) (fun _ _ => ⟨rfl, e62, (by decide : 6 + 0 ≤ _), (by decide : 1837 + 0 ≤ _)⟩)
        dsimp only [Pt.U, Pt.locs, Pt.cells, Pt.slots] at X63 l63 y63 z63 st63 hQ63
        subst l63 y63 z63
        obtain ⟨rfl, rfl, e63⟩ := hQ63
        try rw [List.append_nil] at X63
        obtain ⟨cq64, kq64, q64a, q64b, q64c⟩ := isOf hZ e63 (own_bbE B44q)
        obtain ⟨_, _, ⟨T64, L64, k64, n64⟩, -, X64, ⟨Lc64, hQ64, l64, y64, z64⟩, st64⟩ := X63.virtualBack hx (y := (⟨"com/example/benchwire/benchwire/protocols/BoundedBuffer", "add", "(B)Z"⟩ : MethodName)) (z := (⟨"com/example/benchwire/benchwire/protocols/BoundedBuffer", "add", "(B)Z"⟩ : MethodName)) hown (mvT hZ (hw _ (List.mem_of_getElem? (i := 40) rfl))) (mvT hZ (hw _ (List.mem_of_getElem? (i := 41) rfl))) (notFace_of_selects (args := #[]) (mvT hZ (hw _ (List.mem_of_getElem? (i := 43) rfl)))) (mvT hZ (hw _ (List.mem_of_getElem? (i := 43) rfl))) (mvT hZ (hw _ (List.mem_of_getElem? (i := 42) rfl))) (by decide) (backOf (W := 0) (rm8 l Z a0 hw [] b8 (p3.toInt8.toInt32) b1 fs lim (0 + lenS) cap44 f44 T44.heap n0 Z44q B44q) hZ (hw _ (List.mem_of_getElem? (i := 44) rfl)) (hw _ (List.mem_of_getElem? (i := 4) rfl)) (by decide) (by decide)) q64a q64c (g := (mkF m 236 #[.val (.int p0), .val (.int p1), .val (.int p2), .val (.int p3), .val (.int p4), .val (.int (gl p0)), .val (.int (gf p1)), .val (.int (gs p2)), .val (.ref b1), .val (.ref b8), .val (.int (1 : Int32)), .val (.int (1 : Int32)), .val (.int (gs p2)), .unset] [(.int (p3.toInt8.toInt32)), (.ref b8)])) rfl (by rw [hml]; rfl) (Steps.refl _) (argsL := [(.int (p3.toInt8.toInt32))]) (rest := []) (lenOf pd_9 rfl) rfl (by show 2 * 0 + _ ≤ _; exact Nat.le_of_eq rfl) (hb hby at_236) (fun _ _ => ⟨rfl, e63, (by decide : 6 + 1 ≤ _), (by decide : 1837 + 511 ≤ _)⟩)
        dsimp only [Pt.U, Pt.locs, Pt.cells, Pt.slots] at X64 l64 y64 z64 st64 hQ64
        subst l64 y64 z64
        obtain ⟨r64, sz64, cap64, f64, rfl, N64q, Z64q, B64q, hr64⟩ := hQ64
        have N64 := Fr.app N44 N64q
        have K65 : ∀ t, Steps p.tables e below (T64.setTop (mkF m 239 #[.val (.int p0), .val (.int p1), .val (.int p2), .val (.int p3), .val (.int p4), .val (.int (gl p0)), .val (.int (gf p1)), .val (.int (gs p2)), .val (.ref b1), .val (.ref b8), .val (.int (1 : Int32)), .val (.int (1 : Int32)), .val (.int (gs p2)), .unset] [(.int r64)])) t → Steps p.tables e below (s₁.setTop (mkF m 0 #[.val (.int p0), .val (.int p1), .val (.int p2), .val (.int p3), .val (.int p4), .unset, .unset, .unset, .unset, .unset, .unset, .unset, .unset, .unset] [])) t := by
          intro t kt
          refine K54 _ ?_
          show Steps p.tables e below (T53.setTop (mkF m 199 #[.val (.int p0), .val (.int p1), .val (.int p2), .val (.int p3), .val (.int p4), .val (.int (gl p0)), .val (.int (gf p1)), .val (.int (gs p2)), .val (.ref b1), .val (.ref b8), .val (.int (1 : Int32)), .val (.int (1 : Int32)), .val (.int (gs p2)), .unset] [(.int (2 : Int32)), (.int (gs p2))])) _
          refine XS.icmpNo X53.here hx rfl (hb hby at_199) rfl (flt hc55).1 ?_
          show Steps p.tables e below (T53.setTop (mkF m 202 #[.val (.int p0), .val (.int p1), .val (.int p2), .val (.int p3), .val (.int p4), .val (.int (gl p0)), .val (.int (gf p1)), .val (.int (gs p2)), .val (.ref b1), .val (.ref b8), .val (.int (1 : Int32)), .val (.int (1 : Int32)), .val (.int (gs p2)), .unset] [])) _
          refine XS.aload X53.here hx rfl (hb hby at_202) rfl rfl ?_
          show Steps p.tables e below (T53.setTop (mkF m 204 #[.val (.int p0), .val (.int p1), .val (.int p2), .val (.int p3), .val (.int p4), .val (.int (gl p0)), .val (.int (gf p1)), .val (.int (gs p2)), .val (.ref b1), .val (.ref b8), .val (.int (1 : Int32)), .val (.int (1 : Int32)), .val (.int (gs p2)), .unset] [(.ref b8)])) _
          refine XS.iconst X53.here hx rfl (hb hby at_204) ?_
          show Steps p.tables e below (T53.setTop (mkF m 205 #[.val (.int p0), .val (.int p1), .val (.int p2), .val (.int p3), .val (.int p4), .val (.int (gl p0)), .val (.int (gf p1)), .val (.int (gs p2)), .val (.ref b1), .val (.ref b8), .val (.int (1 : Int32)), .val (.int (1 : Int32)), .val (.int (gs p2)), .unset] [(.int (0 : Int32)), (.ref b8)])) _
          refine st62.trans ?_
          show Steps p.tables e below (T62.setTop (mkF m 208 #[.val (.int p0), .val (.int p1), .val (.int p2), .val (.int p3), .val (.int p4), .val (.int (gl p0)), .val (.int (gf p1)), .val (.int (gs p2)), .val (.ref b1), .val (.ref b8), .val (.int (1 : Int32)), .val (.int (1 : Int32)), .val (.int (gs p2)), .unset] [(.int (nar .byte (f44 0)))])) _
          refine XS.iloadN X62.here hx rfl (hb hby at_208) rfl ?_
          show Steps p.tables e below (T62.setTop (mkF m 209 #[.val (.int p0), .val (.int p1), .val (.int p2), .val (.int p3), .val (.int p4), .val (.int (gl p0)), .val (.int (gf p1)), .val (.int (gs p2)), .val (.ref b1), .val (.ref b8), .val (.int (1 : Int32)), .val (.int (1 : Int32)), .val (.int (gs p2)), .unset] [(.int p3), (.int (nar .byte (f44 0)))])) _
          refine XS.i2b X62.here hx rfl (hb hby at_209) rfl ?_
          show Steps p.tables e below (T62.setTop (mkF m 210 #[.val (.int p0), .val (.int p1), .val (.int p2), .val (.int p3), .val (.int p4), .val (.int (gl p0)), .val (.int (gf p1)), .val (.int (gs p2)), .val (.ref b1), .val (.ref b8), .val (.int (1 : Int32)), .val (.int (1 : Int32)), .val (.int (gs p2)), .unset] [(.int (p3.toInt8.toInt32)), (.int (nar .byte (f44 0)))])) _
          refine XS.icmpNo X62.here hx rfl (hb hby at_210) rfl (teq (show (nar .byte (f44 0)) = (p3.toInt8.toInt32) from (by rw [hcS rfl 0 (by omega), fs0]; exact own_nn _))).2 ?_
          show Steps p.tables e below (T62.setTop (mkF m 213 #[.val (.int p0), .val (.int p1), .val (.int p2), .val (.int p3), .val (.int p4), .val (.int (gl p0)), .val (.int (gf p1)), .val (.int (gs p2)), .val (.ref b1), .val (.ref b8), .val (.int (1 : Int32)), .val (.int (1 : Int32)), .val (.int (gs p2)), .unset] [])) _
          refine XS.aload X62.here hx rfl (hb hby at_213) rfl rfl ?_
          show Steps p.tables e below (T62.setTop (mkF m 215 #[.val (.int p0), .val (.int p1), .val (.int p2), .val (.int p3), .val (.int p4), .val (.int (gl p0)), .val (.int (gf p1)), .val (.int (gs p2)), .val (.ref b1), .val (.ref b8), .val (.int (1 : Int32)), .val (.int (1 : Int32)), .val (.int (gs p2)), .unset] [(.ref b8)])) _
          refine XS.iconst X62.here hx rfl (hb hby at_215) ?_
          show Steps p.tables e below (T62.setTop (mkF m 216 #[.val (.int p0), .val (.int p1), .val (.int p2), .val (.int p3), .val (.int p4), .val (.int (gl p0)), .val (.int (gf p1)), .val (.int (gs p2)), .val (.ref b1), .val (.ref b8), .val (.int (1 : Int32)), .val (.int (1 : Int32)), .val (.int (gs p2)), .unset] [(.int (1 : Int32)), (.ref b8)])) _
          refine st63.trans ?_
          show Steps p.tables e below (T63.setTop (mkF m 219 #[.val (.int p0), .val (.int p1), .val (.int p2), .val (.int p3), .val (.int p4), .val (.int (gl p0)), .val (.int (gf p1)), .val (.int (gs p2)), .val (.ref b1), .val (.ref b8), .val (.int (1 : Int32)), .val (.int (1 : Int32)), .val (.int (gs p2)), .unset] [(.int (nar .byte (f44 1)))])) _
          refine XS.iload X63.here hx rfl (hb hby at_219) rfl ?_
          show Steps p.tables e below (T63.setTop (mkF m 221 #[.val (.int p0), .val (.int p1), .val (.int p2), .val (.int p3), .val (.int p4), .val (.int (gl p0)), .val (.int (gf p1)), .val (.int (gs p2)), .val (.ref b1), .val (.ref b8), .val (.int (1 : Int32)), .val (.int (1 : Int32)), .val (.int (gs p2)), .unset] [(.int p4), (.int (nar .byte (f44 1)))])) _
          refine XS.i2b X63.here hx rfl (hb hby at_221) rfl ?_
          show Steps p.tables e below (T63.setTop (mkF m 222 #[.val (.int p0), .val (.int p1), .val (.int p2), .val (.int p3), .val (.int p4), .val (.int (gl p0)), .val (.int (gf p1)), .val (.int (gs p2)), .val (.ref b1), .val (.ref b8), .val (.int (1 : Int32)), .val (.int (1 : Int32)), .val (.int (gs p2)), .unset] [(.int (p4.toInt8.toInt32)), (.int (nar .byte (f44 1)))])) _
          refine XS.icmpNo X63.here hx rfl (hb hby at_222) rfl (teq (show (nar .byte (f44 1)) = (p4.toInt8.toInt32) from (by rw [hcS rfl 1 (by omega), fs1]; exact own_nn _))).2 ?_
          show Steps p.tables e below (T63.setTop (mkF m 225 #[.val (.int p0), .val (.int p1), .val (.int p2), .val (.int p3), .val (.int p4), .val (.int (gl p0)), .val (.int (gf p1)), .val (.int (gs p2)), .val (.ref b1), .val (.ref b8), .val (.int (1 : Int32)), .val (.int (1 : Int32)), .val (.int (gs p2)), .unset] [])) _
          refine XS.iconst X63.here hx rfl (hb hby at_225) ?_
          show Steps p.tables e below (T63.setTop (mkF m 226 #[.val (.int p0), .val (.int p1), .val (.int p2), .val (.int p3), .val (.int p4), .val (.int (gl p0)), .val (.int (gf p1)), .val (.int (gs p2)), .val (.ref b1), .val (.ref b8), .val (.int (1 : Int32)), .val (.int (1 : Int32)), .val (.int (gs p2)), .unset] [(.int (1 : Int32))])) _
          refine XS.goto X63.here hx rfl (pc0 := 226) (pc' := 230) rfl (hb hby at_226) (by decide) (by decide) ?_
          show Steps p.tables e below (T63.setTop (mkF m 230 #[.val (.int p0), .val (.int p1), .val (.int p2), .val (.int p3), .val (.int p4), .val (.int (gl p0)), .val (.int (gf p1)), .val (.int (gs p2)), .val (.ref b1), .val (.ref b8), .val (.int (1 : Int32)), .val (.int (1 : Int32)), .val (.int (gs p2)), .unset] [(.int (1 : Int32))])) _
          refine XS.istore X63.here hx rfl (hb hby at_230) rfl (l' := #[.val (.int p0), .val (.int p1), .val (.int p2), .val (.int p3), .val (.int p4), .val (.int (gl p0)), .val (.int (gf p1)), .val (.int (gs p2)), .val (.ref b1), .val (.ref b8), .val (.int (1 : Int32)), .val (.int (1 : Int32)), .val (.int (gs p2)), .unset]) rfl ?_
          show Steps p.tables e below (T63.setTop (mkF m 232 #[.val (.int p0), .val (.int p1), .val (.int p2), .val (.int p3), .val (.int p4), .val (.int (gl p0)), .val (.int (gf p1)), .val (.int (gs p2)), .val (.ref b1), .val (.ref b8), .val (.int (1 : Int32)), .val (.int (1 : Int32)), .val (.int (gs p2)), .unset] [])) _
          refine XS.aload X63.here hx rfl (hb hby at_232) rfl rfl ?_
          show Steps p.tables e below (T63.setTop (mkF m 234 #[.val (.int p0), .val (.int p1), .val (.int p2), .val (.int p3), .val (.int p4), .val (.int (gl p0)), .val (.int (gf p1)), .val (.int (gs p2)), .val (.ref b1), .val (.ref b8), .val (.int (1 : Int32)), .val (.int (1 : Int32)), .val (.int (gs p2)), .unset] [(.ref b8)])) _
          refine XS.iloadN X63.here hx rfl (hb hby at_234) rfl ?_
          show Steps p.tables e below (T63.setTop (mkF m 235 #[.val (.int p0), .val (.int p1), .val (.int p2), .val (.int p3), .val (.int p4), .val (.int (gl p0)), .val (.int (gf p1)), .val (.int (gs p2)), .val (.ref b1), .val (.ref b8), .val (.int (1 : Int32)), .val (.int (1 : Int32)), .val (.int (gs p2)), .unset] [(.int p3), (.ref b8)])) _
          refine XS.i2b X63.here hx rfl (hb hby at_235) rfl ?_
          show Steps p.tables e below (T63.setTop (mkF m 236 #[.val (.int p0), .val (.int p1), .val (.int p2), .val (.int p3), .val (.int p4), .val (.int (gl p0)), .val (.int (gf p1)), .val (.int (gs p2)), .val (.ref b1), .val (.ref b8), .val (.int (1 : Int32)), .val (.int (1 : Int32)), .val (.int (gs p2)), .unset] [(.int (p3.toInt8.toInt32)), (.ref b8)])) _
          refine st64.trans ?_
          exact kt
        rcases hr64 with ⟨rfl, hnO, rfl⟩ | ⟨rfl, hyO, rfl⟩
        · skip
          obtain ⟨cq66, kq66, q66a, q66b, q66c⟩ := isOf hZ rfl (own_bbE B64q)
          obtain ⟨_, _, ⟨T66, L66, k66, n66⟩, -, X66, ⟨Lc66, hQ66, l66, y66, z66⟩, st66⟩ := X64.virtualBack hx (y := (⟨"com/example/benchwire/benchwire/protocols/BoundedBuffer", "size", "()I"⟩ : MethodName)) (z := (⟨"com/example/benchwire/benchwire/protocols/BoundedBuffer", "size", "()I"⟩ : MethodName)) hown (mvT hZ (hw _ (List.mem_of_getElem? (i := 35) rfl))) (mvT hZ (hw _ (List.mem_of_getElem? (i := 36) rfl))) (notFace_of_selects (args := #[]) (mvT hZ (hw _ (List.mem_of_getElem? (i := 38) rfl)))) (mvT hZ (hw _ (List.mem_of_getElem? (i := 38) rfl))) (mvT hZ (hw _ (List.mem_of_getElem? (i := 37) rfl))) (by decide) (backOf (W := 0) (rm7 l Z a0 hw [] b8 b1 fs lim (0 + lenS) cap64 f64 T64.heap n0 Z64q B64q) hZ (hw _ (List.mem_of_getElem? (i := 39) rfl)) (hw _ (List.mem_of_getElem? (i := 4) rfl)) (by decide) (by decide)) q66a q66c (g := (mkF m 277 #[.val (.int p0), .val (.int p1), .val (.int p2), .val (.int p3), .val (.int p4), .val (.int (gl p0)), .val (.int (gf p1)), .val (.int (gs p2)), .val (.ref b1), .val (.ref b8), .val (.int (1 : Int32)), .val (.int (1 : Int32)), .val (.int (gs p2)), .val (.int (0 : Int32))] [(.ref b8)])) rfl (by rw [hml]; rfl) (Steps.refl _) (argsL := []) (rest := []) (lenOf pd_8 rfl) rfl (by show 2 * 0 + _ ≤ _; exact Nat.le_of_eq rfl) (hb hby at_277) (fun _ _ => ⟨rfl, rfl, (by decide : 7 + 0 ≤ _), (by decide : 2348 + 0 ≤ _)⟩)
          dsimp only [Pt.U, Pt.locs, Pt.cells, Pt.slots] at X66 l66 y66 z66 st66 hQ66
          subst l66 y66 z66
          obtain ⟨r66, rfl, hr66, rfl, e66⟩ := hQ66
          try rw [List.append_nil] at X66
          have K67 : ∀ t, Steps p.tables e below (T66.setTop (mkF m 305 #[.val (.int p0), .val (.int p1), .val (.int p2), .val (.int p3), .val (.int p4), .val (.int (gl p0)), .val (.int (gf p1)), .val (.int (gs p2)), .val (.ref b1), .val (.ref b8), .val (.int (1 : Int32)), .val (.int (1 : Int32)), .val (.int (gs p2)), .val (.int (0 : Int32))] [(.int (1 : Int32))])) t → Steps p.tables e below (s₁.setTop (mkF m 0 #[.val (.int p0), .val (.int p1), .val (.int p2), .val (.int p3), .val (.int p4), .unset, .unset, .unset, .unset, .unset, .unset, .unset, .unset, .unset] [])) t := by
            intro t kt
            refine K65 _ ?_
            show Steps p.tables e below (T64.setTop (mkF m 239 #[.val (.int p0), .val (.int p1), .val (.int p2), .val (.int p3), .val (.int p4), .val (.int (gl p0)), .val (.int (gf p1)), .val (.int (gs p2)), .val (.ref b1), .val (.ref b8), .val (.int (1 : Int32)), .val (.int (1 : Int32)), .val (.int (gs p2)), .unset] [(.int (0 : Int32))])) _
            refine XS.istore X64.here hx rfl (hb hby at_239) rfl (l' := #[.val (.int p0), .val (.int p1), .val (.int p2), .val (.int p3), .val (.int p4), .val (.int (gl p0)), .val (.int (gf p1)), .val (.int (gs p2)), .val (.ref b1), .val (.ref b8), .val (.int (1 : Int32)), .val (.int (1 : Int32)), .val (.int (gs p2)), .val (.int (0 : Int32))]) rfl ?_
            show Steps p.tables e below (T64.setTop (mkF m 241 #[.val (.int p0), .val (.int p1), .val (.int p2), .val (.int p3), .val (.int p4), .val (.int (gl p0)), .val (.int (gf p1)), .val (.int (gs p2)), .val (.ref b1), .val (.ref b8), .val (.int (1 : Int32)), .val (.int (1 : Int32)), .val (.int (gs p2)), .val (.int (0 : Int32))] [])) _
            refine XS.iload X64.here hx rfl (hb hby at_241) rfl ?_
            show Steps p.tables e below (T64.setTop (mkF m 243 #[.val (.int p0), .val (.int p1), .val (.int p2), .val (.int p3), .val (.int p4), .val (.int (gl p0)), .val (.int (gf p1)), .val (.int (gs p2)), .val (.ref b1), .val (.ref b8), .val (.int (1 : Int32)), .val (.int (1 : Int32)), .val (.int (gs p2)), .val (.int (0 : Int32))] [(.int (1 : Int32))])) _
            refine XS.ifNo X64.here hx rfl (hb hby at_243) rfl ((if0 _ _).trans (feq (by decide : ¬ ((1 : Int32) = (0 : Int32)))).1) ?_
            show Steps p.tables e below (T64.setTop (mkF m 246 #[.val (.int p0), .val (.int p1), .val (.int p2), .val (.int p3), .val (.int p4), .val (.int (gl p0)), .val (.int (gf p1)), .val (.int (gs p2)), .val (.ref b1), .val (.ref b8), .val (.int (1 : Int32)), .val (.int (1 : Int32)), .val (.int (gs p2)), .val (.int (0 : Int32))] [])) _
            refine XS.iload X64.here hx rfl (hb hby at_246) rfl ?_
            show Steps p.tables e below (T64.setTop (mkF m 248 #[.val (.int p0), .val (.int p1), .val (.int p2), .val (.int p3), .val (.int p4), .val (.int (gl p0)), .val (.int (gf p1)), .val (.int (gs p2)), .val (.ref b1), .val (.ref b8), .val (.int (1 : Int32)), .val (.int (1 : Int32)), .val (.int (gs p2)), .val (.int (0 : Int32))] [(.int (0 : Int32))])) _
            refine XS.iload X64.here hx rfl (hb hby at_248) rfl ?_
            show Steps p.tables e below (T64.setTop (mkF m 250 #[.val (.int p0), .val (.int p1), .val (.int p2), .val (.int p3), .val (.int p4), .val (.int (gl p0)), .val (.int (gf p1)), .val (.int (gs p2)), .val (.ref b1), .val (.ref b8), .val (.int (1 : Int32)), .val (.int (1 : Int32)), .val (.int (gs p2)), .val (.int (0 : Int32))] [(.int (gs p2)), (.int (0 : Int32))])) _
            refine XS.iload X64.here hx rfl (hb hby at_250) rfl ?_
            show Steps p.tables e below (T64.setTop (mkF m 252 #[.val (.int p0), .val (.int p1), .val (.int p2), .val (.int p3), .val (.int p4), .val (.int (gl p0)), .val (.int (gf p1)), .val (.int (gs p2)), .val (.ref b1), .val (.ref b8), .val (.int (1 : Int32)), .val (.int (1 : Int32)), .val (.int (gs p2)), .val (.int (0 : Int32))] [(.int (gl p0)), (.int (gs p2)), (.int (0 : Int32))])) _
            refine XS.icmpYes X64.here hx rfl (pc0 := 252) (pc' := 259) rfl (hb hby at_252) rfl (flt (show ¬ ((gs p2) < (gl p0)) from (own_nlt hlS hlm (by omega)))).2.1 (by decide) (by decide) ?_
            show Steps p.tables e below (T64.setTop (mkF m 259 #[.val (.int p0), .val (.int p1), .val (.int p2), .val (.int p3), .val (.int p4), .val (.int (gl p0)), .val (.int (gf p1)), .val (.int (gs p2)), .val (.ref b1), .val (.ref b8), .val (.int (1 : Int32)), .val (.int (1 : Int32)), .val (.int (gs p2)), .val (.int (0 : Int32))] [(.int (0 : Int32))])) _
            refine XS.iconst X64.here hx rfl (hb hby at_259) ?_
            show Steps p.tables e below (T64.setTop (mkF m 260 #[.val (.int p0), .val (.int p1), .val (.int p2), .val (.int p3), .val (.int p4), .val (.int (gl p0)), .val (.int (gf p1)), .val (.int (gs p2)), .val (.ref b1), .val (.ref b8), .val (.int (1 : Int32)), .val (.int (1 : Int32)), .val (.int (gs p2)), .val (.int (0 : Int32))] [(.int (0 : Int32)), (.int (0 : Int32))])) _
            refine XS.icmpNo X64.here hx rfl (hb hby at_260) rfl (teq (rfl : (0 : Int32) = (0 : Int32))).2 ?_
            show Steps p.tables e below (T64.setTop (mkF m 263 #[.val (.int p0), .val (.int p1), .val (.int p2), .val (.int p3), .val (.int p4), .val (.int (gl p0)), .val (.int (gf p1)), .val (.int (gs p2)), .val (.ref b1), .val (.ref b8), .val (.int (1 : Int32)), .val (.int (1 : Int32)), .val (.int (gs p2)), .val (.int (0 : Int32))] [])) _
            refine XS.iconst X64.here hx rfl (hb hby at_263) ?_
            show Steps p.tables e below (T64.setTop (mkF m 264 #[.val (.int p0), .val (.int p1), .val (.int p2), .val (.int p3), .val (.int p4), .val (.int (gl p0)), .val (.int (gf p1)), .val (.int (gs p2)), .val (.ref b1), .val (.ref b8), .val (.int (1 : Int32)), .val (.int (1 : Int32)), .val (.int (gs p2)), .val (.int (0 : Int32))] [(.int (1 : Int32))])) _
            refine XS.goto X64.here hx rfl (pc0 := 264) (pc' := 268) rfl (hb hby at_264) (by decide) (by decide) ?_
            show Steps p.tables e below (T64.setTop (mkF m 268 #[.val (.int p0), .val (.int p1), .val (.int p2), .val (.int p3), .val (.int p4), .val (.int (gl p0)), .val (.int (gf p1)), .val (.int (gs p2)), .val (.ref b1), .val (.ref b8), .val (.int (1 : Int32)), .val (.int (1 : Int32)), .val (.int (gs p2)), .val (.int (0 : Int32))] [(.int (1 : Int32))])) _
            refine XS.istore X64.here hx rfl (hb hby at_268) rfl (l' := #[.val (.int p0), .val (.int p1), .val (.int p2), .val (.int p3), .val (.int p4), .val (.int (gl p0)), .val (.int (gf p1)), .val (.int (gs p2)), .val (.ref b1), .val (.ref b8), .val (.int (1 : Int32)), .val (.int (1 : Int32)), .val (.int (gs p2)), .val (.int (0 : Int32))]) rfl ?_
            show Steps p.tables e below (T64.setTop (mkF m 270 #[.val (.int p0), .val (.int p1), .val (.int p2), .val (.int p3), .val (.int p4), .val (.int (gl p0)), .val (.int (gf p1)), .val (.int (gs p2)), .val (.ref b1), .val (.ref b8), .val (.int (1 : Int32)), .val (.int (1 : Int32)), .val (.int (gs p2)), .val (.int (0 : Int32))] [])) _
            refine XS.iload X64.here hx rfl (hb hby at_270) rfl ?_
            show Steps p.tables e below (T64.setTop (mkF m 272 #[.val (.int p0), .val (.int p1), .val (.int p2), .val (.int p3), .val (.int p4), .val (.int (gl p0)), .val (.int (gf p1)), .val (.int (gs p2)), .val (.ref b1), .val (.ref b8), .val (.int (1 : Int32)), .val (.int (1 : Int32)), .val (.int (gs p2)), .val (.int (0 : Int32))] [(.int (1 : Int32))])) _
            refine XS.ifNo X64.here hx rfl (hb hby at_272) rfl ((if0 _ _).trans (feq (by decide : ¬ ((1 : Int32) = (0 : Int32)))).1) ?_
            show Steps p.tables e below (T64.setTop (mkF m 275 #[.val (.int p0), .val (.int p1), .val (.int p2), .val (.int p3), .val (.int p4), .val (.int (gl p0)), .val (.int (gf p1)), .val (.int (gs p2)), .val (.ref b1), .val (.ref b8), .val (.int (1 : Int32)), .val (.int (1 : Int32)), .val (.int (gs p2)), .val (.int (0 : Int32))] [])) _
            refine XS.aload X64.here hx rfl (hb hby at_275) rfl rfl ?_
            show Steps p.tables e below (T64.setTop (mkF m 277 #[.val (.int p0), .val (.int p1), .val (.int p2), .val (.int p3), .val (.int p4), .val (.int (gl p0)), .val (.int (gf p1)), .val (.int (gs p2)), .val (.ref b1), .val (.ref b8), .val (.int (1 : Int32)), .val (.int (1 : Int32)), .val (.int (gs p2)), .val (.int (0 : Int32))] [(.ref b8)])) _
            refine st66.trans ?_
            show Steps p.tables e below (T66.setTop (mkF m 280 #[.val (.int p0), .val (.int p1), .val (.int p2), .val (.int p3), .val (.int p4), .val (.int (gl p0)), .val (.int (gf p1)), .val (.int (gs p2)), .val (.ref b1), .val (.ref b8), .val (.int (1 : Int32)), .val (.int (1 : Int32)), .val (.int (gs p2)), .val (.int (0 : Int32))] [(.int r66)])) _
            refine XS.iload X66.here hx rfl (hb hby at_280) rfl ?_
            show Steps p.tables e below (T66.setTop (mkF m 282 #[.val (.int p0), .val (.int p1), .val (.int p2), .val (.int p3), .val (.int p4), .val (.int (gl p0)), .val (.int (gf p1)), .val (.int (gs p2)), .val (.ref b1), .val (.ref b8), .val (.int (1 : Int32)), .val (.int (1 : Int32)), .val (.int (gs p2)), .val (.int (0 : Int32))] [(.int (gs p2)), (.int r66)])) _
            refine XS.iload X66.here hx rfl (hb hby at_282) rfl ?_
            show Steps p.tables e below (T66.setTop (mkF m 284 #[.val (.int p0), .val (.int p1), .val (.int p2), .val (.int p3), .val (.int p4), .val (.int (gl p0)), .val (.int (gf p1)), .val (.int (gs p2)), .val (.ref b1), .val (.ref b8), .val (.int (1 : Int32)), .val (.int (1 : Int32)), .val (.int (gs p2)), .val (.int (0 : Int32))] [(.int (0 : Int32)), (.int (gs p2)), (.int r66)])) _
            refine XS.ifYes X66.here hx rfl (pc0 := 284) (pc' := 291) rfl (hb hby at_284) rfl ((if0 _ _).trans (teq (rfl : (0 : Int32) = (0 : Int32))).1) (by decide) (by decide) ?_
            show Steps p.tables e below (T66.setTop (mkF m 291 #[.val (.int p0), .val (.int p1), .val (.int p2), .val (.int p3), .val (.int p4), .val (.int (gl p0)), .val (.int (gf p1)), .val (.int (gs p2)), .val (.ref b1), .val (.ref b8), .val (.int (1 : Int32)), .val (.int (1 : Int32)), .val (.int (gs p2)), .val (.int (0 : Int32))] [(.int (gs p2)), (.int r66)])) _
            refine XS.iconst X66.here hx rfl (hb hby at_291) ?_
            show Steps p.tables e below (T66.setTop (mkF m 292 #[.val (.int p0), .val (.int p1), .val (.int p2), .val (.int p3), .val (.int p4), .val (.int (gl p0)), .val (.int (gf p1)), .val (.int (gs p2)), .val (.ref b1), .val (.ref b8), .val (.int (1 : Int32)), .val (.int (1 : Int32)), .val (.int (gs p2)), .val (.int (0 : Int32))] [(.int (0 : Int32)), (.int (gs p2)), (.int r66)])) _
            refine XS.iadd X66.here hx rfl (hb hby at_292) rfl ?_
            show Steps p.tables e below (T66.setTop (mkF m 293 #[.val (.int p0), .val (.int p1), .val (.int p2), .val (.int p3), .val (.int p4), .val (.int (gl p0)), .val (.int (gf p1)), .val (.int (gs p2)), .val (.ref b1), .val (.ref b8), .val (.int (1 : Int32)), .val (.int (1 : Int32)), .val (.int (gs p2)), .val (.int (0 : Int32))] [(.int ((gs p2) + (0 : Int32))), (.int r66)])) _
            refine XS.icmpNo X66.here hx rfl (hb hby at_293) rfl (teq (show r66 = ((gs p2) + (0 : Int32)) from (own_eq0 hr66 (by rw [Int32.add_zero, hlS]; omega)))).2 ?_
            show Steps p.tables e below (T66.setTop (mkF m 296 #[.val (.int p0), .val (.int p1), .val (.int p2), .val (.int p3), .val (.int p4), .val (.int (gl p0)), .val (.int (gf p1)), .val (.int (gs p2)), .val (.ref b1), .val (.ref b8), .val (.int (1 : Int32)), .val (.int (1 : Int32)), .val (.int (gs p2)), .val (.int (0 : Int32))] [])) _
            refine XS.iconst X66.here hx rfl (hb hby at_296) ?_
            show Steps p.tables e below (T66.setTop (mkF m 297 #[.val (.int p0), .val (.int p1), .val (.int p2), .val (.int p3), .val (.int p4), .val (.int (gl p0)), .val (.int (gf p1)), .val (.int (gs p2)), .val (.ref b1), .val (.ref b8), .val (.int (1 : Int32)), .val (.int (1 : Int32)), .val (.int (gs p2)), .val (.int (0 : Int32))] [(.int (1 : Int32))])) _
            refine XS.goto X66.here hx rfl (pc0 := 297) (pc' := 301) rfl (hb hby at_297) (by decide) (by decide) ?_
            show Steps p.tables e below (T66.setTop (mkF m 301 #[.val (.int p0), .val (.int p1), .val (.int p2), .val (.int p3), .val (.int p4), .val (.int (gl p0)), .val (.int (gf p1)), .val (.int (gs p2)), .val (.ref b1), .val (.ref b8), .val (.int (1 : Int32)), .val (.int (1 : Int32)), .val (.int (gs p2)), .val (.int (0 : Int32))] [(.int (1 : Int32))])) _
            refine XS.istore X66.here hx rfl (hb hby at_301) rfl (l' := #[.val (.int p0), .val (.int p1), .val (.int p2), .val (.int p3), .val (.int p4), .val (.int (gl p0)), .val (.int (gf p1)), .val (.int (gs p2)), .val (.ref b1), .val (.ref b8), .val (.int (1 : Int32)), .val (.int (1 : Int32)), .val (.int (gs p2)), .val (.int (0 : Int32))]) rfl ?_
            show Steps p.tables e below (T66.setTop (mkF m 303 #[.val (.int p0), .val (.int p1), .val (.int p2), .val (.int p3), .val (.int p4), .val (.int (gl p0)), .val (.int (gf p1)), .val (.int (gs p2)), .val (.ref b1), .val (.ref b8), .val (.int (1 : Int32)), .val (.int (1 : Int32)), .val (.int (gs p2)), .val (.int (0 : Int32))] [])) _
            refine XS.iload X66.here hx rfl (hb hby at_303) rfl ?_
            exact kt
          obtain ⟨fsQ, hr, hrun, hended, hW, hsame⟩ := X66.leave (v := some (.int (1 : Int32))) (fun h => by rw [Bd.returns] at h; cases h)
          refine ⟨_, _, pre0 _ (K67 _ ?_), hrun, hended, _, _, rfl, ?_, ⟨_, rfl⟩, hW, hsame.mono (by decide) (by decide)⟩
          · show Steps p.tables e below (T66.setTop (mkF m 305 #[.val (.int p0), .val (.int p1), .val (.int p2), .val (.int p3), .val (.int p4), .val (.int (gl p0)), .val (.int (gf p1)), .val (.int (gs p2)), .val (.ref b1), .val (.ref b8), .val (.int (1 : Int32)), .val (.int (1 : Int32)), .val (.int (gs p2)), .val (.int (0 : Int32))] [(.int (1 : Int32))])) _
            exact retN X66 hx (t := .boolean) Bd.returns (by simp) (hb hby at_305) hr
          · show Q0 Z p0 p1 p2 p3 p4  h0 n0 _ T66.heap _
            rw [e66]
            exact ⟨rfl, N64⟩
        · skip
          obtain ⟨cq68, kq68, q68a, q68b, q68c⟩ := isOf hZ rfl (own_bbE B64q)
          obtain ⟨_, _, ⟨T68, L68, k68, n68⟩, -, X68, ⟨Lc68, hQ68, l68, y68, z68⟩, st68⟩ := X64.virtualBack hx (y := (⟨"com/example/benchwire/benchwire/protocols/BoundedBuffer", "size", "()I"⟩ : MethodName)) (z := (⟨"com/example/benchwire/benchwire/protocols/BoundedBuffer", "size", "()I"⟩ : MethodName)) hown (mvT hZ (hw _ (List.mem_of_getElem? (i := 35) rfl))) (mvT hZ (hw _ (List.mem_of_getElem? (i := 36) rfl))) (notFace_of_selects (args := #[]) (mvT hZ (hw _ (List.mem_of_getElem? (i := 38) rfl)))) (mvT hZ (hw _ (List.mem_of_getElem? (i := 38) rfl))) (mvT hZ (hw _ (List.mem_of_getElem? (i := 37) rfl))) (by decide) (backOf (W := 0) (rm7 l Z a0 hw [] b8 b1 fs lim ((0 + lenS) + 1) cap64 f64 T64.heap n0 Z64q B64q) hZ (hw _ (List.mem_of_getElem? (i := 39) rfl)) (hw _ (List.mem_of_getElem? (i := 4) rfl)) (by decide) (by decide)) q68a q68c (g := (mkF m 277 #[.val (.int p0), .val (.int p1), .val (.int p2), .val (.int p3), .val (.int p4), .val (.int (gl p0)), .val (.int (gf p1)), .val (.int (gs p2)), .val (.ref b1), .val (.ref b8), .val (.int (1 : Int32)), .val (.int (1 : Int32)), .val (.int (gs p2)), .val (.int (1 : Int32))] [(.ref b8)])) rfl (by rw [hml]; rfl) (Steps.refl _) (argsL := []) (rest := []) (lenOf pd_8 rfl) rfl (by show 2 * 0 + _ ≤ _; exact Nat.le_of_eq rfl) (hb hby at_277) (fun _ _ => ⟨rfl, rfl, (by decide : 7 + 0 ≤ _), (by decide : 2348 + 0 ≤ _)⟩)
          dsimp only [Pt.U, Pt.locs, Pt.cells, Pt.slots] at X68 l68 y68 z68 st68 hQ68
          subst l68 y68 z68
          obtain ⟨r68, rfl, hr68, rfl, e68⟩ := hQ68
          try rw [List.append_nil] at X68
          have K69 : ∀ t, Steps p.tables e below (T68.setTop (mkF m 305 #[.val (.int p0), .val (.int p1), .val (.int p2), .val (.int p3), .val (.int p4), .val (.int (gl p0)), .val (.int (gf p1)), .val (.int (gs p2)), .val (.ref b1), .val (.ref b8), .val (.int (1 : Int32)), .val (.int (1 : Int32)), .val (.int (gs p2)), .val (.int (1 : Int32))] [(.int (1 : Int32))])) t → Steps p.tables e below (s₁.setTop (mkF m 0 #[.val (.int p0), .val (.int p1), .val (.int p2), .val (.int p3), .val (.int p4), .unset, .unset, .unset, .unset, .unset, .unset, .unset, .unset, .unset] [])) t := by
            intro t kt
            refine K65 _ ?_
            show Steps p.tables e below (T64.setTop (mkF m 239 #[.val (.int p0), .val (.int p1), .val (.int p2), .val (.int p3), .val (.int p4), .val (.int (gl p0)), .val (.int (gf p1)), .val (.int (gs p2)), .val (.ref b1), .val (.ref b8), .val (.int (1 : Int32)), .val (.int (1 : Int32)), .val (.int (gs p2)), .unset] [(.int (1 : Int32))])) _
            refine XS.istore X64.here hx rfl (hb hby at_239) rfl (l' := #[.val (.int p0), .val (.int p1), .val (.int p2), .val (.int p3), .val (.int p4), .val (.int (gl p0)), .val (.int (gf p1)), .val (.int (gs p2)), .val (.ref b1), .val (.ref b8), .val (.int (1 : Int32)), .val (.int (1 : Int32)), .val (.int (gs p2)), .val (.int (1 : Int32))]) rfl ?_
            show Steps p.tables e below (T64.setTop (mkF m 241 #[.val (.int p0), .val (.int p1), .val (.int p2), .val (.int p3), .val (.int p4), .val (.int (gl p0)), .val (.int (gf p1)), .val (.int (gs p2)), .val (.ref b1), .val (.ref b8), .val (.int (1 : Int32)), .val (.int (1 : Int32)), .val (.int (gs p2)), .val (.int (1 : Int32))] [])) _
            refine XS.iload X64.here hx rfl (hb hby at_241) rfl ?_
            show Steps p.tables e below (T64.setTop (mkF m 243 #[.val (.int p0), .val (.int p1), .val (.int p2), .val (.int p3), .val (.int p4), .val (.int (gl p0)), .val (.int (gf p1)), .val (.int (gs p2)), .val (.ref b1), .val (.ref b8), .val (.int (1 : Int32)), .val (.int (1 : Int32)), .val (.int (gs p2)), .val (.int (1 : Int32))] [(.int (1 : Int32))])) _
            refine XS.ifNo X64.here hx rfl (hb hby at_243) rfl ((if0 _ _).trans (feq (by decide : ¬ ((1 : Int32) = (0 : Int32)))).1) ?_
            show Steps p.tables e below (T64.setTop (mkF m 246 #[.val (.int p0), .val (.int p1), .val (.int p2), .val (.int p3), .val (.int p4), .val (.int (gl p0)), .val (.int (gf p1)), .val (.int (gs p2)), .val (.ref b1), .val (.ref b8), .val (.int (1 : Int32)), .val (.int (1 : Int32)), .val (.int (gs p2)), .val (.int (1 : Int32))] [])) _
            refine XS.iload X64.here hx rfl (hb hby at_246) rfl ?_
            show Steps p.tables e below (T64.setTop (mkF m 248 #[.val (.int p0), .val (.int p1), .val (.int p2), .val (.int p3), .val (.int p4), .val (.int (gl p0)), .val (.int (gf p1)), .val (.int (gs p2)), .val (.ref b1), .val (.ref b8), .val (.int (1 : Int32)), .val (.int (1 : Int32)), .val (.int (gs p2)), .val (.int (1 : Int32))] [(.int (1 : Int32))])) _
            refine XS.iload X64.here hx rfl (hb hby at_248) rfl ?_
            show Steps p.tables e below (T64.setTop (mkF m 250 #[.val (.int p0), .val (.int p1), .val (.int p2), .val (.int p3), .val (.int p4), .val (.int (gl p0)), .val (.int (gf p1)), .val (.int (gs p2)), .val (.ref b1), .val (.ref b8), .val (.int (1 : Int32)), .val (.int (1 : Int32)), .val (.int (gs p2)), .val (.int (1 : Int32))] [(.int (gs p2)), (.int (1 : Int32))])) _
            refine XS.iload X64.here hx rfl (hb hby at_250) rfl ?_
            show Steps p.tables e below (T64.setTop (mkF m 252 #[.val (.int p0), .val (.int p1), .val (.int p2), .val (.int p3), .val (.int p4), .val (.int (gl p0)), .val (.int (gf p1)), .val (.int (gs p2)), .val (.ref b1), .val (.ref b8), .val (.int (1 : Int32)), .val (.int (1 : Int32)), .val (.int (gs p2)), .val (.int (1 : Int32))] [(.int (gl p0)), (.int (gs p2)), (.int (1 : Int32))])) _
            refine XS.icmpNo X64.here hx rfl (hb hby at_252) rfl (tlt (show (gs p2) < (gl p0) from (own_lt hlS hlm (by omega)))).2.1 ?_
            show Steps p.tables e below (T64.setTop (mkF m 255 #[.val (.int p0), .val (.int p1), .val (.int p2), .val (.int p3), .val (.int p4), .val (.int (gl p0)), .val (.int (gf p1)), .val (.int (gs p2)), .val (.ref b1), .val (.ref b8), .val (.int (1 : Int32)), .val (.int (1 : Int32)), .val (.int (gs p2)), .val (.int (1 : Int32))] [(.int (1 : Int32))])) _
            refine XS.iconst X64.here hx rfl (hb hby at_255) ?_
            show Steps p.tables e below (T64.setTop (mkF m 256 #[.val (.int p0), .val (.int p1), .val (.int p2), .val (.int p3), .val (.int p4), .val (.int (gl p0)), .val (.int (gf p1)), .val (.int (gs p2)), .val (.ref b1), .val (.ref b8), .val (.int (1 : Int32)), .val (.int (1 : Int32)), .val (.int (gs p2)), .val (.int (1 : Int32))] [(.int (1 : Int32)), (.int (1 : Int32))])) _
            refine XS.goto X64.here hx rfl (pc0 := 256) (pc' := 260) rfl (hb hby at_256) (by decide) (by decide) ?_
            show Steps p.tables e below (T64.setTop (mkF m 260 #[.val (.int p0), .val (.int p1), .val (.int p2), .val (.int p3), .val (.int p4), .val (.int (gl p0)), .val (.int (gf p1)), .val (.int (gs p2)), .val (.ref b1), .val (.ref b8), .val (.int (1 : Int32)), .val (.int (1 : Int32)), .val (.int (gs p2)), .val (.int (1 : Int32))] [(.int (1 : Int32)), (.int (1 : Int32))])) _
            refine XS.icmpNo X64.here hx rfl (hb hby at_260) rfl (teq (rfl : (1 : Int32) = (1 : Int32))).2 ?_
            show Steps p.tables e below (T64.setTop (mkF m 263 #[.val (.int p0), .val (.int p1), .val (.int p2), .val (.int p3), .val (.int p4), .val (.int (gl p0)), .val (.int (gf p1)), .val (.int (gs p2)), .val (.ref b1), .val (.ref b8), .val (.int (1 : Int32)), .val (.int (1 : Int32)), .val (.int (gs p2)), .val (.int (1 : Int32))] [])) _
            refine XS.iconst X64.here hx rfl (hb hby at_263) ?_
            show Steps p.tables e below (T64.setTop (mkF m 264 #[.val (.int p0), .val (.int p1), .val (.int p2), .val (.int p3), .val (.int p4), .val (.int (gl p0)), .val (.int (gf p1)), .val (.int (gs p2)), .val (.ref b1), .val (.ref b8), .val (.int (1 : Int32)), .val (.int (1 : Int32)), .val (.int (gs p2)), .val (.int (1 : Int32))] [(.int (1 : Int32))])) _
            refine XS.goto X64.here hx rfl (pc0 := 264) (pc' := 268) rfl (hb hby at_264) (by decide) (by decide) ?_
            show Steps p.tables e below (T64.setTop (mkF m 268 #[.val (.int p0), .val (.int p1), .val (.int p2), .val (.int p3), .val (.int p4), .val (.int (gl p0)), .val (.int (gf p1)), .val (.int (gs p2)), .val (.ref b1), .val (.ref b8), .val (.int (1 : Int32)), .val (.int (1 : Int32)), .val (.int (gs p2)), .val (.int (1 : Int32))] [(.int (1 : Int32))])) _
            refine XS.istore X64.here hx rfl (hb hby at_268) rfl (l' := #[.val (.int p0), .val (.int p1), .val (.int p2), .val (.int p3), .val (.int p4), .val (.int (gl p0)), .val (.int (gf p1)), .val (.int (gs p2)), .val (.ref b1), .val (.ref b8), .val (.int (1 : Int32)), .val (.int (1 : Int32)), .val (.int (gs p2)), .val (.int (1 : Int32))]) rfl ?_
            show Steps p.tables e below (T64.setTop (mkF m 270 #[.val (.int p0), .val (.int p1), .val (.int p2), .val (.int p3), .val (.int p4), .val (.int (gl p0)), .val (.int (gf p1)), .val (.int (gs p2)), .val (.ref b1), .val (.ref b8), .val (.int (1 : Int32)), .val (.int (1 : Int32)), .val (.int (gs p2)), .val (.int (1 : Int32))] [])) _
            refine XS.iload X64.here hx rfl (hb hby at_270) rfl ?_
            show Steps p.tables e below (T64.setTop (mkF m 272 #[.val (.int p0), .val (.int p1), .val (.int p2), .val (.int p3), .val (.int p4), .val (.int (gl p0)), .val (.int (gf p1)), .val (.int (gs p2)), .val (.ref b1), .val (.ref b8), .val (.int (1 : Int32)), .val (.int (1 : Int32)), .val (.int (gs p2)), .val (.int (1 : Int32))] [(.int (1 : Int32))])) _
            refine XS.ifNo X64.here hx rfl (hb hby at_272) rfl ((if0 _ _).trans (feq (by decide : ¬ ((1 : Int32) = (0 : Int32)))).1) ?_
            show Steps p.tables e below (T64.setTop (mkF m 275 #[.val (.int p0), .val (.int p1), .val (.int p2), .val (.int p3), .val (.int p4), .val (.int (gl p0)), .val (.int (gf p1)), .val (.int (gs p2)), .val (.ref b1), .val (.ref b8), .val (.int (1 : Int32)), .val (.int (1 : Int32)), .val (.int (gs p2)), .val (.int (1 : Int32))] [])) _
            refine XS.aload X64.here hx rfl (hb hby at_275) rfl rfl ?_
            show Steps p.tables e below (T64.setTop (mkF m 277 #[.val (.int p0), .val (.int p1), .val (.int p2), .val (.int p3), .val (.int p4), .val (.int (gl p0)), .val (.int (gf p1)), .val (.int (gs p2)), .val (.ref b1), .val (.ref b8), .val (.int (1 : Int32)), .val (.int (1 : Int32)), .val (.int (gs p2)), .val (.int (1 : Int32))] [(.ref b8)])) _
            refine st68.trans ?_
            show Steps p.tables e below (T68.setTop (mkF m 280 #[.val (.int p0), .val (.int p1), .val (.int p2), .val (.int p3), .val (.int p4), .val (.int (gl p0)), .val (.int (gf p1)), .val (.int (gs p2)), .val (.ref b1), .val (.ref b8), .val (.int (1 : Int32)), .val (.int (1 : Int32)), .val (.int (gs p2)), .val (.int (1 : Int32))] [(.int r68)])) _
            refine XS.iload X68.here hx rfl (hb hby at_280) rfl ?_
            show Steps p.tables e below (T68.setTop (mkF m 282 #[.val (.int p0), .val (.int p1), .val (.int p2), .val (.int p3), .val (.int p4), .val (.int (gl p0)), .val (.int (gf p1)), .val (.int (gs p2)), .val (.ref b1), .val (.ref b8), .val (.int (1 : Int32)), .val (.int (1 : Int32)), .val (.int (gs p2)), .val (.int (1 : Int32))] [(.int (gs p2)), (.int r68)])) _
            refine XS.iload X68.here hx rfl (hb hby at_282) rfl ?_
            show Steps p.tables e below (T68.setTop (mkF m 284 #[.val (.int p0), .val (.int p1), .val (.int p2), .val (.int p3), .val (.int p4), .val (.int (gl p0)), .val (.int (gf p1)), .val (.int (gs p2)), .val (.ref b1), .val (.ref b8), .val (.int (1 : Int32)), .val (.int (1 : Int32)), .val (.int (gs p2)), .val (.int (1 : Int32))] [(.int (1 : Int32)), (.int (gs p2)), (.int r68)])) _
            refine XS.ifNo X68.here hx rfl (hb hby at_284) rfl ((if0 _ _).trans (feq (by decide : ¬ ((1 : Int32) = (0 : Int32)))).1) ?_
            show Steps p.tables e below (T68.setTop (mkF m 287 #[.val (.int p0), .val (.int p1), .val (.int p2), .val (.int p3), .val (.int p4), .val (.int (gl p0)), .val (.int (gf p1)), .val (.int (gs p2)), .val (.ref b1), .val (.ref b8), .val (.int (1 : Int32)), .val (.int (1 : Int32)), .val (.int (gs p2)), .val (.int (1 : Int32))] [(.int (gs p2)), (.int r68)])) _
            refine XS.iconst X68.here hx rfl (hb hby at_287) ?_
            show Steps p.tables e below (T68.setTop (mkF m 288 #[.val (.int p0), .val (.int p1), .val (.int p2), .val (.int p3), .val (.int p4), .val (.int (gl p0)), .val (.int (gf p1)), .val (.int (gs p2)), .val (.ref b1), .val (.ref b8), .val (.int (1 : Int32)), .val (.int (1 : Int32)), .val (.int (gs p2)), .val (.int (1 : Int32))] [(.int (1 : Int32)), (.int (gs p2)), (.int r68)])) _
            refine XS.goto X68.here hx rfl (pc0 := 288) (pc' := 292) rfl (hb hby at_288) (by decide) (by decide) ?_
            show Steps p.tables e below (T68.setTop (mkF m 292 #[.val (.int p0), .val (.int p1), .val (.int p2), .val (.int p3), .val (.int p4), .val (.int (gl p0)), .val (.int (gf p1)), .val (.int (gs p2)), .val (.ref b1), .val (.ref b8), .val (.int (1 : Int32)), .val (.int (1 : Int32)), .val (.int (gs p2)), .val (.int (1 : Int32))] [(.int (1 : Int32)), (.int (gs p2)), (.int r68)])) _
            refine XS.iadd X68.here hx rfl (hb hby at_292) rfl ?_
            show Steps p.tables e below (T68.setTop (mkF m 293 #[.val (.int p0), .val (.int p1), .val (.int p2), .val (.int p3), .val (.int p4), .val (.int (gl p0)), .val (.int (gf p1)), .val (.int (gs p2)), .val (.ref b1), .val (.ref b8), .val (.int (1 : Int32)), .val (.int (1 : Int32)), .val (.int (gs p2)), .val (.int (1 : Int32))] [(.int ((gs p2) + (1 : Int32))), (.int r68)])) _
            refine XS.icmpNo X68.here hx rfl (hb hby at_293) rfl (teq (show r68 = ((gs p2) + (1 : Int32)) from (own_eq0 hr68 (by rw [own_add32 (by rw [hlS]; have : (1 : Int32).toInt = 1 := rfl; omega) (by rw [hlS]; have : (1 : Int32).toInt = 1 := rfl; omega), hlS, show (1 : Int32).toInt = 1 from rfl]; omega)))).2 ?_
            show Steps p.tables e below (T68.setTop (mkF m 296 #[.val (.int p0), .val (.int p1), .val (.int p2), .val (.int p3), .val (.int p4), .val (.int (gl p0)), .val (.int (gf p1)), .val (.int (gs p2)), .val (.ref b1), .val (.ref b8), .val (.int (1 : Int32)), .val (.int (1 : Int32)), .val (.int (gs p2)), .val (.int (1 : Int32))] [])) _
            refine XS.iconst X68.here hx rfl (hb hby at_296) ?_
            show Steps p.tables e below (T68.setTop (mkF m 297 #[.val (.int p0), .val (.int p1), .val (.int p2), .val (.int p3), .val (.int p4), .val (.int (gl p0)), .val (.int (gf p1)), .val (.int (gs p2)), .val (.ref b1), .val (.ref b8), .val (.int (1 : Int32)), .val (.int (1 : Int32)), .val (.int (gs p2)), .val (.int (1 : Int32))] [(.int (1 : Int32))])) _
            refine XS.goto X68.here hx rfl (pc0 := 297) (pc' := 301) rfl (hb hby at_297) (by decide) (by decide) ?_
            show Steps p.tables e below (T68.setTop (mkF m 301 #[.val (.int p0), .val (.int p1), .val (.int p2), .val (.int p3), .val (.int p4), .val (.int (gl p0)), .val (.int (gf p1)), .val (.int (gs p2)), .val (.ref b1), .val (.ref b8), .val (.int (1 : Int32)), .val (.int (1 : Int32)), .val (.int (gs p2)), .val (.int (1 : Int32))] [(.int (1 : Int32))])) _
            refine XS.istore X68.here hx rfl (hb hby at_301) rfl (l' := #[.val (.int p0), .val (.int p1), .val (.int p2), .val (.int p3), .val (.int p4), .val (.int (gl p0)), .val (.int (gf p1)), .val (.int (gs p2)), .val (.ref b1), .val (.ref b8), .val (.int (1 : Int32)), .val (.int (1 : Int32)), .val (.int (gs p2)), .val (.int (1 : Int32))]) rfl ?_
            show Steps p.tables e below (T68.setTop (mkF m 303 #[.val (.int p0), .val (.int p1), .val (.int p2), .val (.int p3), .val (.int p4), .val (.int (gl p0)), .val (.int (gf p1)), .val (.int (gs p2)), .val (.ref b1), .val (.ref b8), .val (.int (1 : Int32)), .val (.int (1 : Int32)), .val (.int (gs p2)), .val (.int (1 : Int32))] [])) _
            refine XS.iload X68.here hx rfl (hb hby at_303) rfl ?_
            exact kt
          obtain ⟨fsQ, hr, hrun, hended, hW, hsame⟩ := X68.leave (v := some (.int (1 : Int32))) (fun h => by rw [Bd.returns] at h; cases h)
          refine ⟨_, _, pre0 _ (K69 _ ?_), hrun, hended, _, _, rfl, ?_, ⟨_, rfl⟩, hW, hsame.mono (by decide) (by decide)⟩
          · show Steps p.tables e below (T68.setTop (mkF m 305 #[.val (.int p0), .val (.int p1), .val (.int p2), .val (.int p3), .val (.int p4), .val (.int (gl p0)), .val (.int (gf p1)), .val (.int (gs p2)), .val (.ref b1), .val (.ref b8), .val (.int (1 : Int32)), .val (.int (1 : Int32)), .val (.int (gs p2)), .val (.int (1 : Int32))] [(.int (1 : Int32))])) _
            exact retN X68 hx (t := .boolean) Bd.returns (by simp) (hb hby at_305) hr
          · show Q0 Z p0 p1 p2 p3 p4  h0 n0 _ T68.heap _
            rw [e68]
            exact ⟨rfl, N64⟩
set_option maxRecDepth 65536 in
set_option maxHeartbeats 40000000 in
theorem comes_1 {Post : Tables → Env → Array Value → State → Outcome → State → Prop} (hpost : ∀ tb e args s v u, (limb_1_1.after args s (.returned v) u = true ∧ limb_1_2.after args s (.returned v) u = true ∧ True) → FrameEnd s (.returned v) u (Jvm.fieldLocs frame_1_writes args s ++ Jvm.arrayLocs frame_1_arrays args s ++ Jvm.staticLocs frame_1_statics s) 24 3200 → Post tb e args s (.returned v) u) :
    ArmFor flags0 classFile x code maxLocals ret World_1 tables_1 room_1 Calls_1 rest_1 Pre_1 Post := by
  intro l hfl _ _ p e ha hc hk s m args below hf hA hF happ hP
  obtain ⟨hcalls, hrest, hpre⟩ := hP
  obtain ⟨-, -, -, hnamed, -, -, -, hat⟩ := (Spec.applies_iff hf).mp happ
  obtain ⟨hg, hn⟩ := and_e (Cond.before_iff.mp (show (Jvm.Cond.and given_1 narrow_1).before args s = true from hpre))
  obtain ⟨hcount, hk0⟩ := and_e hg
  obtain ⟨hi0, hk1⟩ := and_e hk0
  obtain ⟨hi1, hk2⟩ := and_e hk1
  obtain ⟨hi2, hk3⟩ := and_e hk2
  obtain ⟨hi3, hk4⟩ := and_e hk3
  have hi4 := hk4
  obtain ⟨w0, w1, w2, w3, w4, rfl⟩ : ∃ w0 w1 w2 w3 w4 : Value, args = #[w0, w1, w2, w3, w4] := by
    have hs : args.size = 5 := by simpa [Cond.value, given_1] using hcount
    obtain ⟨L⟩ := args
    match L, hs with
    | [w0, w1, w2, w3, w4], _ => exact ⟨w0, w1, w2, w3, w4, rfl⟩
  have hw := fun d (hd : d ∈ tables_1) => atoms_spec (ws := Jvm.Cond.code x code maxLocals ret :: tables_1) hat d (List.mem_cons_of_mem _ hd)
  obtain ⟨i0, ei0⟩ := is_v hi0
  obtain rfl : w0 = (.int i0) := Option.some.inj ei0
  obtain ⟨i1, ei1⟩ := is_v hi1
  obtain rfl : w1 = (.int i1) := Option.some.inj ei1
  obtain ⟨i2, ei2⟩ := is_v hi2
  obtain rfl : w2 = (.int i2) := Option.some.inj ei2
  obtain ⟨i3, ei3⟩ := is_v hi3
  obtain rfl : w3 = (.int i3) := Option.some.inj ei3
  obtain ⟨i4, ei4⟩ := is_v hi4
  obtain rfl : w4 = (.int i4) := Option.some.inj ei4
  obtain ⟨n, o, h1, h2, h3, v, L, rfl, hQ, hq⟩ := rm0 l s _ hw tables_1 i0 i1 i2 i3 i4 s.heap s.heap.size (Nat.le_refl _) p e ha hc hk s m _ below hf ((Spec.applies_iff_loose hf).mp happ).1 ⟨rfl, State.Warmed39.refl s, rfl⟩ trivial
  obtain ⟨rfl, N⟩ : v = some (.int 1) ∧ Fr s.heap.size L := by
    exact ⟨hQ.1, hQ.2⟩
  refine ⟨n, _, h1, h2, h3, hpost _ _ _ _ _ _ ⟨Cond.after_iff.mpr rfl, Cond.after_iff.mpr (eq_i res_at (Term.int_eval (1)) rfl), trivial⟩ ⟨hq.1, hq.2.1, (hq.2.2.sift fun y hy => Or.inr (N y hy)).mono (by decide) (by decide)⟩⟩
theorem main_1_1 : Claimed_1_1 := comes_1 fun _ _ _ _ _ _ h hF => ⟨h.1, hF⟩
theorem main_1_2 : Claimed_1_2 := comes_1 fun _ _ _ _ _ _ h hF => ⟨h.2.1, hF⟩
end Jvm.Pilot.@@N@@
namespace Jvm.Pilot.@@N@@
open Jvm Jvm.ClassFile Sem Op Lib Jvm.Free Jvm.Stand Jvm.Pilot.@@N@@.Jvm.D
/-! MADE BY PROGRAM (witnessworld.py) out of the Statement's table words and the real class files: 14 classes; the members and pool entries that the words name. The judged class is class 1, her method 1. -/
namespace start1
open Jvm.ClassFile
def u (s : String) : CpInfo := .utf8 (stringToUtf16 s)
/-- a pool by its gaps: so many unusable entries, then the entry; so many at the end -/
def gap : Nat → List CpInfo → List CpInfo
  | 0, r => r
  | n + 1, r => .unusable :: gap n r
def poolList (es : List (Nat × CpInfo)) (last : Nat) : List CpInfo := es.foldr (fun e r => gap e.1 (e.2 :: r)) (gap last [])
def pool (es : List (Nat × CpInfo)) (last : Nat) : Array CpInfo := ⟨poolList es last⟩
def fileOf (pool : Array CpInfo) (this : Nat) (attrs : Array Attribute := #[]) (ms : Array MethodInfo := #[]) (fl : Nat := 33) (sup : Nat := 0) (ifs : Array Nat := #[]) (fds : Array FieldInfo := #[]) : ClassFile where
  minorVersion := 0
  majorVersion := 65
  constantPool := pool
  accessFlags := fl
  thisClass := this
  superClass := sup
  interfaces := ifs
  fields := fds
  methods := ms
  attributes := attrs
def plain (name : String) (sup : Option ClassId) : Class where
  name := name
  kind := .ordinary
  loader := none
  accessFlags := 33
  super := sup
  interfaces := #[]
  cf := none
  fields := #[]
  methods := #[]
  instanceTypes := #[]
  staticTypes := #[]
  resolved := #[]
  callSites := []
  init := .initialized
  statics := none
  mirror := none

def pool0 : Array CpInfo := pool [(5, u "<init>"), (0, u "()V"), (1, .class_ 10), (1, u "java/lang/Object")] 113

def k0c0 : Code := { maxStack := 0, maxLocals := 1, code := object_method_1_code, exceptionTable := #[], attributes := #[] }
def k0m0 : Method := { name := "<init>", desc := "()V", sig := { parameters := [], returnType := none }, accessFlags := 1, code := some k0c0 }
/-- java/lang/Object -/
def k0 : Class := { plain "java/lang/Object" none with
  accessFlags := 33
  interfaces := #[]
  cf := some (fileOf pool0 8 #[] #[{ accessFlags := 1, nameIndex := 5, descriptorIndex := 6, attributes := #[] }] 33 0 #[] #[])
  fields := #[]
  methods := #[k0m0]
  instanceTypes := #[]
  staticTypes := #[]
  resolved := Array.replicate 124 none
  statics := none }

def pool1 : Array CpInfo := pool [(2, .class_ 4), (1, u "java/lang/Object"), (0, u "<init>"), (0, u "()V"), (0, .integer 2147483647), (0, .class_ 9), (0, u "com/example/benchwire/benchwire/protocols/BoundedBuffer"), (0, .methodref 8 11), (0, .nameAndType 5 12), (0, u "(I)V"), (0, .methodref 8 14), (0, .nameAndType 15 16), (0, u "add"), (0, u "([BII)Z"), (0, .methodref 8 18), (0, .nameAndType 19 6), (0, u "clear"), (0, .methodref 8 21), (0, .nameAndType 22 23), (0, u "size"), (0, u "()I"), (0, .methodref 8 25), (0, .nameAndType 26 27), (0, u "get"), (0, u "(I)B"), (0, .methodref 8 29), (0, .nameAndType 15 30), (0, u "(B)Z"), (0, .class_ 32), (0, u "com/example/benchwire/benchwire/protocols/BoundedBufferClearPinLaw"), (2, u "law"), (0, u "(IIIII)Z")] 5

def k1m0 : Method := { name := "<init>", desc := "()V", sig := { parameters := [], returnType := none }, accessFlags := 1, code := none }
def k1c1 : Code := { maxStack := 4, maxLocals := 14, code := code, exceptionTable := #[], attributes := #[] }
def k1m1 : Method := { name := "law", desc := "(IIIII)Z", sig := { parameters := [.int, .int, .int, .int, .int], returnType := some .boolean }, accessFlags := 9, code := some k1c1 }
/-- com/example/benchwire/benchwire/protocols/BoundedBufferClearPinLaw -/
def k1 : Class := { plain "com/example/benchwire/benchwire/protocols/BoundedBufferClearPinLaw" (some 0) with
  accessFlags := 49
  interfaces := #[]
  cf := some (fileOf pool1 31 #[] #[{ accessFlags := 1, nameIndex := 5, descriptorIndex := 6, attributes := #[] }, { accessFlags := 9, nameIndex := 35, descriptorIndex := 36, attributes := #[] }] 49 2 #[] #[])
  fields := #[]
  methods := #[k1m0, k1m1]
  instanceTypes := #[]
  staticTypes := #[]
  resolved := Array.replicate 42 none
  statics := none }

def pool2 : Array CpInfo := pool [(1, .methodref 2 3), (0, .class_ 4), (0, .nameAndType 5 6), (0, u "java/lang/Object"), (0, u "<init>"), (0, u "()V"), (0, .fieldref 8 9), (0, .class_ 10), (0, .nameAndType 11 12), (0, u "com/example/benchwire/benchwire/protocols/BoundedBuffer"), (0, u "limit"), (0, u "I"), (0, .methodref 14 15), (0, .class_ 16), (0, .nameAndType 17 18), (0, u "java/lang/Math"), (0, u "min"), (0, u "(II)I"), (0, .fieldref 8 20), (0, .nameAndType 21 22), (0, u "bytes"), (0, u "[B"), (0, .methodref 8 24), (0, .nameAndType 25 26), (0, u "makeRoom"), (0, u "(I)Z"), (0, .fieldref 8 28), (0, .nameAndType 29 12), (0, u "size"), (0, .methodref 31 32), (0, .class_ 33), (0, .nameAndType 34 35), (0, u "java/lang/System"), (0, u "arraycopy"), (0, u "(Ljava/lang/Object;ILjava/lang/Object;II)V"), (0, .methodref 37 38), (0, .class_ 39), (0, .nameAndType 40 18), (0, u "java/util/Objects"), (0, u "checkIndex"), (0, .methodref 42 43), (0, .class_ 44), (0, .nameAndType 45 46), (0, u "java/util/Arrays"), (0, u "copyOf"), (0, u "([BI)[B"), (10, u "clear"), (0, .long 2), (1, .methodref 14 61), (0, .nameAndType 62 63), (0, u "max"), (0, u "(JJ)J"), (0, .methodref 14 65), (0, .nameAndType 17 63), (0, u "INITIAL_CAPACITY"), (2, u "(I)V"), (2, u "add"), (0, u "(B)Z"), (1, u "([BII)Z"), (0, u "()I"), (0, u "get"), (0, u "(I)B")] 7

def k2c0 : Code := { maxStack := 3, maxLocals := 2, code := prog_153_method_1_code, exceptionTable := #[], attributes := #[] }
def k2m0 : Method := { name := "<init>", desc := "(I)V", sig := { parameters := [.int], returnType := none }, accessFlags := 1, code := some k2c0 }
def k2c1 : Code := { maxStack := 5, maxLocals := 2, code := prog_153_method_2_code, exceptionTable := #[], attributes := #[] }
def k2m1 : Method := { name := "add", desc := "(B)Z", sig := { parameters := [.byte], returnType := some .boolean }, accessFlags := 1, code := some k2c1 }
def k2c2 : Code := { maxStack := 5, maxLocals := 4, code := prog_153_method_3_code, exceptionTable := #[], attributes := #[] }
def k2m2 : Method := { name := "add", desc := "([BII)Z", sig := { parameters := [(.array .byte), .int, .int], returnType := some .boolean }, accessFlags := 1, code := some k2c2 }
def k2c3 : Code := { maxStack := 1, maxLocals := 1, code := prog_153_method_4_code, exceptionTable := #[], attributes := #[] }
def k2m3 : Method := { name := "size", desc := "()I", sig := { parameters := [], returnType := some .int }, accessFlags := 1, code := some k2c3 }
def k2c4 : Code := { maxStack := 2, maxLocals := 2, code := prog_153_method_5_code, exceptionTable := #[], attributes := #[] }
def k2m4 : Method := { name := "get", desc := "(I)B", sig := { parameters := [.int], returnType := some .byte }, accessFlags := 1, code := some k2c4 }
def k2c5 : Code := { maxStack := 2, maxLocals := 1, code := prog_153_method_10_code, exceptionTable := #[], attributes := #[] }
def k2m5 : Method := { name := "clear", desc := "()V", sig := { parameters := [], returnType := none }, accessFlags := 1, code := some k2c5 }
def k2c6 : Code := { maxStack := 8, maxLocals := 5, code := prog_153_method_11_code, exceptionTable := #[], attributes := #[] }
def k2m6 : Method := { name := "makeRoom", desc := "(I)Z", sig := { parameters := [.int], returnType := some .boolean }, accessFlags := 2, code := some k2c6 }
/-- com/example/benchwire/benchwire/protocols/BoundedBuffer -/
def k2 : Class := { plain "com/example/benchwire/benchwire/protocols/BoundedBuffer" (some 0) with
  accessFlags := 49
  interfaces := #[]
  cf := some (fileOf pool2 8 #[] #[{ accessFlags := 1, nameIndex := 5, descriptorIndex := 69, attributes := #[] }, { accessFlags := 1, nameIndex := 72, descriptorIndex := 73, attributes := #[] }, { accessFlags := 1, nameIndex := 72, descriptorIndex := 75, attributes := #[] }, { accessFlags := 1, nameIndex := 29, descriptorIndex := 76, attributes := #[] }, { accessFlags := 1, nameIndex := 77, descriptorIndex := 78, attributes := #[] }, { accessFlags := 1, nameIndex := 57, descriptorIndex := 6, attributes := #[] }, { accessFlags := 2, nameIndex := 25, descriptorIndex := 26, attributes := #[] }] 49 2 #[] #[{ accessFlags := 26, nameIndex := 66, descriptorIndex := 12, attributes := #[] }, { accessFlags := 18, nameIndex := 11, descriptorIndex := 12, attributes := #[] }, { accessFlags := 2, nameIndex := 21, descriptorIndex := 22, attributes := #[] }, { accessFlags := 2, nameIndex := 29, descriptorIndex := 12, attributes := #[] }])
  fields := #[{ name := "INITIAL_CAPACITY", type := .int, accessFlags := 26, slot := 0, constantValue := 0 }, { name := "limit", type := .int, accessFlags := 18, slot := 0, constantValue := 0 }, { name := "bytes", type := (.array .byte), accessFlags := 2, slot := 1, constantValue := 0 }, { name := "size", type := .int, accessFlags := 2, slot := 2, constantValue := 0 }]
  methods := #[k2m0, k2m1, k2m2, k2m3, k2m4, k2m5, k2m6]
  instanceTypes := #[.int, (.array .byte), .int]
  staticTypes := #[.int]
  resolved := Array.replicate 86 none
  statics := none }

def pool3 : Array CpInfo := pool [(1, .class_ 2), (0, u "java/lang/Math"), (1, .class_ 6), (1, u "java/lang/Object"), (0, u "<init>"), (0, u "()V"), (89, .class_ 100), (1, u "java/lang/Math$RandomNumberGeneratorHolder"), (20, u "(JJ)J"), (50, u "negativeZeroFloatBits"), (0, u "J"), (2, u "negativeZeroDoubleBits"), (21, u "max"), (2, u "min"), (43, u "$assertionsDisabled"), (0, u "Z"), (88, u "(II)I"), (2, u "twoToTheDoubleScaleDown"), (0, u "D"), (4, u "twoToTheDoubleScaleUp"), (9, u "E"), (3, u "PI"), (2, u "TAU"), (2, u "DEGREES_TO_RADIANS"), (0, u "RADIANS_TO_DEGREES")] 94

def k3m0 : Method := { name := "<init>", desc := "()V", sig := { parameters := [], returnType := none }, accessFlags := 2, code := none }
def k3c1 : Code := { maxStack := 4, maxLocals := 4, code := jdk_29_method_66_code, exceptionTable := #[], attributes := #[] }
def k3m1 : Method := { name := "max", desc := "(JJ)J", sig := { parameters := [.long, .long], returnType := some .long }, accessFlags := 9, code := some k3c1 }
def k3c2 : Code := { maxStack := 2, maxLocals := 2, code := jdk_29_method_69_code, exceptionTable := #[], attributes := #[] }
def k3m2 : Method := { name := "min", desc := "(II)I", sig := { parameters := [.int, .int], returnType := some .int }, accessFlags := 9, code := some k3c2 }
def k3c3 : Code := { maxStack := 4, maxLocals := 4, code := jdk_29_method_70_code, exceptionTable := #[], attributes := #[] }
def k3m3 : Method := { name := "min", desc := "(JJ)J", sig := { parameters := [.long, .long], returnType := some .long }, accessFlags := 9, code := some k3c3 }
/-- java/lang/Math -/
def k3 : Class := { plain "java/lang/Math" (some 0) with
  accessFlags := 49
  interfaces := #[]
  cf := some (fileOf pool3 1 #[.nestMembers #[98]] #[{ accessFlags := 2, nameIndex := 7, descriptorIndex := 8, attributes := #[] }, { accessFlags := 9, nameIndex := 198, descriptorIndex := 121, attributes := #[] }, { accessFlags := 9, nameIndex := 201, descriptorIndex := 335, attributes := #[] }, { accessFlags := 9, nameIndex := 201, descriptorIndex := 121, attributes := #[] }] 49 4 #[] #[{ accessFlags := 25, nameIndex := 354, descriptorIndex := 339, attributes := #[] }, { accessFlags := 25, nameIndex := 358, descriptorIndex := 339, attributes := #[] }, { accessFlags := 25, nameIndex := 361, descriptorIndex := 339, attributes := #[] }, { accessFlags := 26, nameIndex := 364, descriptorIndex := 339, attributes := #[] }, { accessFlags := 26, nameIndex := 365, descriptorIndex := 339, attributes := #[] }, { accessFlags := 26, nameIndex := 172, descriptorIndex := 173, attributes := #[] }, { accessFlags := 26, nameIndex := 176, descriptorIndex := 173, attributes := #[] }, { accessFlags := 8, nameIndex := 344, descriptorIndex := 339, attributes := #[] }, { accessFlags := 8, nameIndex := 338, descriptorIndex := 339, attributes := #[] }, { accessFlags := 4120, nameIndex := 245, descriptorIndex := 246, attributes := #[] }])
  fields := #[{ name := "E", type := .double, accessFlags := 25, slot := 0, constantValue := 0 }, { name := "PI", type := .double, accessFlags := 25, slot := 1, constantValue := 0 }, { name := "TAU", type := .double, accessFlags := 25, slot := 2, constantValue := 0 }, { name := "DEGREES_TO_RADIANS", type := .double, accessFlags := 26, slot := 3, constantValue := 0 }, { name := "RADIANS_TO_DEGREES", type := .double, accessFlags := 26, slot := 4, constantValue := 0 }, { name := "negativeZeroFloatBits", type := .long, accessFlags := 26, slot := 5, constantValue := 0 }, { name := "negativeZeroDoubleBits", type := .long, accessFlags := 26, slot := 6, constantValue := 0 }, { name := "twoToTheDoubleScaleUp", type := .double, accessFlags := 8, slot := 7, constantValue := 0 }, { name := "twoToTheDoubleScaleDown", type := .double, accessFlags := 8, slot := 8, constantValue := 0 }, { name := "$assertionsDisabled", type := .boolean, accessFlags := 4120, slot := 9, constantValue := 0 }]
  methods := #[k3m0, k3m1, k3m2, k3m3]
  instanceTypes := #[]
  staticTypes := #[.double, .double, .double, .double, .double, .long, .long, .double, .double, .boolean]
  resolved := Array.replicate 460 none
  statics := none }

def pool4 : Array CpInfo := pool [(2, .class_ 4), (1, u "java/lang/Object"), (0, u "<init>"), (0, u "()V"), (1, .class_ 10), (1, u "java/lang/System"), (0, u "allowSecurityManager"), (0, u "I"), (16, u "cons"), (0, u "Ljava/io/Console;"), (77, .class_ 110), (1, u "java/lang/System$CallersHolder"), (43, u "initialErrStream"), (0, u "Ljava/io/PrintStream;"), (19, u "security"), (0, u "Ljava/lang/SecurityManager;"), (31, .class_ 209), (0, u "java/lang/System$1"), (7, u "props"), (0, u "Ljava/util/Properties;"), (2, u "lineSeparator"), (0, u "Ljava/lang/String;"), (96, .class_ 321), (1, u "java/lang/System$LoggerFinder"), (5, .class_ 328), (0, u "java/lang/System$Logger"), (67, u "err"), (2, u "out"), (91, u "notSupportedJnuEncoding"), (15, u "in"), (17, u "initialIn"), (0, u "Ljava/io/InputStream;"), (35, u "bootLayer"), (0, u "Ljava/lang/ModuleLayer;"), (99, .class_ 664), (0, u "java/lang/System$2"), (9, u "NEVER"), (2, u "MAYBE"), (49, u "arraycopy"), (0, u "(Ljava/lang/Object;ILjava/lang/Object;II)V"), (72, .class_ 802), (0, u "java/lang/System$Logger$Level")] 31

def k4m0 : Method := { name := "<init>", desc := "()V", sig := { parameters := [], returnType := none }, accessFlags := 2, code := none }
def k4m1 : Method := { name := "arraycopy", desc := "(Ljava/lang/Object;ILjava/lang/Object;II)V", sig := { parameters := [(.object "java/lang/Object"), .int, (.object "java/lang/Object"), .int, .int], returnType := none }, accessFlags := 265, code := none }
/-- java/lang/System -/
def k4 : Class := { plain "java/lang/System" (some 0) with
  accessFlags := 49
  interfaces := #[]
  cf := some (fileOf pool4 8 #[.nestMembers #[319, 327, 801, 108, 663, 208]] #[{ accessFlags := 2, nameIndex := 5, descriptorIndex := 6, attributes := #[] }, { accessFlags := 265, nameIndex := 727, descriptorIndex := 728, attributes := #[] }] 49 2 #[] #[{ accessFlags := 25, nameIndex := 507, descriptorIndex := 526, attributes := #[] }, { accessFlags := 25, nameIndex := 399, descriptorIndex := 155, attributes := #[] }, { accessFlags := 25, nameIndex := 396, descriptorIndex := 155, attributes := #[] }, { accessFlags := 10, nameIndex := 525, descriptorIndex := 526, attributes := #[] }, { accessFlags := 26, nameIndex := 674, descriptorIndex := 12, attributes := #[] }, { accessFlags := 26, nameIndex := 677, descriptorIndex := 12, attributes := #[] }, { accessFlags := 10, nameIndex := 11, descriptorIndex := 12, attributes := #[] }, { accessFlags := 74, nameIndex := 175, descriptorIndex := 176, attributes := #[] }, { accessFlags := 10, nameIndex := 491, descriptorIndex := 222, attributes := #[] }, { accessFlags := 74, nameIndex := 29, descriptorIndex := 30, attributes := #[] }, { accessFlags := 74, nameIndex := 154, descriptorIndex := 155, attributes := #[] }, { accessFlags := 10, nameIndex := 217, descriptorIndex := 218, attributes := #[] }, { accessFlags := 10, nameIndex := 221, descriptorIndex := 222, attributes := #[] }, { accessFlags := 8, nameIndex := 562, descriptorIndex := 563, attributes := #[] }])
  fields := #[{ name := "in", type := (.object "java/io/InputStream"), accessFlags := 25, slot := 0, constantValue := 0 }, { name := "out", type := (.object "java/io/PrintStream"), accessFlags := 25, slot := 1, constantValue := 0 }, { name := "err", type := (.object "java/io/PrintStream"), accessFlags := 25, slot := 2, constantValue := 0 }, { name := "initialIn", type := (.object "java/io/InputStream"), accessFlags := 10, slot := 3, constantValue := 0 }, { name := "NEVER", type := .int, accessFlags := 26, slot := 4, constantValue := 0 }, { name := "MAYBE", type := .int, accessFlags := 26, slot := 5, constantValue := 0 }, { name := "allowSecurityManager", type := .int, accessFlags := 10, slot := 6, constantValue := 0 }, { name := "security", type := (.object "java/lang/SecurityManager"), accessFlags := 74, slot := 7, constantValue := 0 }, { name := "notSupportedJnuEncoding", type := (.object "java/lang/String"), accessFlags := 10, slot := 8, constantValue := 0 }, { name := "cons", type := (.object "java/io/Console"), accessFlags := 74, slot := 9, constantValue := 0 }, { name := "initialErrStream", type := (.object "java/io/PrintStream"), accessFlags := 74, slot := 10, constantValue := 0 }, { name := "props", type := (.object "java/util/Properties"), accessFlags := 10, slot := 11, constantValue := 0 }, { name := "lineSeparator", type := (.object "java/lang/String"), accessFlags := 10, slot := 12, constantValue := 0 }, { name := "bootLayer", type := (.object "java/lang/ModuleLayer"), accessFlags := 8, slot := 13, constantValue := 0 }]
  methods := #[k4m0, k4m1]
  instanceTypes := #[]
  staticTypes := #[(.object "java/io/InputStream"), (.object "java/io/PrintStream"), (.object "java/io/PrintStream"), (.object "java/io/InputStream"), .int, .int, .int, (.object "java/lang/SecurityManager"), (.object "java/lang/String"), (.object "java/io/Console"), (.object "java/io/PrintStream"), (.object "java/util/Properties"), (.object "java/lang/String"), (.object "java/lang/ModuleLayer")]
  resolved := Array.replicate 834 none
  statics := none }

def pool5 : Array CpInfo := pool [(2, .class_ 4), (1, u "java/lang/Object"), (0, u "<init>"), (0, u "()V"), (35, .class_ 44), (1, u "java/util/Objects"), (60, .methodref 106 107), (0, .class_ 108), (0, .nameAndType 109 110), (0, u "jdk/internal/util/Preconditions"), (0, u "checkIndex"), (0, u "(IILjava/util/function/BiFunction;)I"), (60, u "(II)I")] 12

def k5m0 : Method := { name := "<init>", desc := "()V", sig := { parameters := [], returnType := none }, accessFlags := 2, code := none }
def k5c1 : Code := { maxStack := 3, maxLocals := 2, code := jdk_31_method_17_code, exceptionTable := #[], attributes := #[] }
def k5m1 : Method := { name := "checkIndex", desc := "(II)I", sig := { parameters := [.int, .int], returnType := some .int }, accessFlags := 9, code := some k5c1 }
/-- java/util/Objects -/
def k5 : Class := { plain "java/util/Objects" (some 0) with
  accessFlags := 49
  interfaces := #[]
  cf := some (fileOf pool5 42 #[] #[{ accessFlags := 2, nameIndex := 5, descriptorIndex := 6, attributes := #[] }, { accessFlags := 9, nameIndex := 109, descriptorIndex := 171, attributes := #[] }] 49 2 #[] #[])
  fields := #[]
  methods := #[k5m0, k5m1]
  instanceTypes := #[]
  staticTypes := #[]
  resolved := Array.replicate 184 none
  statics := none }

def pool6 : Array CpInfo := pool [(2, .class_ 4), (1, u "java/lang/Object"), (0, u "<init>"), (0, u "()V"), (17, .class_ 26), (1, u "jdk/internal/util/Preconditions"), (6, u "checkIndex"), (21, .class_ 56), (0, u "jdk/internal/util/Preconditions$4"), (57, .class_ 115), (0, u "jdk/internal/util/Preconditions$1"), (7, u "SIOOBE_FORMATTER"), (0, u "Ljava/util/function/BiFunction;"), (0, .class_ 126), (0, u "jdk/internal/util/Preconditions$2"), (3, u "AIOOBE_FORMATTER"), (0, .class_ 132), (0, u "jdk/internal/util/Preconditions$3"), (3, u "IOOBE_FORMATTER"), (41, u "(IILjava/util/function/BiFunction;)I")] 15

def k6m0 : Method := { name := "<init>", desc := "()V", sig := { parameters := [], returnType := none }, accessFlags := 1, code := none }
def k6c1 : Code := { maxStack := 3, maxLocals := 3, code := jdk_41_method_11_code, exceptionTable := #[], attributes := #[] }
def k6m1 : Method := { name := "checkIndex", desc := "(IILjava/util/function/BiFunction;)I", sig := { parameters := [.int, .int, (.object "java/util/function/BiFunction")], returnType := some .int }, accessFlags := 9, code := some k6c1 }
/-- jdk/internal/util/Preconditions -/
def k6 : Class := { plain "jdk/internal/util/Preconditions" (some 0) with
  accessFlags := 33
  interfaces := #[]
  cf := some (fileOf pool6 24 #[.nestMembers #[55, 131, 125, 114]] #[{ accessFlags := 1, nameIndex := 5, descriptorIndex := 6, attributes := #[] }, { accessFlags := 9, nameIndex := 33, descriptorIndex := 178, attributes := #[] }] 33 2 #[] #[{ accessFlags := 25, nameIndex := 123, descriptorIndex := 124, attributes := #[] }, { accessFlags := 25, nameIndex := 130, descriptorIndex := 124, attributes := #[] }, { accessFlags := 25, nameIndex := 136, descriptorIndex := 124, attributes := #[] }])
  fields := #[{ name := "SIOOBE_FORMATTER", type := (.object "java/util/function/BiFunction"), accessFlags := 25, slot := 0, constantValue := 0 }, { name := "AIOOBE_FORMATTER", type := (.object "java/util/function/BiFunction"), accessFlags := 25, slot := 1, constantValue := 0 }, { name := "IOOBE_FORMATTER", type := (.object "java/util/function/BiFunction"), accessFlags := 25, slot := 2, constantValue := 0 }]
  methods := #[k6m0, k6m1]
  instanceTypes := #[]
  staticTypes := #[(.object "java/util/function/BiFunction"), (.object "java/util/function/BiFunction"), (.object "java/util/function/BiFunction")]
  resolved := Array.replicate 194 none
  statics := none }

def pool7 : Array CpInfo := pool [(2, .class_ 4), (1, u "java/lang/Object"), (0, u "<init>"), (0, u "()V"), (7, .class_ 16), (1, u "java/util/Arrays"), (57, .class_ 76), (1, u "java/util/Arrays$NaturalOrder"), (36, .class_ 115), (1, u "java/util/Arrays$LegacyMergeSort"), (1, u "Z"), (32, .methodref 151 152), (0, .class_ 153), (0, .nameAndType 154 155), (0, u "java/lang/System"), (0, u "arraycopy"), (0, u "(Ljava/lang/Object;ILjava/lang/Object;II)V"), (146, u "copyOf"), (1, .methodref 305 306), (0, .class_ 307), (0, .nameAndType 308 309), (0, u "java/lang/Math"), (0, u "min"), (0, u "(II)I"), (65, .class_ 376), (0, u "java/util/Arrays$ArrayList"), (68, u "$assertionsDisabled"), (269, u "MIN_ARRAY_SORT_GRAN"), (0, u "I"), (2, u "INSERTIONSORT_THRESHOLD"), (149, u "([BI)[B"), (105, .class_ 976), (0, u "java/util/Arrays$ArrayItr")] 52

def k7m0 : Method := { name := "<init>", desc := "()V", sig := { parameters := [], returnType := none }, accessFlags := 2, code := none }
def k7c1 : Code := { maxStack := 6, maxLocals := 3, code := jdk_65_method_121_code, exceptionTable := #[], attributes := #[] }
def k7m1 : Method := { name := "copyOf", desc := "([BI)[B", sig := { parameters := [(.array .byte), .int], returnType := some (.array .byte) }, accessFlags := 9, code := some k7c1 }
/-- java/util/Arrays -/
def k7 : Class := { plain "java/util/Arrays" (some 0) with
  accessFlags := 49
  interfaces := #[]
  cf := some (fileOf pool7 14 #[.nestMembers #[975, 375, 113, 74]] #[{ accessFlags := 2, nameIndex := 5, descriptorIndex := 6, attributes := #[] }, { accessFlags := 9, nameIndex := 302, descriptorIndex := 869, attributes := #[] }] 49 2 #[] #[{ accessFlags := 26, nameIndex := 715, descriptorIndex := 716, attributes := #[] }, { accessFlags := 26, nameIndex := 719, descriptorIndex := 716, attributes := #[] }, { accessFlags := 4120, nameIndex := 445, descriptorIndex := 117, attributes := #[] }])
  fields := #[{ name := "MIN_ARRAY_SORT_GRAN", type := .int, accessFlags := 26, slot := 0, constantValue := 0 }, { name := "INSERTIONSORT_THRESHOLD", type := .int, accessFlags := 26, slot := 1, constantValue := 0 }, { name := "$assertionsDisabled", type := .boolean, accessFlags := 4120, slot := 2, constantValue := 0 }]
  methods := #[k7m0, k7m1]
  instanceTypes := #[]
  staticTypes := #[.int, .int, .boolean]
  resolved := Array.replicate 1029 none
  statics := none }

def pool8 : Array CpInfo := pool [(1, u "java/lang/Cloneable"), (0, .class_ 1), (0, u "java/lang/Object"), (0, .class_ 3)] 3

/-- java/lang/Cloneable -/
def k8 : Class := { plain "java/lang/Cloneable" (some 0) with
  accessFlags := 1537
  interfaces := #[]
  cf := some (fileOf pool8 2 #[] #[] 1537 4 #[] #[])
  fields := #[]
  methods := #[]
  instanceTypes := #[]
  staticTypes := #[]
  resolved := Array.replicate 8 none
  statics := none }

def pool9 : Array CpInfo := pool [(1, u "java/io/Serializable"), (0, .class_ 1), (0, u "java/lang/Object"), (0, .class_ 3)] 3

/-- java/io/Serializable -/
def k9 : Class := { plain "java/io/Serializable" (some 0) with
  accessFlags := 1537
  interfaces := #[]
  cf := some (fileOf pool9 2 #[] #[] 1537 4 #[] #[])
  fields := #[]
  methods := #[]
  instanceTypes := #[]
  staticTypes := #[]
  resolved := Array.replicate 8 none
  statics := none }

/-- the primitive byte -/
def k10 : Class := { plain "byte" none with kind := .primitive 'B', accessFlags := 0x411 }
/-- [B -/
def k11 : Class := { plain "[B" (some 0) with kind := .array 10 .byte, interfaces := #[8, 9], accessFlags := 1041 }

/-- the primitive int -/
def k12 : Class := { plain "int" none with kind := .primitive 'I', accessFlags := 0x411 }
/-- [I -/
def k13 : Class := { plain "[I" (some 0) with kind := .array 12 .int, interfaces := #[8, 9], accessFlags := 1041 }

def heap : Heap := #[]
def classes : Array Class := #[k0, k1, k2, k3, k4, k5, k6, k7, k8, k9, k10, k11, k12, k13]
def interned : List (Array UInt16 × Addr) := []
def slotsUsed : Nat := 0
def theMethod : MethodId := ⟨1, 1⟩
def args0 : Array Value := #[.int 5, .int 5, .int 5, .int 5, .int 5]
def aboutOver (below : List Frame) : State where
  vm := { classes := classes, interned := interned.toArray }
  heap := heap
  slotsUsed := slotsUsed
  threads := #[{ frames := .invoking theMethod args0 :: below }]
def below0 : List Frame := [.native { method := ⟨0, 0⟩, args := #[] }]
def about1 : State := aboutOver below0
def p0 : Program := .bare "" "" ""
def e0 : Env := launch0.env 0 0 0
theorem w_frames : about1.frames = Frame.invoking theMethod args0 :: below0 := rfl
set_option maxRecDepth 65536 in
theorem w_args : argsFit about1.vm theMethod args0 = true := by decide +kernel
set_option maxRecDepth 65536 in
theorem w_heap : heapFits about1 = true := by decide +kernel
set_option maxRecDepth 65536 in
theorem w_runnable : about1.curStatus? = some .runnable := by decide +kernel
set_option maxRecDepth 65536 in
theorem w_alone : about1.alone = true := by decide +kernel
set_option maxRecDepth 65536 in
theorem w_named : about1.methodNamed? x = some theMethod := by decide +kernel
set_option maxRecDepth 65536 in
theorem w_hears : about1.hears theMethod below0 = true := by decide +kernel
set_option maxRecDepth 65536 in
theorem w_ripe : about1.ripe theMethod args0 below0 = true := by decide +kernel
theorem w_running : about1.status = .running := rfl
set_option maxRecDepth 65536 in
theorem w_room : about1.hasRoom e0.platform room_1 = true :=
  launch0.hasRoom_least _ room_1 (by decide +kernel) (by decide +kernel) (by decide +kernel) (by decide +kernel) (by decide +kernel) (by decide +kernel)
theorem allAtoms_all (ts : List Jvm.Cond) (a : Array Jvm.Value) (st : Jvm.State) : (allAtoms ts).before a st = ts.all (fun c => c.before a st) := by
  induction ts with
  | nil => rfl
  | cons c t ih =>
    show (Jvm.Cond.and c (allAtoms t)).before a st = _
    rw [Jvm.Cond.before_and, ih, List.all_cons]
def words1 : List Jvm.Cond := Jvm.Cond.code x code maxLocals ret :: tables_1
/-- a 'code' word, met by the world's own term for the bytes: nothing is compared byte by byte -/
theorem code_word {y : MethodName} {bytes : ByteArray} {mx : Nat} {rt : Option FieldType} {a : Array Value} {s : State} {m : MethodId} {meth : Method} {c : Code} (h1 : s.methodNamed? y = some m) (h2 : s.vm.method? m = some meth) (h3 : meth.code = some c) (h4 : c.code = bytes)
    (h5 : (c.maxLocals == mx && c.exceptionTable.isEmpty && decide (c.maxStack ≤ mostOperands) && decide (meth.sig.returnType = rt) && !meth.locks && decide (parseMethodDescriptor y.desc = some meth.sig)) = true) : (Jvm.Cond.code y bytes mx rt).before a s = true := by
  simp only [Bool.and_eq_true, beq_iff_eq, Bool.not_eq_true', decide_eq_true_eq] at h5
  obtain ⟨⟨⟨⟨⟨g1, g2⟩, g3⟩, g4⟩, g5⟩, g6⟩ := h5
  simp [Cond.before, Cond.holds, Cond.value, h1, h2, h3, h4, g1, g2, g3, g4, g5, g6]
def isCode : Jvm.Cond → Bool
  | .code _ _ _ _ => true
  | _ => false
theorem all_split {L : List Jvm.Cond} {P : Jvm.Cond → Bool} (h1 : L.all (fun c => isCode c || P c) = true) (h2 : ∀ c ∈ L.filter isCode, P c = true) : L.all P = true := by
  refine List.all_eq_true.mpr fun c hc => ?_
  have h := List.all_eq_true.mp h1 c hc
  rcases Bool.eq_false_or_eq_true (isCode c) with hi | hi
  · exact h2 c (List.mem_filter.mpr ⟨hc, hi⟩)
  · simpa [hi] using h
set_option maxRecDepth 65536 in
theorem w_c0 : (Jvm.Cond.code x code maxLocals ret).before args0 about1 = true := code_word (m := ⟨1, 1⟩) (meth := k1m1) (c := k1c1) (by decide +kernel) rfl rfl rfl (by decide +kernel)
set_option maxRecDepth 65536 in
theorem w_c1 : (Jvm.Cond.code ({ cls := "com/example/benchwire/benchwire/protocols/BoundedBuffer", name := "<init>", desc := "(I)V" } : Jvm.MethodName) prog_153_method_1_code (2 : Nat) (Option.none : Option Jvm.ClassFile.FieldType)).before args0 about1 = true := code_word (m := ⟨2, 0⟩) (meth := k2m0) (c := k2c0) (by decide +kernel) rfl rfl rfl (by decide +kernel)
set_option maxRecDepth 65536 in
theorem w_c2 : (Jvm.Cond.code ({ cls := "java/lang/Object", name := "<init>", desc := "()V" } : Jvm.MethodName) object_method_1_code (1 : Nat) (Option.none : Option Jvm.ClassFile.FieldType)).before args0 about1 = true := code_word (m := ⟨0, 0⟩) (meth := k0m0) (c := k0c0) (by decide +kernel) rfl rfl rfl (by decide +kernel)
set_option maxRecDepth 65536 in
theorem w_c3 : (Jvm.Cond.code ({ cls := "java/lang/Math", name := "min", desc := "(II)I" } : Jvm.MethodName) jdk_29_method_69_code (2 : Nat) (Option.some Jvm.ClassFile.FieldType.int)).before args0 about1 = true := code_word (m := ⟨3, 2⟩) (meth := k3m2) (c := k3c2) (by decide +kernel) rfl rfl rfl (by decide +kernel)
set_option maxRecDepth 65536 in
theorem w_c4 : (Jvm.Cond.code ({ cls := "com/example/benchwire/benchwire/protocols/BoundedBuffer", name := "add", desc := "([BII)Z" } : Jvm.MethodName) prog_153_method_3_code (4 : Nat) (Option.some Jvm.ClassFile.FieldType.boolean)).before args0 about1 = true := code_word (m := ⟨2, 2⟩) (meth := k2m2) (c := k2c2) (by decide +kernel) rfl rfl rfl (by decide +kernel)
set_option maxRecDepth 65536 in
theorem w_c5 : (Jvm.Cond.code ({ cls := "com/example/benchwire/benchwire/protocols/BoundedBuffer", name := "makeRoom", desc := "(I)Z" } : Jvm.MethodName) prog_153_method_11_code (5 : Nat) (Option.some Jvm.ClassFile.FieldType.boolean)).before args0 about1 = true := code_word (m := ⟨2, 6⟩) (meth := k2m6) (c := k2c6) (by decide +kernel) rfl rfl rfl (by decide +kernel)
set_option maxRecDepth 65536 in
theorem w_c6 : (Jvm.Cond.code ({ cls := "com/example/benchwire/benchwire/protocols/BoundedBuffer", name := "clear", desc := "()V" } : Jvm.MethodName) prog_153_method_10_code (1 : Nat) (Option.none : Option Jvm.ClassFile.FieldType)).before args0 about1 = true := code_word (m := ⟨2, 5⟩) (meth := k2m5) (c := k2c5) (by decide +kernel) rfl rfl rfl (by decide +kernel)
set_option maxRecDepth 65536 in
theorem w_c7 : (Jvm.Cond.code ({ cls := "com/example/benchwire/benchwire/protocols/BoundedBuffer", name := "size", desc := "()I" } : Jvm.MethodName) prog_153_method_4_code (1 : Nat) (Option.some Jvm.ClassFile.FieldType.int)).before args0 about1 = true := code_word (m := ⟨2, 3⟩) (meth := k2m3) (c := k2c3) (by decide +kernel) rfl rfl rfl (by decide +kernel)
set_option maxRecDepth 65536 in
theorem w_c8 : (Jvm.Cond.code ({ cls := "com/example/benchwire/benchwire/protocols/BoundedBuffer", name := "add", desc := "(B)Z" } : Jvm.MethodName) prog_153_method_2_code (2 : Nat) (Option.some Jvm.ClassFile.FieldType.boolean)).before args0 about1 = true := code_word (m := ⟨2, 1⟩) (meth := k2m1) (c := k2c1) (by decide +kernel) rfl rfl rfl (by decide +kernel)
set_option maxRecDepth 65536 in
theorem w_c9 : (Jvm.Cond.code ({ cls := "com/example/benchwire/benchwire/protocols/BoundedBuffer", name := "get", desc := "(I)B" } : Jvm.MethodName) prog_153_method_5_code (2 : Nat) (Option.some Jvm.ClassFile.FieldType.byte)).before args0 about1 = true := code_word (m := ⟨2, 4⟩) (meth := k2m4) (c := k2c4) (by decide +kernel) rfl rfl rfl (by decide +kernel)
set_option maxRecDepth 65536 in
theorem w_c10 : (Jvm.Cond.code ({ cls := "java/util/Objects", name := "checkIndex", desc := "(II)I" } : Jvm.MethodName) jdk_31_method_17_code (2 : Nat) (Option.some Jvm.ClassFile.FieldType.int)).before args0 about1 = true := code_word (m := ⟨5, 1⟩) (meth := k5m1) (c := k5c1) (by decide +kernel) rfl rfl rfl (by decide +kernel)
set_option maxRecDepth 65536 in
theorem w_c11 : (Jvm.Cond.code ({ cls := "jdk/internal/util/Preconditions", name := "checkIndex", desc := "(IILjava/util/function/BiFunction;)I" } : Jvm.MethodName) jdk_41_method_11_code (3 : Nat) (Option.some Jvm.ClassFile.FieldType.int)).before args0 about1 = true := code_word (m := ⟨6, 1⟩) (meth := k6m1) (c := k6c1) (by decide +kernel) rfl rfl rfl (by decide +kernel)
set_option maxRecDepth 65536 in
theorem w_c12 : (Jvm.Cond.code ({ cls := "java/lang/Math", name := "max", desc := "(JJ)J" } : Jvm.MethodName) jdk_29_method_66_code (4 : Nat) (Option.some Jvm.ClassFile.FieldType.long)).before args0 about1 = true := code_word (m := ⟨3, 1⟩) (meth := k3m1) (c := k3c1) (by decide +kernel) rfl rfl rfl (by decide +kernel)
set_option maxRecDepth 65536 in
theorem w_c13 : (Jvm.Cond.code ({ cls := "java/lang/Math", name := "min", desc := "(JJ)J" } : Jvm.MethodName) jdk_29_method_70_code (4 : Nat) (Option.some Jvm.ClassFile.FieldType.long)).before args0 about1 = true := code_word (m := ⟨3, 3⟩) (meth := k3m3) (c := k3c3) (by decide +kernel) rfl rfl rfl (by decide +kernel)
set_option maxRecDepth 65536 in
theorem w_c14 : (Jvm.Cond.code ({ cls := "java/util/Arrays", name := "copyOf", desc := "([BI)[B" } : Jvm.MethodName) jdk_65_method_121_code (3 : Nat) (Option.some (Jvm.ClassFile.FieldType.array Jvm.ClassFile.FieldType.byte))).before args0 about1 = true := code_word (m := ⟨7, 1⟩) (meth := k7m1) (c := k7c1) (by decide +kernel) rfl rfl rfl (by decide +kernel)
def codes1 : List Jvm.Cond := [Jvm.Cond.code x code maxLocals ret, Jvm.Cond.code ({ cls := "com/example/benchwire/benchwire/protocols/BoundedBuffer", name := "<init>", desc := "(I)V" } : Jvm.MethodName) prog_153_method_1_code (2 : Nat) (Option.none : Option Jvm.ClassFile.FieldType), Jvm.Cond.code ({ cls := "java/lang/Object", name := "<init>", desc := "()V" } : Jvm.MethodName) object_method_1_code (1 : Nat) (Option.none : Option Jvm.ClassFile.FieldType), Jvm.Cond.code ({ cls := "java/lang/Math", name := "min", desc := "(II)I" } : Jvm.MethodName) jdk_29_method_69_code (2 : Nat) (Option.some Jvm.ClassFile.FieldType.int), Jvm.Cond.code ({ cls := "com/example/benchwire/benchwire/protocols/BoundedBuffer", name := "add", desc := "([BII)Z" } : Jvm.MethodName) prog_153_method_3_code (4 : Nat) (Option.some Jvm.ClassFile.FieldType.boolean), Jvm.Cond.code ({ cls := "com/example/benchwire/benchwire/protocols/BoundedBuffer", name := "makeRoom", desc := "(I)Z" } : Jvm.MethodName) prog_153_method_11_code (5 : Nat) (Option.some Jvm.ClassFile.FieldType.boolean), Jvm.Cond.code ({ cls := "com/example/benchwire/benchwire/protocols/BoundedBuffer", name := "clear", desc := "()V" } : Jvm.MethodName) prog_153_method_10_code (1 : Nat) (Option.none : Option Jvm.ClassFile.FieldType), Jvm.Cond.code ({ cls := "com/example/benchwire/benchwire/protocols/BoundedBuffer", name := "size", desc := "()I" } : Jvm.MethodName) prog_153_method_4_code (1 : Nat) (Option.some Jvm.ClassFile.FieldType.int), Jvm.Cond.code ({ cls := "com/example/benchwire/benchwire/protocols/BoundedBuffer", name := "add", desc := "(B)Z" } : Jvm.MethodName) prog_153_method_2_code (2 : Nat) (Option.some Jvm.ClassFile.FieldType.boolean), Jvm.Cond.code ({ cls := "com/example/benchwire/benchwire/protocols/BoundedBuffer", name := "get", desc := "(I)B" } : Jvm.MethodName) prog_153_method_5_code (2 : Nat) (Option.some Jvm.ClassFile.FieldType.byte), Jvm.Cond.code ({ cls := "java/util/Objects", name := "checkIndex", desc := "(II)I" } : Jvm.MethodName) jdk_31_method_17_code (2 : Nat) (Option.some Jvm.ClassFile.FieldType.int), Jvm.Cond.code ({ cls := "jdk/internal/util/Preconditions", name := "checkIndex", desc := "(IILjava/util/function/BiFunction;)I" } : Jvm.MethodName) jdk_41_method_11_code (3 : Nat) (Option.some Jvm.ClassFile.FieldType.int), Jvm.Cond.code ({ cls := "java/lang/Math", name := "max", desc := "(JJ)J" } : Jvm.MethodName) jdk_29_method_66_code (4 : Nat) (Option.some Jvm.ClassFile.FieldType.long), Jvm.Cond.code ({ cls := "java/lang/Math", name := "min", desc := "(JJ)J" } : Jvm.MethodName) jdk_29_method_70_code (4 : Nat) (Option.some Jvm.ClassFile.FieldType.long), Jvm.Cond.code ({ cls := "java/util/Arrays", name := "copyOf", desc := "([BI)[B" } : Jvm.MethodName) jdk_65_method_121_code (3 : Nat) (Option.some (Jvm.ClassFile.FieldType.array Jvm.ClassFile.FieldType.byte))]
set_option maxRecDepth 65536 in
theorem codes_eq : words1.filter isCode = codes1 := rfl
theorem w_codes : ∀ c ∈ words1.filter isCode, c.before args0 about1 = true := by
  rw [codes_eq]
  intro c hc
  simp only [codes1, List.mem_cons, List.not_mem_nil, or_false] at hc
  rcases hc with rfl | rfl | rfl | rfl | rfl | rfl | rfl | rfl | rfl | rfl | rfl | rfl | rfl | rfl | rfl
  · exact w_c0
  · exact w_c1
  · exact w_c2
  · exact w_c3
  · exact w_c4
  · exact w_c5
  · exact w_c6
  · exact w_c7
  · exact w_c8
  · exact w_c9
  · exact w_c10
  · exact w_c11
  · exact w_c12
  · exact w_c13
  · exact w_c14
set_option maxRecDepth 65536 in
theorem w_t1 : (words1.take 24).all (fun c => isCode c || c.before args0 about1) = true := by decide +kernel
set_option maxRecDepth 65536 in
theorem w_t2 : ((words1.drop 24).take 24).all (fun c => isCode c || c.before args0 about1) = true := by decide +kernel
set_option maxRecDepth 65536 in
theorem w_t3 : (((words1.drop 24).drop 24).take 24).all (fun c => isCode c || c.before args0 about1) = true := by decide +kernel
set_option maxRecDepth 65536 in
theorem w_t4 : (((words1.drop 24).drop 24).drop 24).all (fun c => isCode c || c.before args0 about1) = true := by decide +kernel
theorem w_tables : (allAtoms (Jvm.Cond.code x code maxLocals ret :: tables_1)).before args0 about1 = true := by
  rw [allAtoms_all]
  show words1.all (fun c => c.before args0 about1) = true
  refine all_split ?_ w_codes
  rw [← List.take_append_drop 24 words1, List.all_append, w_t1, ← List.take_append_drop 24 (words1.drop 24), List.all_append, w_t2, ← List.take_append_drop 24 ((words1.drop 24).drop 24), List.all_append, w_t3, w_t4]
  rfl
set_option maxRecDepth 65536 in
theorem w_case : (Jvm.Cond.and given_1 narrow_1).before args0 about1 = true := by decide +kernel
theorem w_applies : (headSpec (Jvm.Cond.code x code maxLocals ret :: tables_1) room_1).applies x e0.platform about1 = true :=
  (Spec.applies_iff w_frames).mpr ⟨w_running, w_runnable, w_alone, w_named, w_hears, w_ripe, w_room, w_tables⟩
theorem atStart : AtStart classFile x code maxLocals ret World_1 tables_1 room_1 Calls_1 rest_1 Pre_1 launch0 p0 e0 about1 theMethod args0 below0 :=
  ⟨lists_1, trivial, launch0.admits_env _ _ _, launch0.least_env, fairChoices_fair.cas, fairChoices_fair.clock, w_frames, w_args, w_heap, w_applies, trivial, trivial, w_case⟩
end start1
theorem witness_1 : WitnessClaimed_1 := ⟨start1.p0, start1.e0, start1.about1, start1.theMethod, start1.args0, start1.below0, start1.atStart⟩
end Jvm.Pilot.@@N@@
